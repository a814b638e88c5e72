import PyProof.Rows.All
import Wide.All
import OpenK.AllK
import Wide.FinOn
import Lean
import PySem.Challenge.RW_bl0014_01
open PySem PySem.W PyProof.Rows PySem.Calls
set_option Elab.async false
set_option maxRecDepth 100000
set_option linter.unusedVariables false
set_option maxHeartbeats 8000000
namespace Mine
open_top hd for PySem.Challenge.rw_bl0014_01
end Mine
namespace Mine
/-! sums below a bound -/
def sN : Nat → (Nat → Int) → Int
  | 0, _ => 0
  | n + 1, g => sN n g + g n
theorem sN_congr {n : Nat} {g g' : Nat → Int} (h : ∀ x < n, g x = g' x) : sN n g = sN n g' := by
  induction n with
  | zero => rfl
  | succ n ih => rw [sN, sN, ih fun x hx => h x (by omega), h n (by omega)]
theorem sN_zero {n : Nat} {g : Nat → Int} (h : ∀ x < n, g x = 0) : sN n g = 0 := by
  induction n with
  | zero => rfl
  | succ n ih => rw [sN, ih fun x hx => h x (by omega), h n (by omega)]; rfl
theorem sN_add {n : Nat} {g g' : Nat → Int} : sN n (fun x => g x + g' x) = sN n g + sN n g' := by
  induction n with
  | zero => rfl
  | succ n ih => rw [sN, sN, sN, ih]; omega
theorem sN_sub {n : Nat} {g g' : Nat → Int} : sN n (fun x => g x - g' x) = sN n g - sN n g' := by
  induction n with
  | zero => rfl
  | succ n ih => rw [sN, sN, sN, ih]; omega
theorem sN_neg {n : Nat} {g : Nat → Int} : sN n (fun x => - g x) = - sN n g := by
  induction n with
  | zero => rfl
  | succ n ih => rw [sN, sN, ih]; omega
theorem sN_swap {n m : Nat} {g : Nat → Nat → Int} : sN n (fun x => sN m fun y => g x y) = sN m fun y => sN n fun x => g x y := by
  induction n with
  | zero => exact (sN_zero fun _ _ => rfl).symm
  | succ n ih => simp only [sN]; rw [sN_add, ih]
theorem sN_one {n k : Nat} {g : Nat → Int} (hk : k < n) (h : ∀ x < n, x ≠ k → g x = 0) : sN n g = g k := by
  induction n with
  | zero => omega
  | succ n ih =>
    rw [sN]
    by_cases e : k = n
    · subst e; rw [sN_zero fun x hx => h x (by omega) (by omega)]; omega
    · rw [ih (by omega) fun x hx => h x (by omega), h n (by omega) (by omega)]; omega
theorem sN_le {n : Nat} {g g' : Nat → Int} (h : ∀ x < n, g x ≤ g' x) : sN n g ≤ sN n g' := by
  induction n with
  | zero => exact Int.le_refl _
  | succ n ih =>
    have := ih fun x hx => h x (by omega)
    have := h n (by omega)
    rw [sN, sN]; omega
theorem sN_eq {n : Nat} {g g' : Nat → Int} (h : ∀ x < n, g x ≤ g' x) (e : sN n g = sN n g') : ∀ x < n, g x = g' x := by
  induction n with
  | zero => intro x hx; omega
  | succ n ih =>
    have h1 := sN_le (n := n) fun x hx => h x (by omega)
    have h2 := h n (by omega)
    rw [sN, sN] at e
    intro x hx
    by_cases q : x = n
    · subst q; omega
    · exact ih (fun x hx => h x (by omega)) (by omega) x (by omega)
theorem sN_nonneg {n : Nat} {g : Nat → Int} (h : ∀ x < n, 0 ≤ g x) : 0 ≤ sN n g := by
  have := sN_le (n := n) (g := fun _ => 0) h
  rwa [sN_zero fun _ _ => rfl] at this
theorem sN_ge {n k : Nat} {g : Nat → Int} (hk : k < n) (h : ∀ x < n, 0 ≤ g x) : g k ≤ sN n g := by
  have := sN_le (n := n) (g := fun x => if x = k then g k else 0) (g' := g) (fun x hx => by
    split
    · subst_vars; exact Int.le_refl _
    · exact h x hx)
  rw [sN_one hk (fun x hx e => by simp [e])] at this
  simpa using this
/-- the sum over a list of pairs, each once -/
def mem2 (l : List (Nat × Nat)) (x y : Nat) : Bool := l.contains (x, y)
theorem sum_pairs {n : Nat} {g : Nat × Nat → Int} : ∀ {l : List (Nat × Nat)}, l.Nodup → (∀ e ∈ l, e.1 < n ∧ e.2 < n) → (l.map g).sum = sN n fun x => sN n fun y => if (x, y) ∈ l then g (x, y) else 0
  | [], _, _ => by
    rw [sN_zero]; · rfl
    intro x hx; exact sN_zero fun y hy => by simp
  | (a, b) :: r, hn, hl => by
    rw [List.nodup_cons] at hn
    have h1 := hl (a, b) (.head _)
    dsimp only at h1
    rw [List.map_cons, List.sum_cons, sum_pairs hn.2 fun e he => hl e (.tail _ he)]
    have e1 : (sN n fun x => sN n fun y => if (x, y) = (a, b) then g (a, b) else 0) = g (a, b) := by
      rw [sN_one (k := a) h1.1, sN_one (k := b) h1.2]
      · simp
      · intro y _ hy; simp [hy]
      · intro x _ hx; exact sN_zero fun y _ => by simp [hx]
    rw [← e1, ← sN_add]
    refine sN_congr fun x hx => ?_
    rw [← sN_add]
    refine sN_congr fun y hy => ?_
    by_cases q : (x, y) = (a, b)
    · cases q; simp [hn.1]
    · simp [q]

/-! flows and cuts -/
structure Fl (n s t : Nat) (c f : Nat → Nat → Int) (F : Int) : Prop where
  anti : ∀ x < n, ∀ y < n, f y x = - f x y
  cap : ∀ x < n, ∀ y < n, f x y ≤ c x y
  net : ∀ x < n, sN n (f x) = (if x = s then F else 0) - (if x = t then F else 0)
  pos : 0 ≤ F
def cutC (n : Nat) (g : Nat → Nat → Int) (T : Nat → Bool) : Int := sN n fun x => sN n fun y => if T x && !T y then g x y else 0
section
variable {n s t : Nat} {c f : Nat → Nat → Int} {F : Int} {T : Nat → Bool}
theorem Fl.cut (H : Fl n s t c f F) (hs : s < n) (ht : t < n) (T : Nat → Bool) : cutC n f T = (if T s then F else 0) - (if T t then F else 0) := by
  have e1 : (sN n fun x => if T x then sN n (f x) else 0) = (if T s then F else 0) - (if T t then F else 0) := by
    have : ∀ x < n, (if T x then sN n (f x) else 0) = (if x = s then (if T s then F else 0) else 0) - (if x = t then (if T t then F else 0) else 0) := by
      intro x hx
      rw [H.net x hx]
      by_cases a : x = s <;> by_cases b : x = t <;> by_cases d : T x <;> simp_all
    rw [sN_congr this, sN_sub, sN_one hs (fun x _ h => by simp [h]), sN_one ht (fun x _ h => by simp [h])]
    simp
  have e2 : (sN n fun x => if T x then sN n (f x) else 0) = cutC n f T + sN n fun x => sN n fun y => if T x && T y then f x y else 0 := by
    unfold cutC
    rw [← sN_add]
    refine sN_congr fun x hx => ?_
    rw [← sN_add]
    by_cases a : T x
    · simp only [a, if_true, Bool.true_and]
      refine sN_congr fun y hy => ?_
      by_cases b : T y <;> simp [b]
    · simp only [a, Bool.false_eq_true, if_false, Bool.false_and]
      exact (sN_zero fun _ _ => rfl).symm
  have e3 : (sN n fun x => sN n fun y => if T x && T y then f x y else 0) = - sN n fun x => sN n fun y => if T x && T y then f x y else 0 := by
    conv => lhs; rw [sN_swap]
    rw [← sN_neg]
    refine sN_congr fun y hy => ?_
    rw [← sN_neg]
    refine sN_congr fun x hx => ?_
    rw [Bool.and_comm, H.anti y hy x hx]
    split <;> simp
  omega
theorem Fl.le_cut (H : Fl n s t c f F) (hs : s < n) (ht : t < n) (h1 : T s = true) (h2 : T t = false) : F ≤ cutC n c T := by
  have e := H.cut hs ht T
  rw [h1, h2] at e
  simp at e
  rw [← e]
  exact sN_le fun x hx => sN_le fun y hy => by split; exact H.cap x hx y hy; exact Int.le_refl _
/-- no way out of T with room to spare -/
def Shut (n : Nat) (c f : Nat → Nat → Int) (T : Nat → Bool) : Prop := ∀ x < n, ∀ y < n, T x = true → f x y < c x y → T y = true
theorem Fl.cut_iff (H : Fl n s t c f F) (hs : s < n) (ht : t < n) (h1 : T s = true) (h2 : T t = false) : cutC n c T = F ↔ Shut n c f T := by
  have e := H.cut hs ht T
  rw [h1, h2] at e
  simp at e
  constructor
  · intro q x hx y hy a b
    rw [← e] at q
    have k1 := sN_eq (n := n) (fun x hx => sN_le fun y hy => by split; exact H.cap x hx y hy; exact Int.le_refl _) q.symm x hx
    have k2 := sN_eq (n := n) (fun y hy => by split; exact H.cap x hx y hy; exact Int.le_refl _) k1 y hy
    cases d : T y with
    | true => rfl
    | false => rw [a, d] at k2; simp at k2; omega
  · intro q
    rw [← e]
    refine sN_congr fun x hx => sN_congr fun y hy => ?_
    split
    · rename_i d
      simp at d
      have := H.cap x hx y hy
      have : ¬ f x y < c x y := fun z => by rw [q x hx y hy d.1 z] at d; simp at d
      omega
    · rfl
/-- reaching along arcs with room -/
structure Rch (n : Nat) (c f : Nat → Nat → Int) (R : Nat → Nat → Bool) : Prop where
  refl : ∀ x < n, R x x = true
  step : ∀ x < n, ∀ y < n, f x y < c x y → R x y = true
  trans : ∀ x < n, ∀ y < n, ∀ z < n, R x y = true → R y z = true → R x z = true
  least : ∀ T, Shut n c f T → ∀ x < n, ∀ y < n, T x = true → R x y = true → T y = true
variable {R : Nat → Nat → Bool}
theorem Rch.shutFrom (r : Rch n c f R) {x : Nat} (hx : x < n) : Shut n c f (R x) := fun a ha b hb h1 h2 => r.trans x hx a ha b hb h1 (r.step a ha b hb h2)
theorem Rch.shutTo (r : Rch n c f R) {y : Nat} (hy : y < n) : Shut n c f (fun x => !R x y) := fun a ha b hb h1 h2 => by
  cases q : R b y with
  | false => simp [q]
  | true =>
    have := r.trans a ha b hb y hy (r.step a ha b hb h2) q
    simp [this] at h1
/-- a least cut is there -/
structure Best (n s t : Nat) (c f : Nat → Nat → Int) (F : Int) : Prop where
  fl : Fl n s t c f F
  hs : s < n
  ht : t < n
  off : ∃ T, T s = true ∧ T t = false ∧ Shut n c f T
theorem Best.far (B : Best n s t c f F) (r : Rch n c f R) : R s t = false := by
  obtain ⟨T, h1, h2, h3⟩ := B.off
  cases q : R s t with
  | false => rfl
  | true => rw [r.least T h3 s B.hs t B.ht h1 q] at h2; cases h2
theorem Best.every (B : Best n s t c f F) (r : Rch n c f R) {u v : Nat} (hu : u < n) (hv : v < n) :
    (∀ T : Nat → Bool, T s = true → T t = false → cutC n c T = F → T u = true ∧ T v = false) ↔ (R s u = true ∧ R v t = true) := by
  have far := B.far r
  constructor
  · intro h
    refine ⟨(h (R s) (r.refl s B.hs) far ((B.fl.cut_iff B.hs B.ht (r.refl s B.hs) far).mpr (r.shutFrom B.hs))).1, ?_⟩
    have := (h (fun x => !R x t) (by simp [far]) (by simp [r.refl t B.ht]) ((B.fl.cut_iff B.hs B.ht (by simp [far]) (by simp [r.refl t B.ht])).mpr (r.shutTo B.ht))).2
    simpa using this
  · rintro ⟨h1, h2⟩ T a b d
    have sh := (B.fl.cut_iff B.hs B.ht a b).mp d
    refine ⟨r.least T sh s B.hs u hu a h1, ?_⟩
    cases q : T v with
    | false => rfl
    | true => rw [r.least T sh v hv t B.ht q h2] at b; cases b
theorem Best.some (B : Best n s t c f F) (r : Rch n c f R) (hc : ∀ x < n, ∀ y < n, 0 ≤ c x y) {u v : Nat} (hu : u < n) (hv : v < n) (huv : 1 ≤ c u v) :
    (∃ T : Nat → Bool, (T s = true ∧ T t = false ∧ cutC n c T = F) ∧ T u = true ∧ T v = false) ↔ R u v = false := by
  constructor
  · rintro ⟨T, ⟨a, b, d⟩, e1, e2⟩
    cases q : R u v with
    | false => rfl
    | true => rw [r.least T ((B.fl.cut_iff B.hs B.ht a b).mp d) u hu v hv e1 q] at e2; cases e2
  · intro h
    have full : ∀ {x y}, x < n → y < n → R u x = true → R u y = false → f x y = c x y := fun {x y} hx hy a b => by
      have := B.fl.cap x hx y hy
      have : ¬ f x y < c x y := fun z => by rw [r.trans u hu x hx y hy a (r.step x hx y hy z)] at b; cases b
      omega
    -- u reaches s
    have us : R u s = true := by
      cases q : R u s with
      | true => rfl
      | false =>
        have e := B.fl.cut B.hs B.ht (R u)
        rw [q] at e
        have p := B.fl.pos
        have e2 : cutC n f (R u) = cutC n c (R u) := sN_congr fun x hx => sN_congr fun y hy => by
          split
          · rename_i d; simp at d; exact full hx hy d.1 d.2
          · rfl
        have e3 : c u v ≤ cutC n c (R u) := by
          have k1 : c u v ≤ sN n fun y => if R u u && !R u y then c u y else 0 := by
            have := sN_ge (n := n) (k := v) (g := fun y => if R u u && !R u y then c u y else 0) hv (fun y hy => by split; exact hc u hu y hy; exact Int.le_refl _)
            simpa [r.refl u hu, h] using this
          have k2 := sN_ge (n := n) (k := u) (g := fun x => sN n fun y => if R u x && !R u y then c x y else 0) hu (fun x hx => sN_nonneg fun y hy => by split; exact hc x hx y hy; exact Int.le_refl _)
          exact Int.le_trans k1 k2
        cases q2 : R u t with
        | true => rw [q2] at e; simp at e; omega
        | false => rw [q2] at e; simp at e; omega
    have ut : R u t = false := by
      have full2 : ∀ {x y}, x < n → y < n → R x v = false → R y v = true → f x y = c x y := fun {x y} hx hy a b => by
        have := B.fl.cap x hx y hy
        have : ¬ f x y < c x y := fun z => by rw [r.trans x hx y hy v hv (r.step x hx y hy z) b] at a; cases a
        omega
      cases q : R u t with
      | false => rfl
      | true =>
        exfalso
        have tv : R t v = false := by
          cases q3 : R t v with
          | false => rfl
          | true => rw [r.trans u hu t B.ht v hv q q3] at h; cases h
        have e := B.fl.cut B.hs B.ht (fun x => !R x v)
        simp only [tv] at e
        have p := B.fl.pos
        have e2 : cutC n f (fun x => !R x v) = cutC n c (fun x => !R x v) := sN_congr fun x hx => sN_congr fun y hy => by
          split
          · rename_i d; simp at d; exact full2 hx hy d.1 d.2
          · rfl
        have e3 : c u v ≤ cutC n c (fun x => !R x v) := by
          have k1 : c u v ≤ sN n fun y => if (!R u v) && !(!R y v) then c u y else 0 := by
            have := sN_ge (n := n) (k := v) (g := fun y => if (!R u v) && !(!R y v) then c u y else 0) hv (fun y hy => by split; exact hc u hu y hy; exact Int.le_refl _)
            simpa [r.refl v hv, h] using this
          have k2 := sN_ge (n := n) (k := u) (g := fun x => sN n fun y => if (!R x v) && !(!R y v) then c x y else 0) hu (fun x hx => sN_nonneg fun y hy => by split; exact hc x hx y hy; exact Int.le_refl _)
          exact Int.le_trans k1 k2
        cases q2 : R s v with
        | true => rw [q2] at e; simp at e; omega
        | false => rw [q2] at e; simp at e; omega
    exact ⟨R u, ⟨us, ut, (B.fl.cut_iff B.hs B.ht us ut).mpr (r.shutFrom hu)⟩, r.refl u hu, h⟩
end
end Mine

namespace Mine
def succL (el : List (Nat × Nat)) (u : Nat) : List Nat := (el.filter (·.1 == u)).map (·.2)
theorem mem_succL {el : List (Nat × Nat)} {u v : Nat} : v ∈ succL el u ↔ (u, v) ∈ el := by
  unfold succL
  rw [List.mem_map]
  constructor
  · rintro ⟨⟨a, b⟩, h, rfl⟩
    have := List.mem_filter.mp h
    have e : a = u := by simpa using this.2
    subst e; exact this.1
  · intro h; exact ⟨(u, v), List.mem_filter.mpr ⟨h, by simp⟩, rfl⟩
structure Net (n s t : Nat) (el : List (Nat × Nat)) (c : Nat → Nat → Int) : Prop where
  lt : ∀ {x y}, (x, y) ∈ el → x < n ∧ y < n
  sym : ∀ {x y}, (x, y) ∈ el → (y, x) ∈ el
  ne : ∀ {x y}, (x, y) ∈ el → x ≠ y
  off : ∀ {x y}, (x, y) ∉ el → c x y = 0
  nn : ∀ x y, 0 ≤ c x y
  hs : s < n
  ht : t < n
  st : s ≠ t
def upd {α : Type} (g : Nat → α) (u : Nat) (w : α) : Nat → α := fun x => if x = u then w else g x
@[simp] theorem upd_self {α : Type} {g : Nat → α} {u : Nat} {w : α} : upd g u w u = w := by simp [upd]
theorem upd_ne {α : Type} {g : Nat → α} {u x : Nat} {w : α} (h : x ≠ u) : upd g u w x = g x := by simp [upd, h]
structure AI (n s t : Nat) (el : List (Nat × Nat)) (c f : Nat → Nat → Int) (h cur : Nat → Nat) (F : Int) : Prop where
  fl : Fl n s t c f F
  val : ∀ x y, (x, y) ∈ el → f x y < c x y → h x ≤ h y + 1
  h0 : h t = 0
  hp : ∀ x < n, x ≠ t → 1 ≤ h x
  hn : ∀ x < n, h x ≤ n
  cu : ∀ x < n, ∀ i < cur x, ∀ y, (succL el x)[i]? = some y → ¬ (f x y < c x y ∧ h x = h y + 1)
  cl : ∀ x < n, succL el x ≠ [] → cur x < (succL el x).length
structure PI (el : List (Nat × Nat)) (c f : Nat → Nat → Int) (h : Nat → Nat) (s : Nat) (p : List Nat) (u : Nat) : Prop where
  start : p[0]? = some s
  last : p[p.length - 1]? = some u
  chain : ∀ i x y, p[i]? = some x → p[i + 1]? = some y → (x, y) ∈ el ∧ f x y < c x y ∧ h x = h y + 1
section
variable {n s t : Nat} {el : List (Nat × Nat)} {c f : Nat → Nat → Int} {h cur : Nat → Nat} {F : Int} {p : List Nat} {u v : Nat}
theorem PI.len (P : PI el c f h s p u) : 0 < p.length := by
  have := P.start
  rcases p with _ | ⟨a, r⟩
  · cases this
  · simp
theorem PI.ht (P : PI el c f h s p u) : ∀ (j i : Nat) (x y : Nat), p[i]? = some x → p[i + j]? = some y → h x = h y + j
  | 0, i, x, y, a, b => by rw [Nat.add_zero, a] at b; cases b; rfl
  | j + 1, i, x, y, a, b => by
    have hl : i + j + 1 < p.length := (List.getElem?_eq_some_iff.mp b).1
    obtain ⟨z, hz⟩ : ∃ z, p[i + j]? = some z := ⟨_, List.getElem?_eq_getElem (by omega)⟩
    have h1 := P.ht j i x z a hz
    have h2 := (P.chain (i + j) z y hz b).2.2
    omega
theorem PI.inj (P : PI el c f h s p u) {i j : Nat} {x : Nat} (a : p[i]? = some x) (b : p[j]? = some x) : i = j := by
  rcases Nat.le_total i j with q | q
  · have := P.ht (j - i) i x x a (by rw [Nat.add_sub_cancel' q]; exact b); omega
  · have := P.ht (i - j) j x x b (by rw [Nat.add_sub_cancel' q]; exact a); omega
theorem PI.hs (P : PI el c f h s p u) : h s = h u + (p.length - 1) := by
  have := P.ht (p.length - 1) 0 s u P.start (by rw [Nat.zero_add]; exact P.last)
  exact this
theorem PI.mem (N : Net n s t el c) (P : PI el c f h s p u) : ∀ x ∈ p, x < n := by
  intro x hx
  obtain ⟨i, hi, e⟩ := List.mem_iff_getElem.mp hx
  rcases i with _ | i
  · have := P.start
    rw [List.getElem?_eq_getElem hi, e] at this
    cases this; exact N.hs
  · exact (N.lt (P.chain i _ x (List.getElem?_eq_getElem (by omega)) (by rw [List.getElem?_eq_getElem hi, e])).1).2
theorem PI.ult (N : Net n s t el c) (P : PI el c f h s p u) : u < n := P.mem N u (List.mem_of_getElem? P.last)
theorem PI.one : PI el c f h s [s] s := ⟨rfl, rfl, fun i x y a b => by
  have := (List.getElem?_eq_some_iff.mp b).1; simp at this⟩
theorem PI.adv (P : PI el c f h s p u) (he : (u, v) ∈ el) (hf : f u v < c u v) (hh : h u = h v + 1) : PI el c f h s (p ++ [v]) v := by
  have hl := P.len
  refine ⟨by rw [List.getElem?_append_left hl]; exact P.start, by simp, fun i x y a b => ?_⟩
  have hb := (List.getElem?_eq_some_iff.mp b).1
  rw [List.length_append, List.length_singleton] at hb
  by_cases e : i + 1 < p.length
  · rw [List.getElem?_append_left e] at b
    rw [List.getElem?_append_left (by omega)] at a
    exact P.chain i x y a b
  · have e' : i = p.length - 1 := by omega
    rw [List.getElem?_append_left (by omega), e', P.last] at a
    rw [List.getElem?_append_right (by omega), show i + 1 - p.length = 0 by omega] at b
    cases a; cases b
    exact ⟨he, hf, hh⟩
/-- no arc out of u can be gone along -/
def Dry (el : List (Nat × Nat)) (c f : Nat → Nat → Int) (h : Nat → Nat) (u : Nat) : Prop := ∀ y, (u, y) ∈ el → f u y < c u y → h u ≠ h y + 1
theorem AI.dry (I : AI n s t el c f h cur F) (hu : u < n) (hc : (succL el u)[cur u]? = some v) (hv : ¬ (f u v < c u v ∧ h u = h v + 1)) (hl : (succL el u).length ≤ cur u + 1) : Dry el c f h u := by
  intro y hy hf hh
  obtain ⟨i, hi, e⟩ := List.mem_iff_getElem.mp (mem_succL.mpr hy)
  by_cases q : i < cur u
  · exact I.cu u hu i q y (by rw [List.getElem?_eq_getElem hi, e]) ⟨hf, hh⟩
  · have : i = cur u := by omega
    subst this
    rw [List.getElem?_eq_getElem hi, e] at hc
    cases hc
    exact hv ⟨hf, hh⟩
theorem AI.bump (I : AI n s t el c f h cur F) (hu : u < n) (hc : (succL el u)[cur u]? = some v) (hv : ¬ (f u v < c u v ∧ h u = h v + 1)) (hl : cur u + 1 < (succL el u).length) : AI n s t el c f h (upd cur u (cur u + 1)) F := by
  refine ⟨I.fl, I.val, I.h0, I.hp, I.hn, fun x hx i hi y hy => ?_, fun x hx hne => ?_⟩
  · by_cases e : x = u
    · subst e
      rw [upd_self] at hi
      by_cases q : i < cur x
      · exact I.cu x hx i q y hy
      · have : i = cur x := by omega
        subst this
        rw [hc] at hy; cases hy; exact hv
    · rw [upd_ne e] at hi; exact I.cu x hx i hi y hy
  · by_cases e : x = u
    · subst e; rw [upd_self]; exact hl
    · rw [upd_ne e]; exact I.cl x hx hne
/-- the new height -/
structure NH (n : Nat) (el : List (Nat × Nat)) (c f : Nat → Nat → Int) (h : Nat → Nat) (u k : Nat) : Prop where
  le : k ≤ n
  lo : ∀ y, (u, y) ∈ el → f u y < c u y → k ≤ h y + 1
  at_ : k = n ∨ ∃ y, (u, y) ∈ el ∧ f u y < c u y ∧ k = h y + 1
theorem NH.gt {k : Nat} (H : NH n el c f h u k) (I : AI n s t el c f h cur F) (hd : Dry el c f h u) (hu : h u < n) : h u < k := by
  rcases H.at_ with rfl | ⟨y, a, b, rfl⟩
  · exact hu
  · have := I.val u y a b; have := hd y a b; omega
theorem AI.relabel {k : Nat} (N : Net n s t el c) (I : AI n s t el c f h cur F) (hun : u < n) (hut : u ≠ t) (hd : Dry el c f h u) (hu : h u < n) (H : NH n el c f h u k) : AI n s t el c f (upd h u k) (upd cur u 0) F := by
  have g := H.gt I hd hu
  refine ⟨I.fl, fun x y a b => ?_, by rw [upd_ne (Ne.symm hut)]; exact I.h0, fun x hx e => ?_, fun x hx => ?_, fun x hx i hi y hy => ?_, fun x hx hne => ?_⟩
  · have := I.val x y a b
    have := N.ne a
    by_cases e : x = u
    · subst e; rw [upd_self, upd_ne (Ne.symm this)]; exact H.lo y a b
    · rw [upd_ne e]
      by_cases e2 : y = u
      · subst e2; rw [upd_self]; omega
      · rw [upd_ne e2]; assumption
  · by_cases q : x = u
    · subst q; rw [upd_self]; omega
    · rw [upd_ne q]; exact I.hp x hx e
  · by_cases q : x = u
    · subst q; rw [upd_self]; exact H.le
    · rw [upd_ne q]; exact I.hn x hx
  · by_cases q : x = u
    · subst q; rw [upd_self] at hi; omega
    · rw [upd_ne q] at hi
      have h1 := I.cu x hx i hi y hy
      have hm : (x, y) ∈ el := mem_succL.mp (List.mem_of_getElem? hy)
      rw [upd_ne q]
      by_cases e2 : y = u
      · subst e2
        rw [upd_self]
        rintro ⟨a, b⟩
        have := I.val x y hm a
        omega
      · rw [upd_ne e2]; exact h1
  · by_cases q : x = u
    · subst q; rw [upd_self]; exact List.length_pos_iff.mpr hne
    · rw [upd_ne q]; exact I.cl x hx hne
theorem PI.pop {k : Nat} (P : PI el c f h s p u) (hus : u ≠ s) : 2 ≤ p.length ∧ ∃ u', p[p.length - 2]? = some u' ∧ u' ≠ u ∧ PI el c f (upd h u k) s p.dropLast u' := by
  have hl := P.len
  have h2 : 2 ≤ p.length := by
    rcases Nat.lt_or_ge p.length 2 with q | q
    · have e : p.length - 1 = 0 := by omega
      have a := P.last
      rw [e, P.start] at a
      cases a; exact absurd rfl hus
    · exact q
  obtain ⟨u', hu'⟩ : ∃ x, p[p.length - 2]? = some x := ⟨_, List.getElem?_eq_getElem (by omega)⟩
  have hne : ∀ i x, i < p.length - 1 → p[i]? = some x → x ≠ u := fun i x hi a e => by
    subst e
    have := P.inj a P.last
    omega
  refine ⟨h2, u', hu', hne _ _ (by omega) hu', ?_, ?_, fun i x y a b => ?_⟩
  · rw [List.dropLast_eq_take, List.getElem?_take_of_lt (by omega)]; exact P.start
  · rw [List.length_dropLast, List.dropLast_eq_take, List.getElem?_take_of_lt (by omega), show p.length - 1 - 1 = p.length - 2 by omega]; exact hu'
  · have hb := (List.getElem?_eq_some_iff.mp b).1
    rw [List.length_dropLast] at hb
    rw [List.dropLast_eq_take, List.getElem?_take_of_lt (by omega)] at a b
    have h1 := P.chain i x y a b
    rw [upd_ne (hne i x (by omega) a), upd_ne (hne (i + 1) y hb b)]
    exact h1
/-! the ends -/
theorem AI.gap (N : Net n s t el c) (I : AI n s t el c f h cur F) (P : PI el c f h s p u) (hut : u ≠ t) (hd : Dry el c f h u) (hg : ∀ x < n, x ≠ u → h x ≠ h u) : Best n s t c f F := by
  have hu := P.ult N
  refine ⟨I.fl, N.hs, N.ht, fun x => decide (h u ≤ h x), ?_, ?_, fun x hx y hy a b => ?_⟩
  · have := P.hs; simp; omega
  · have := I.hp u hu hut; have := I.h0; simp; omega
  · simp only [decide_eq_true_eq] at a ⊢
    have hm : (x, y) ∈ el := by
      refine Classical.byContradiction fun z => ?_
      have e1 := N.off z
      have e2 := N.off (x := y) (y := x) (fun w => z (N.sym w))
      have := I.fl.cap y hy x hx
      have := I.fl.anti x hx y hy
      omega
    have h1 := I.val x y hm b
    by_cases e : x = u
    · subst e; have := hd y hm b; omega
    · have := hg x hx e; omega
theorem holes {m : Nat} {h : Nat → Nat} : ∀ k, (∀ g < k, ∃ x < m, h x = g) → ∃ l : List Nat, l.Nodup ∧ l.length = k ∧ ∀ x ∈ l, x < m ∧ h x < k
  | 0, _ => ⟨[], .nil, rfl, by simp⟩
  | k + 1, H => by
    obtain ⟨l, a, b, d⟩ := holes k fun g hg => H g (by omega)
    obtain ⟨x, hx, e⟩ := H k (by omega)
    refine ⟨x :: l, List.nodup_cons.mpr ⟨fun q => ?_, a⟩, by simp [b], fun y hy => ?_⟩
    · have := (d x q).2; omega
    · rcases List.mem_cons.mp hy with rfl | hy
      · exact ⟨hx, by omega⟩
      · have := d y hy; exact ⟨this.1, by omega⟩
theorem nodup_len {m : Nat} : ∀ {l : List Nat}, l.Nodup → (∀ x ∈ l, x < m) → l.length ≤ m := by
  induction m with
  | zero =>
    intro l _ h
    rcases l with _ | ⟨a, r⟩
    · simp
    · have := h a (.head _); omega
  | succ m ih =>
    intro l hn h
    have h1 : (l.erase m).length ≤ m := ih (hn.erase m) fun x hx => by
      have a := h x (List.mem_of_mem_erase hx)
      have b : x ≠ m := fun e => by subst e; exact (List.Nodup.not_mem_erase hn) hx
      omega
    have := List.length_erase (l := l) (a := m)
    split at this <;> omega
theorem hole {m k : Nat} {h : Nat → Nat} (hk : m < k) : ∃ g < k, ∀ x < m, h x ≠ g := by
  refine Classical.byContradiction fun z => ?_
  obtain ⟨l, a, b, d⟩ := holes (m := m) (h := h) k fun g hg => Classical.byContradiction fun w => z ⟨g, hg, fun x hx e => w ⟨x, hx, e⟩⟩
  have := nodup_len a fun x hx => (d x hx).1
  omega
theorem AI.top {k : Nat} (N : Net n s t el c) (I : AI n s t el c f h cur F) (hd : Dry el c f h s) (hu : h s < n) (H : NH n el c f h s k) (hk : n ≤ k) : Best n s t c f F := by
  have J := I.relabel N N.hs N.st hd hu H
  have e : k = n := Nat.le_antisymm H.le hk
  subst e
  obtain ⟨g, hg, hno⟩ := hole (m := k) (k := k + 1) (h := upd h s k) (by omega)
  have g0 : 0 < g := by
    rcases Nat.eq_zero_or_pos g with q | q
    · subst q; exact absurd J.h0 (hno t N.ht)
    · exact q
  have gn : g < k := by
    have := hno s N.hs; rw [upd_self] at this; omega
  refine ⟨I.fl, N.hs, N.ht, fun x => decide (g < upd h s k x), by simp [gn], by have := J.h0; simp [this], fun x hx y hy a b => ?_⟩
  simp only [decide_eq_true_eq] at a ⊢
  have hm : (x, y) ∈ el := by
    refine Classical.byContradiction fun z => ?_
    have e1 := N.off z
    have e2 := N.off (x := y) (y := x) (fun w => z (N.sym w))
    have := I.fl.cap y hy x hx
    have := I.fl.anti x hx y hy
    omega
  have h1 := J.val x y hm b
  have := hno y hy
  omega
/-! the push along the path -/
def push (f : Nat → Nat → Int) (u v : Nat) (d : Int) : Nat → Nat → Int := fun x y => if x = u ∧ y = v then f x y + d else if x = v ∧ y = u then f x y - d else f x y
/-- j arcs of the path are done -/
structure Psh (n : Nat) (c f g : Nat → Nat → Int) (h : Nat → Nat) (s : Nat) (p : List Nat) (d : Int) (j : Nat) : Prop where
  anti : ∀ x < n, ∀ y < n, g y x = - g x y
  cap : ∀ x < n, ∀ y < n, g x y ≤ c x y
  net : ∀ x < n, ∀ w, p[j]? = some w → sN n (g x) = sN n (f x) + ((if x = s then d else 0) - (if x = w then d else 0))
  rest : ∀ i x y, j ≤ i → p[i]? = some x → p[i + 1]? = some y → g x y = f x y ∧ g y x = f y x
  new : ∀ x < n, ∀ y < n, g x y < c x y → f x y < c x y ∨ h y = h x + 1
theorem Psh.zero (I : Fl n s t c f F) (h : Nat → Nat) (hp : p[0]? = some s) (d : Int) : Psh n c f f h s p d 0 :=
  ⟨I.anti, I.cap, fun x hx w e => by rw [hp] at e; cases e; omega, fun _ _ _ _ _ _ => ⟨rfl, rfl⟩, fun _ _ _ _ h => .inl h⟩
theorem Psh.next {g : Nat → Nat → Int} {d : Int} {j x y : Nat} (N : Net n s t el c) (P : PI el c f h s p u) (I : Psh n c f g h s p d j) (hd : 0 ≤ d) (hx : p[j]? = some x) (hy : p[j + 1]? = some y) (hc : d ≤ c x y - f x y) : Psh n c f (push g x y d) h s p d (j + 1) := by
  have hch := P.chain j x y hx hy
  have hxn := (N.lt hch.1).1
  have hyn := (N.lt hch.1).2
  have hne := N.ne hch.1
  have hr := I.rest j x y (Nat.le_refl _) hx hy
  refine ⟨fun a ha b hb => ?_, fun a ha b hb => ?_, fun a ha w hw => ?_, fun i a b hi q1 q2 => ?_, fun a ha b hb hl => ?_⟩
  · have := I.anti a ha b hb
    unfold push
    by_cases q1 : a = x ∧ b = y
    · obtain ⟨rfl, rfl⟩ := q1
      have : ¬ (b = a ∧ a = b) := fun z => hne z.2
      simp [this]; omega
    · by_cases q2 : a = y ∧ b = x
      · obtain ⟨rfl, rfl⟩ := q2
        have : ¬ (a = b ∧ b = a) := fun z => hne z.2
        simp [this]; omega
      · have r1 : ¬ (b = x ∧ a = y) := fun z => q2 ⟨z.2, z.1⟩
        have r2 : ¬ (b = y ∧ a = x) := fun z => q1 ⟨z.2, z.1⟩
        simp only [q1, q2, r1, r2, if_false]; exact this
  · have := I.cap a ha b hb
    unfold push
    split
    · rename_i q; obtain ⟨rfl, rfl⟩ := q; omega
    · split <;> omega
  · rw [hy] at hw; cases hw
    have e0 := I.net a ha x hx
    have : sN n (push g x y d a) = sN n (g a) + ((if a = x then d else 0) - (if a = y then d else 0)) := by
      have : ∀ b < n, push g x y d a b = g a b + ((if a = x then (if b = y then d else 0) else 0) - (if a = y then (if b = x then d else 0) else 0)) := by
        intro b hb
        unfold push
        by_cases q1 : a = x
        · subst q1
          by_cases q2 : b = y
          · subst q2; simp [hne]
          · simp [hne, q2]
        · by_cases q2 : a = y
          · subst q2
            by_cases q3 : b = x
            · subst q3; simp [q1]; omega
            · simp [q1, q3]
          · simp [q1, q2]
      rw [sN_congr this, sN_add, sN_sub]
      congr 2
      · split
        · rw [sN_one hyn (fun b _ hb => by simp [hb])]; simp
        · exact sN_zero fun _ _ => rfl
      · split
        · rw [sN_one hxn (fun b _ hb => by simp [hb])]; simp
        · exact sN_zero fun _ _ => rfl
    rw [this, e0]; omega
  · have hr := I.rest i a b (by omega) q1 q2
    have i1 : ¬ (a = x ∧ b = y) := fun z => by have := P.inj (z.1 ▸ q1) hx; omega
    have i2 : ¬ (a = y ∧ b = x) := fun z => by have := P.inj (z.2 ▸ q2) hx; omega
    have i3 : ¬ (b = x ∧ a = y) := fun z => i2 ⟨z.2, z.1⟩
    have i4 : ¬ (b = y ∧ a = x) := fun z => i1 ⟨z.2, z.1⟩
    unfold push
    simp only [i1, i2, i3, i4, if_false]; exact hr
  · unfold push at hl
    split at hl
    · rename_i q; obtain ⟨rfl, rfl⟩ := q; exact .inl hch.2.1
    · split at hl
      · rename_i q; obtain ⟨rfl, rfl⟩ := q; exact .inr hch.2.2
      · exact I.new a ha b hb hl
theorem AI.push {g : Nat → Nat → Int} {d : Int} (N : Net n s t el c) (I : AI n s t el c f h cur F) (P : PI el c f h s p t) (J : Psh n c f g h s p d (p.length - 1)) (hd : 0 ≤ d) : AI n s t el c g h cur (F + d) := by
  refine ⟨⟨J.anti, J.cap, fun x hx => ?_, by have := I.fl.pos; omega⟩, fun x y a b => ?_, I.h0, I.hp, I.hn, fun x hx i hi y hy => ?_, I.cl⟩
  · rw [J.net x hx t P.last, I.fl.net x hx]
    have := N.st
    by_cases q1 : x = s <;> by_cases q2 : x = t <;> simp [q1, q2] <;> omega
  · have := N.lt a
    rcases J.new x this.1 y this.2 b with q | q
    · exact I.val x y a q
    · omega
  · have hm : (x, y) ∈ el := mem_succL.mp (List.mem_of_getElem? hy)
    rintro ⟨a, b⟩
    rcases J.new x hx y (N.lt hm).2 a with q | q
    · exact I.cu x hx i hi y hy ⟨q, b⟩
    · omega
/-! the measure -/
def mu (n : Nat) (el : List (Nat × Nat)) (C : Int) (h cur : Nat → Nat) (F : Int) (p : Nat) : Nat × Nat × Nat × Nat :=
  ((sN n fun x => (n : Int) - h x).toNat, (C - F).toNat, (sN n fun x => ((succL el x).length : Int) - cur x).toNat, n - p)
end
end Mine

namespace Mine
def predL (el : List (Nat × Nat)) (u : Nat) : List Nat := (el.filter (·.2 == u)).map (·.1)
theorem mem_predL {el : List (Nat × Nat)} {u v : Nat} : v ∈ predL el u ↔ (v, u) ∈ el := by
  unfold predL
  rw [List.mem_map]
  constructor
  · rintro ⟨⟨a, b⟩, h, rfl⟩
    have := List.mem_filter.mp h
    have e : b = u := by simpa using this.2
    subst e; exact this.1
  · intro h; exact ⟨(v, u), List.mem_filter.mpr ⟨h, by simp⟩, rfl⟩
/-! the search backwards from t: heights `hs`, queue `q` -/
structure BB (n t : Nat) (el : List (Nat × Nat)) (c : Nat → Nat → Int) (hs q : List (Nat × Nat)) : Prop where
  nd : (hs.map (·.1)).Nodup
  lt : ∀ x d, (x, d) ∈ hs → x < n
  src : (t, 0) ∈ hs
  pos : ∀ x d, (x, d) ∈ hs → x ≠ t → 1 ≤ d
  par : ∀ x d, (x, d) ∈ hs → d = 0 ∨ ∃ y, (y, d - 1) ∈ hs
  adj : ∀ x d, (x, d) ∈ hs → x ≠ t → ∃ y, (x, y) ∈ el
  sub : ∀ p ∈ q, p ∈ hs
  ord : q.Pairwise fun a b => a.2 ≤ b.2
def Okd (el : List (Nat × Nat)) (c : Nat → Nat → Int) (hs : List (Nat × Nat)) (x d : Nat) : Prop := ∀ y, (y, x) ∈ el → 0 < c y x → ∃ e, (y, e) ∈ hs ∧ e ≤ d + 1
structure BI (n t : Nat) (el : List (Nat × Nat)) (c : Nat → Nat → Int) (hs q : List (Nat × Nat)) : Prop extends BB n t el c hs q where
  near : ∀ a r, q = a :: r → ∀ x e, (x, e) ∈ hs → e ≤ a.2 + 1
  done : ∀ x d, (x, d) ∈ hs → (x, d) ∉ q → Okd el c hs x d
/-- while the arcs into u are walked: the first i are done -/
structure BJ (n t : Nat) (el : List (Nat × Nat)) (c : Nat → Nat → Int) (u d i : Nat) (hs q : List (Nat × Nat)) : Prop extends BB n t el c hs q where
  top : (u, d) ∈ hs
  low : ∀ a ∈ q, d ≤ a.2
  near : ∀ x e, (x, e) ∈ hs → e ≤ d + 1
  done : ∀ x e, (x, e) ∈ hs → (x, e) ∉ q → (x, e) ≠ (u, d) → Okd el c hs x e
  some : ∀ y ∈ (predL el u).take i, 0 < c y u → ∃ e, (y, e) ∈ hs ∧ e ≤ d + 1
section
variable {n s t u v d i : Nat} {el : List (Nat × Nat)} {c : Nat → Nat → Int} {hs q : List (Nat × Nat)}
theorem BI.start (ht : t < n) : BI n t el c [(t, 0)] [(t, 0)] := by
  refine ⟨⟨by simp, ?_, by simp, ?_, ?_, fun x d h => by simp at h; omega, by simp, by simp⟩, ?_, ?_⟩
  · intro x d h; simp at h; omega
  · intro x d h; simp at h; omega
  · intro x d h; simp at h; exact .inl h.2
  · intro a r e x w h; simp at h; omega
  · intro x d h1 h2; exact absurd h1 h2
theorem BI.pop (B : BI n t el c hs ((u, d) :: q)) : BJ n t el c u d 0 hs q := by
  have ho := List.pairwise_cons.mp B.ord
  refine ⟨⟨B.nd, B.lt, B.src, B.pos, B.par, B.adj, fun p hp => B.sub p (.tail _ hp), ho.2⟩, B.sub _ (.head _), fun a ha => ho.1 a ha, fun x e h => B.near _ _ rfl x e h, fun x e h1 h2 h3 => B.done x e h1 fun z => ?_, by simp⟩
  rcases List.mem_cons.mp z with z | z
  · exact h3 z
  · exact h2 z
theorem take_succ_mem {l : List Nat} {y : Nat} (h : l[i]? = some v) (hy : y ∈ l.take (i + 1)) : y ∈ l.take i ∨ y = v := by
  rw [List.take_add_one, h] at hy
  simpa using hy
theorem BJ.skip (B : BJ n t el c u d i hs q) (h : (predL el u)[i]? = Option.some v) (hv : v ∈ hs.map (·.1) ∨ ¬ 0 < c v u) : BJ n t el c u d (i + 1) hs q := by
  refine { B with some := fun y hy hc => ?_ }
  rcases take_succ_mem h hy with hy | rfl
  · exact B.some y hy hc
  · rcases hv with hv | hv
    · obtain ⟨⟨a, e⟩, h1, h2⟩ := List.mem_map.mp hv
      cases h2
      exact ⟨e, h1, B.near _ _ h1⟩
    · exact absurd hc hv
theorem BJ.add (N : Net n s t el c) (B : BJ n t el c u d i hs q) (h : (predL el u)[i]? = Option.some v) (hv : v ∉ hs.map (·.1)) : BJ n t el c u d (i + 1) (hs ++ [(v, d + 1)]) (q ++ [(v, d + 1)]) := by
  have hel : (v, u) ∈ el := mem_predL.mp (List.mem_of_getElem? h)
  have new : ∀ {x e}, (x, e) ∈ hs ++ [(v, d + 1)] → (x, e) ∈ hs ∨ (x = v ∧ e = d + 1) := fun {x e} h => by simpa using h
  have old : ∀ {x e}, (x, e) ∈ hs → (x, e) ∈ hs ++ [(v, d + 1)] := fun h => List.mem_append_left _ h
  refine ⟨⟨?_, fun x e h => ?_, old B.src, fun x e h hx => ?_, fun x e h => ?_, fun x e h hx => ?_, fun p hp => ?_, ?_⟩, old B.top, fun a ha => ?_, fun x e h => ?_, fun x e h1 h2 h3 => ?_, fun y hy hc => ?_⟩
  · rw [List.map_append, List.nodup_append]
    refine ⟨B.nd, by simp, fun a ha b hb e => ?_⟩
    simp at hb; subst hb; subst e; exact hv ha
  · rcases new h with h | h
    · exact B.lt x e h
    · rw [h.1]; exact (N.lt hel).1
  · rcases new h with h | h
    · exact B.pos x e h hx
    · omega
  · rcases new h with h | h
    · rcases B.par x e h with z | ⟨y, z⟩
      · exact .inl z
      · exact .inr ⟨y, old z⟩
    · exact .inr ⟨u, old (by rw [h.2]; exact B.top)⟩
  · rcases new h with h | h
    · exact B.adj x e h hx
    · exact ⟨u, by rw [h.1]; exact hel⟩
  · rcases List.mem_append.mp hp with hp | hp
    · exact List.mem_append_left _ (B.sub p hp)
    · exact List.mem_append_right _ hp
  · rw [List.pairwise_append]
    refine ⟨B.ord, by simp, fun a ha b hb => ?_⟩
    simp at hb; subst hb
    exact B.near a.1 a.2 (B.sub a ha)
  · rcases List.mem_append.mp ha with ha | ha
    · exact B.low a ha
    · simp at ha; subst ha; simp
  · rcases new h with h | h
    · exact B.near x e h
    · omega
  · rcases new h1 with h | h
    · intro y a b
      obtain ⟨w, w1, w2⟩ := B.done x e h (fun z => h2 (List.mem_append_left _ z)) h3 y a b
      exact ⟨w, old w1, w2⟩
    · exact absurd (List.mem_append_right _ (by rw [h.1, h.2]; simp)) h2
  · rcases take_succ_mem h hy with hy | rfl
    · obtain ⟨w, w1, w2⟩ := B.some y hy hc
      exact ⟨w, old w1, w2⟩
    · exact ⟨d + 1, by simp, Nat.le_refl _⟩
theorem BJ.fin (B : BJ n t el c u d i hs q) (hi : (predL el u).length ≤ i) : BI n t el c hs q := by
  refine ⟨B.toBB, fun a r e x w h => ?_, fun x e h1 h2 => ?_⟩
  · have := B.near x w h
    have := B.low a (by rw [e]; simp)
    omega
  · by_cases z : (x, e) = (u, d)
    · cases z
      intro y a b
      exact B.some y (by rw [List.take_of_length_le hi]; exact mem_predL.mpr a) b
    · exact B.done x e h1 h2 z
theorem BB.len (B : BB n t el c hs q) : hs.length ≤ n := by
  have := nodup_len (m := n) B.nd (fun x hx => by
    obtain ⟨p, hp, rfl⟩ := List.mem_map.mp hx
    exact B.lt p.1 p.2 hp)
  simpa using this
def hOf (n : Nat) (hs : List (Nat × Nat)) (x : Nat) : Nat := (hs.lookup x).getD n
theorem lookup_of {hs : List (Nat × Nat)} {x d : Nat} (h : (x, d) ∈ hs) (hn : (hs.map (·.1)).Nodup) : hs.lookup x = some d := by
  induction hs with
  | nil => cases h
  | cons p r ih =>
    obtain ⟨a, b⟩ := p
    simp only [List.map_cons, List.nodup_cons] at hn
    rcases List.mem_cons.mp h with e | h'
    · cases e; simp
    · have : (x == a) = false := by
        rw [beq_eq_false_iff_ne]; rintro rfl
        exact hn.1 (List.mem_map.mpr ⟨(x, d), h', rfl⟩)
      rw [List.lookup_cons, this]; exact ih h' hn.2
theorem lookup_some {hs : List (Nat × Nat)} {x d : Nat} (h : hs.lookup x = some d) : (x, d) ∈ hs := by
  induction hs with
  | nil => cases h
  | cons p r ih =>
    obtain ⟨a, b⟩ := p
    rw [List.lookup_cons] at h
    by_cases e : x = a
    · subst e; simp at h; subst h; exact .head _
    · have : (x == a) = false := by simpa using e
      rw [this] at h; exact .tail _ (ih h)
theorem lookup_no {hs : List (Nat × Nat)} {x : Nat} (h : hs.lookup x = none) : x ∉ hs.map (·.1) := by
  intro z
  obtain ⟨⟨a, b⟩, h1, h2⟩ := List.mem_map.mp z
  rw [List.lookup_eq_none_iff] at h
  have := h _ h1
  simp at this; exact this h2.symm
theorem BI.small (B : BI n t el c hs q) : ∀ x d, (x, d) ∈ hs → d < n := by
  intro x d h
  refine Classical.byContradiction fun z => ?_
  have all : ∀ k, ∀ g, g + k = d → ∃ y, (y, g) ∈ hs := by
    intro k
    induction k with
    | zero => intro g e; exact ⟨x, by rw [← e] at h; exact h⟩
    | succ k ih =>
      intro g e
      obtain ⟨y, hy⟩ := ih (g + 1) (by omega)
      rcases B.par y _ hy with w | ⟨y', w⟩
      · omega
      · exact ⟨y', w⟩
  obtain ⟨g, hg, hno⟩ := hole (m := n) (k := n + 1) (h := hOf n hs) (by omega)
  obtain ⟨y, hy⟩ := all (d - g) g (by omega)
  exact hno y (B.lt y g hy) (by unfold hOf; rw [lookup_of hy B.nd]; rfl)
theorem Fl.zero (N : Net n s t el c) : Fl n s t c (fun _ _ => 0) 0 :=
  ⟨fun _ _ _ _ => rfl, fun x _ y _ => N.nn x y, fun x _ => by rw [sN_zero fun _ _ => rfl]; simp, Int.le_refl _⟩
theorem BI.stuck (N : Net n s t el c) (B : BI n t el c hs []) (hns : s ∉ hs.map (·.1)) : Best n s t c (fun _ _ => 0) 0 := by
  refine ⟨Fl.zero N, N.hs, N.ht, fun x => !(hs.map (·.1)).contains x, by simpa using hns, ?_, fun x hx y hy a b => ?_⟩
  · have : t ∈ hs.map (·.1) := List.mem_map.mpr ⟨_, B.src, rfl⟩
    simpa using this
  · have hm : (x, y) ∈ el := Classical.byContradiction fun z => by rw [N.off z] at b; exact absurd b (Int.lt_irrefl _)
    have a' : x ∉ hs.map (·.1) := by simpa using a
    have : y ∉ hs.map (·.1) := fun z => by
      obtain ⟨⟨p, e⟩, h1, h2⟩ := List.mem_map.mp z
      cases h2
      obtain ⟨e', h3, _⟩ := B.done _ e h1 (by simp) x hm b
      exact a' (List.mem_map.mpr ⟨_, h3, rfl⟩)
    simpa using this
theorem BI.ready (N : Net n s t el c) (B : BI n t el c hs []) (hsm : s ∈ hs.map (·.1)) : AI n s t el c (fun _ _ => 0) (hOf n hs) (fun _ => 0) 0 ∧ hOf n hs s < n := by
  have get : ∀ {x d}, (x, d) ∈ hs → hOf n hs x = d := fun h => by unfold hOf; rw [lookup_of h B.nd]; rfl
  refine ⟨⟨Fl.zero N, fun x y a b => ?_, get B.src, fun x hx e => ?_, fun x hx => ?_, fun x hx i hi => by omega, fun x hx h => List.length_pos_iff.mpr h⟩, ?_⟩
  · cases hy : hs.lookup y with
    | none =>
      have e2 : hOf n hs y = n := by unfold hOf; rw [hy]; rfl
      have : hOf n hs x ≤ n := by
        cases hx : hs.lookup x with
        | none => unfold hOf; rw [hx]; exact Nat.le_refl _
        | some d => rw [get (lookup_some hx)]; exact Nat.le_of_lt (B.small _ _ (lookup_some hx))
      omega
    | some d =>
      obtain ⟨e, h1, h2⟩ := B.done y d (lookup_some hy) (by simp) x a b
      rw [get (lookup_some hy), get h1]; exact h2
  · cases q : hs.lookup x with
    | none => unfold hOf; rw [q]; show 1 ≤ n; omega
    | some d => rw [get (lookup_some q)]; exact B.pos x d (lookup_some q) e
  · cases q : hs.lookup x with
    | none => unfold hOf; rw [q]; exact Nat.le_refl _
    | some d => rw [get (lookup_some q)]; exact Nat.le_of_lt (B.small _ _ (lookup_some q))
  · obtain ⟨⟨a, d⟩, h1, h2⟩ := List.mem_map.mp hsm
    cases h2
    rw [get h1]; exact B.small _ _ h1
end
/-! the least height, step by step -/
structure NK (n : Nat) (el : List (Nat × Nat)) (c f : Nat → Nat → Int) (h : Nat → Nat) (u i k : Nat) : Prop where
  le : k + 1 ≤ n
  lo : ∀ y ∈ (succL el u).take i, f u y < c u y → k ≤ h y
  at_ : k + 1 = n ∨ ∃ y, (u, y) ∈ el ∧ f u y < c u y ∧ k = h y
section
variable {n u v i k : Nat} {el : List (Nat × Nat)} {c f : Nat → Nat → Int} {h : Nat → Nat}
theorem NK.start (hn : 1 ≤ n) : NK n el c f h u 0 (n - 1) := ⟨by omega, by simp, .inl (by omega)⟩
theorem NK.skip (K : NK n el c f h u i k) (hv : (succL el u)[i]? = some v) (hf : ¬ f u v < c u v) : NK n el c f h u (i + 1) k :=
  ⟨K.le, fun y hy q => by
    rcases take_succ_mem hv hy with hy | rfl
    · exact K.lo y hy q
    · exact absurd q hf, K.at_⟩
theorem NK.next (K : NK n el c f h u i k) (hv : (succL el u)[i]? = some v) (hf : f u v < c u v) : NK n el c f h u (i + 1) (if h v < k then h v else k) := by
  refine ⟨?_, fun y hy q => ?_, ?_⟩
  · have := K.le; split <;> omega
  · rcases take_succ_mem hv hy with hy | rfl
    · have := K.lo y hy q; split <;> omega
    · split <;> omega
  · split
    · exact .inr ⟨v, mem_succL.mp (List.mem_of_getElem? hv), hf, rfl⟩
    · exact K.at_
theorem NK.fin (K : NK n el c f h u i k) (hi : (succL el u).length ≤ i) : NH n el c f h u (k + 1) := by
  refine ⟨K.le, fun y hy q => ?_, ?_⟩
  · have := K.lo y (by rw [List.take_of_length_le hi]; exact mem_succL.mpr hy) q
    omega
  · rcases K.at_ with z | ⟨y, a, b, d⟩
    · exact .inl z
    · exact .inr ⟨y, a, b, by omega⟩
end
/-! the measure -/
def enc4 (B C D : Nat) (a b c d : Nat) : Nat := ((a * B + b) * C + c) * D + d
theorem lt_mul_add {x y K a b : Nat} (h : x < y) (ha : a < K) : x * K + a < y * K + b := by
  have : (x + 1) * K ≤ y * K := Nat.mul_le_mul_right K h
  rw [Nat.add_mul] at this
  omega
theorem enc4_lt {B C D a b c d a' b' c' d' : Nat} (hb : b < B) (hc : c < C) (hd : d < D) (h : a < a' ∨ (a = a' ∧ (b < b' ∨ (b = b' ∧ (c < c' ∨ (c = c' ∧ d < d')))))) : enc4 B C D a b c d < enc4 B C D a' b' c' d' := by
  unfold enc4
  rcases h with h | ⟨rfl, h | ⟨rfl, h | ⟨rfl, h⟩⟩⟩
  · exact lt_mul_add (lt_mul_add (lt_mul_add h hb) hc) hd
  · exact lt_mul_add (lt_mul_add (by omega) hc) hd
  · exact lt_mul_add (by omega) hd
  · omega
end Mine

namespace Mine
/-! how many nodes stand at a height -/
def cnt (h : Nat → Nat) (n j : Nat) : Int := sN n fun i => if h i = j then 1 else 0
def cL (h : Nat → Nat) (n m : Nat) : List Int := (List.range m).map fun j => cnt h n j
theorem cL_get {h : Nat → Nat} {n m j : Nat} (hj : j < m) : (cL h n m)[j]? = some (cnt h n j) := by
  unfold cL; rw [List.getElem?_map, List.getElem?_range hj]; rfl
theorem cL_len {h : Nat → Nat} {n m : Nat} : (cL h n m).length = m := by simp [cL]
theorem cL_succ {h : Nat → Nat} {n m : Nat} : (cL h n m).set (h n) (cnt h n (h n) + 1) = cL h (n + 1) m := by
  apply List.ext_getElem?
  intro j
  rw [List.getElem?_set]
  by_cases hj : j < m
  · rw [cL_get hj, cL_get hj, cL_len]
    by_cases e : h n = j
    · subst e; simp [hj, cnt, sN]
    · simp [e, cnt, sN]
  · have h1 : (cL h n m)[j]? = none := by rw [List.getElem?_eq_none_iff, cL_len]; omega
    have h2 : (cL h (n + 1) m)[j]? = none := by rw [List.getElem?_eq_none_iff, cL_len]; omega
    rw [h1, h2, cL_len]
    split <;> simp_all
theorem cL_zero {h : Nat → Nat} {m : Nat} : cL h 0 m = List.replicate m 0 := by
  apply List.ext_getElem?
  intro j
  rw [List.getElem?_replicate]
  by_cases hj : j < m
  · rw [cL_get hj]; simp [hj, cnt, sN]
  · rw [if_neg hj, List.getElem?_eq_none_iff, cL_len]; omega
theorem cnt_upd {h : Nat → Nat} {n u k j : Nat} (hu : u < n) : cnt (upd h u k) n j = cnt h n j - (if h u = j then 1 else 0) + (if k = j then 1 else 0) := by
  have e : ∀ i < n, (if upd h u k i = j then (1 : Int) else 0) = ((if h i = j then 1 else 0) - (if i = u then (if h u = j then 1 else 0) else 0)) + (if i = u then (if k = j then 1 else 0) else 0) := by
    intro i _
    by_cases q : i = u
    · subst q; simp
    · simp [upd_ne q, q]
  unfold cnt
  rw [sN_congr e, sN_add, sN_sub, sN_one (g := fun i => if i = u then (if h u = j then (1 : Int) else 0) else 0) hu (fun x _ h => by simp [h]), sN_one (g := fun i => if i = u then (if k = j then (1 : Int) else 0) else 0) hu (fun x _ h => by simp [h])]
  simp
theorem cL_upd {h : Nat → Nat} {n m u k : Nat} (hu : u < n) (hk : h u < m) (hne : h u ≠ k) : ((cL h n m).set (h u) (cnt h n (h u) - 1)).set k (cnt h n k + 1) = cL (upd h u k) n m := by
  apply List.ext_getElem?
  intro j
  rw [List.getElem?_set, List.getElem?_set, List.length_set]
  by_cases hj : j < m
  · rw [cL_get hj, cL_get hj, cL_len, cnt_upd hu]
    by_cases e1 : k = j
    · subst e1; simp [hj, hne]
    · by_cases e2 : h u = j
      · subst e2; simp [hj, e1]
      · simp [e1, e2]
  · have h1 : (cL h n m)[j]? = none := by rw [List.getElem?_eq_none_iff, cL_len]; omega
    have h2 : (cL (upd h u k) n m)[j]? = none := by rw [List.getElem?_eq_none_iff, cL_len]; omega
    rw [h1, h2, cL_len]
    by_cases e1 : k = j
    · subst e1; simp [hj]
    · by_cases e2 : h u = j
      · subst e2; exact absurd hk hj
      · simp [e1, e2]
theorem cnt_one {h : Nat → Nat} {n u : Nat} (hu : u < n) (hc : cnt h n (h u) - 1 = 0) : ∀ x < n, x ≠ u → h x ≠ h u := by
  intro x hx hne e
  have e1 : cnt h n (h u) = sN n (fun i => if i = u then 1 else 0) + sN n (fun i => if h i = h u ∧ i ≠ u then 1 else 0) := by
    unfold cnt
    rw [← sN_add]
    refine sN_congr fun i _ => ?_
    by_cases q : i = u
    · subst q; simp
    · by_cases q2 : h i = h u <;> simp [q, q2]
  rw [sN_one hu (fun x _ h => by simp [h])] at e1
  have := sN_ge (n := n) (k := x) (g := fun i => if h i = h u ∧ i ≠ u then 1 else 0) hx (fun i _ => by split <;> omega)
  simp [e, hne] at this
  simp at e1
  omega
end Mine

namespace Mine
def sV : Nat → (Nat → Nat) → Nat
  | 0, _ => 0
  | n + 1, g => sV n g + g n
theorem sV_congr {n : Nat} {g g' : Nat → Nat} (h : ∀ x < n, g x = g' x) : sV n g = sV n g' := by
  induction n with
  | zero => rfl
  | succ n ih => rw [sV, sV, ih fun x hx => h x (by omega), h n (by omega)]
theorem sV_lt {n u : Nat} {g g' : Nat → Nat} (hu : u < n) (h : ∀ x < n, x ≠ u → g x = g' x) (hl : g u < g' u) : sV n g < sV n g' := by
  induction n with
  | zero => omega
  | succ n ih =>
    rw [sV, sV]
    by_cases e : u = n
    · subst e
      rw [sV_congr fun x hx => h x (by omega) (by omega)]
      omega
    · have := ih (by omega) fun x hx => h x (by omega)
      rw [h n (by omega) (fun z => e z.symm)]
      omega
theorem sV_le {n B : Nat} {g : Nat → Nat} (h : ∀ x < n, g x ≤ B) : sV n g ≤ n * B := by
  induction n with
  | zero => exact Nat.zero_le _
  | succ n ih =>
    have := ih fun x hx => h x (by omega)
    have := h n (by omega)
    rw [sV, Nat.add_mul]; omega
def sH (n : Nat) (H : Nat → Nat) : Nat := sV n fun x => n - H x
def sC (n : Nat) (el : List (Nat × Nat)) (cur : Nat → Nat) : Nat := sV n fun x => (succL el x).length - cur x
def mM (n : Nat) (el : List (Nat × Nat)) (C : Int) (H cur : Nat → Nat) (F : Int) (p : Nat) : Nat := enc4 (C.toNat + 1) (n * el.length + 1) (n + 1) (sH n H) (C - F).toNat (sC n el cur) (n - p)
theorem succL_le {el : List (Nat × Nat)} {x : Nat} : (succL el x).length ≤ el.length := by unfold succL; rw [List.length_map]; exact List.length_filter_le _ _
theorem sC_le {n : Nat} {el : List (Nat × Nat)} {cur : Nat → Nat} : sC n el cur ≤ n * el.length := sV_le fun x _ => Nat.le_trans (Nat.sub_le _ _) succL_le
section
variable {n u k p p' : Nat} {el : List (Nat × Nat)} {C F F' : Int} {H cur cur' : Nat → Nat}
theorem mM_relabel (hu : u < n) (h1 : H u < k) (h2 : H u < n) (hF : 0 ≤ F) : mM n el C (upd H u k) cur' F p' < mM n el C H cur F p := by
  unfold mM
  refine enc4_lt ?_ (Nat.lt_succ_of_le sC_le) (by omega) (.inl ?_)
  · have : (C - F).toNat ≤ C.toNat := by omega
    omega
  · exact sV_lt hu (fun x _ hne => by rw [upd_ne hne]) (by rw [upd_self]; omega)
theorem mM_bump (hu : u < n) (h : cur u < (succL el u).length) (hF : 0 ≤ F) : mM n el C H (upd cur u (cur u + 1)) F p < mM n el C H cur F p := by
  unfold mM
  refine enc4_lt ?_ (Nat.lt_succ_of_le sC_le) (by omega) (.inr ⟨rfl, .inr ⟨rfl, .inl ?_⟩⟩)
  · have : (C - F).toNat ≤ C.toNat := by omega
    omega
  · exact sV_lt hu (fun x _ hne => by rw [upd_ne hne]) (by rw [upd_self]; omega)
theorem mM_adv (hp : p < n) (hF : 0 ≤ F) : mM n el C H cur F (p + 1) < mM n el C H cur F p := by
  unfold mM
  refine enc4_lt ?_ (Nat.lt_succ_of_le sC_le) (by omega) (.inr ⟨rfl, .inr ⟨rfl, .inr ⟨rfl, by omega⟩⟩⟩)
  have : (C - F).toNat ≤ C.toNat := by omega
  omega
theorem mM_push (h : F < F') (hC : F' ≤ C) (hF : 0 ≤ F) : mM n el C H cur F' p' < mM n el C H cur F p := by
  unfold mM
  refine enc4_lt ?_ (Nat.lt_succ_of_le sC_le) (by omega) (.inr ⟨rfl, .inl (by omega)⟩)
  have : (C - F').toNat ≤ C.toNat := by omega
  omega
end
/-- a bound on what flows -/
def capS (n : Nat) (c : Nat → Nat → Int) (s : Nat) : Int := cutC n c (fun x => x == s)
theorem Fl.le_capS {n s t : Nat} {c f : Nat → Nat → Int} {F : Int} (H : Fl n s t c f F) (hs : s < n) (ht : t < n) (hst : s ≠ t) : F ≤ capS n c s :=
  H.le_cut hs ht (by simp) (by simp; exact fun e => hst e.symm)
theorem PI.short {n s t u : Nat} {el : List (Nat × Nat)} {c f : Nat → Nat → Int} {h cur : Nat → Nat} {F : Int} {p : List Nat} (N : Net n s t el c) (I : AI n s t el c f h cur F) (P : PI el c f h s p u) (hut : u ≠ t) (hs : h s < n) : p.length < n := by
  have := P.hs
  have := I.hp u (P.ult N) hut
  have := P.len
  omega
theorem PI.hasEdge {n s t u : Nat} {el : List (Nat × Nat)} {c f : Nat → Nat → Int} {h : Nat → Nat} {p : List Nat} (N : Net n s t el c) (P : PI el c f h s p u) (hse : succL el s ≠ []) : succL el u ≠ [] := by
  have hl := P.len
  by_cases e : p.length = 1
  · have h1 := P.last
    rw [e] at h1
    have h2 := P.start
    rw [show (1 : Nat) - 1 = 0 from rfl, h2] at h1
    cases h1; exact hse
  · obtain ⟨x, hx⟩ : ∃ x, p[p.length - 2]? = some x := ⟨_, List.getElem?_eq_getElem (by omega)⟩
    have hc := P.chain (p.length - 2) x u hx (by rw [show p.length - 2 + 1 = p.length - 1 by omega]; exact P.last)
    have := mem_succL.mpr (N.sym hc.1)
    intro z
    rw [z] at this; cases this
end Mine

namespace Mine
/-! bit masks, the spread, the list of cuts -/
def updM (to : Nat → Nat) (x m : Nat) : Nat → Nat := fun i => if i = x then m else to i
theorem updM_self {to : Nat → Nat} {x m : Nat} : updM to x m x = m := by simp [updM]
theorem updM_ne {to : Nat → Nat} {x m i : Nat} (h : i ≠ x) : updM to x m i = to i := by simp [updM, h]
def addA (to : Nat → Nat) (e : Nat × Nat) : Nat → Nat := updM to e.1 (to e.1 ||| 2 ^ e.2)
def rndI (k : Nat) (to : Nat → Nat) : Nat → Nat → Nat
  | 0 => to
  | x + 1 => let to' := rndI k to x; if (to' x).testBit k then updM to' x (to' x ||| to' k) else to'
def rnd (n : Nat) (to : Nat → Nat) : Nat → Nat → Nat
  | 0 => to
  | k + 1 => rndI k (rnd n to k) n
def spread (n : Nat) (es : List (Nat × Nat)) : Nat → Nat := rnd n (es.foldl addA fun x => 2 ^ x) n
theorem rndI_eq (k : Nat) (to : Nat → Nat) : ∀ (m x : Nat), rndI k to m x = if x < m ∧ (to x).testBit k = true then to x ||| to k else to x
  | 0, x => by simp [rndI]
  | m + 1, x => by
    have hm := rndI_eq k to m m
    have hk := rndI_eq k to m k
    have hx := rndI_eq k to m x
    simp only [Nat.lt_irrefl, false_and, if_false] at hm
    have hk' : rndI k to m k = to k := by
      rw [hk]; split
      · simp
      · rfl
    show (if (rndI k to m m).testBit k = true then updM (rndI k to m) m (rndI k to m m ||| rndI k to m k) else rndI k to m) x = _
    rw [hm, hk']
    by_cases hb : (to m).testBit k = true
    · rw [if_pos hb]
      by_cases e : x = m
      · subst e
        rw [updM_self, if_pos ⟨Nat.lt_succ_self x, hb⟩]
      · rw [updM_ne e, hx]
        have : (x < m + 1) = (x < m) := by apply propext; omega
        simp only [this]
    · rw [if_neg hb, hx]
      by_cases e : x = m
      · subst e; simp [hb]
      · have : (x < m + 1) = (x < m) := by apply propext; omega
        simp only [this]
theorem addA_bit {to : Nat → Nat} {e : Nat × Nat} {x y : Nat} : (addA to e x).testBit y = ((to x).testBit y || (decide (x = e.1) && decide (y = e.2))) := by
  unfold addA updM
  by_cases h : x = e.1
  · subst h
    simp only [if_true, Nat.testBit_or, Nat.testBit_two_pow, decide_true, Bool.true_and]
    congr 1
    by_cases q : e.2 = y
    · simp [q]
    · simp [q]; exact fun z => q z.symm
  · simp [h]
theorem foldA_bit : ∀ (es : List (Nat × Nat)) (to : Nat → Nat) (x y : Nat), (es.foldl addA to x).testBit y = ((to x).testBit y || decide ((x, y) ∈ es))
  | [], to, x, y => by simp
  | e :: es, to, x, y => by
    rw [List.foldl_cons, foldA_bit es, addA_bit]
    obtain ⟨a, b⟩ := e
    by_cases h1 : x = a <;> by_cases h2 : y = b <;> simp [h1, h2]
structure War (n K : Nat) (es : List (Nat × Nat)) (to : Nat → Nat) : Prop where
  refl : ∀ x < n, (to x).testBit x = true
  edge : ∀ x < n, ∀ y < n, (x, y) ∈ es → (to x).testBit y = true
  clo : ∀ j < K, ∀ x < n, ∀ y < n, (to x).testBit j = true → (to j).testBit y = true → (to x).testBit y = true
  snd : ∀ T : Nat → Bool, (∀ x < n, ∀ y < n, (x, y) ∈ es → T x = true → T y = true) → ∀ x < n, ∀ y < n, T x = true → (to x).testBit y = true → T y = true
theorem War.zero {n : Nat} {es : List (Nat × Nat)} : War n 0 es (es.foldl addA fun x => 2 ^ x) := by
  refine ⟨fun x _ => ?_, fun x _ y _ h => ?_, fun j hj => by omega, fun T hT x hx y hy h1 h2 => ?_⟩
  · rw [foldA_bit]; simp
  · rw [foldA_bit]; simp [h]
  · rw [foldA_bit] at h2
    simp only [Bool.or_eq_true, decide_eq_true_eq, Nat.testBit_two_pow] at h2
    rcases h2 with h2 | h2
    · rw [← h2]; exact h1
    · exact hT x hx y hy h2 h1
theorem War.next {n K : Nat} {es : List (Nat × Nat)} {to : Nat → Nat} (h : War n K es to) (hK : K < n) : War n (K + 1) es (rndI K to n) := by
  have bit : ∀ x < n, ∀ y, (rndI K to n x).testBit y = true ↔ (to x).testBit y = true ∨ ((to x).testBit K = true ∧ (to K).testBit y = true) := fun x hx y => by
    rw [rndI_eq]
    by_cases hb : (to x).testBit K = true
    · rw [if_pos ⟨hx, hb⟩, Nat.testBit_or]; simp [hb]
    · rw [if_neg (fun q => hb q.2)]; simp [hb]
  refine ⟨fun x hx => (bit x hx x).mpr (.inl (h.refl x hx)), fun x hx y hy q => (bit x hx y).mpr (.inl (h.edge x hx y hy q)), fun j hj x hx y hy q1 q2 => ?_, fun T hT x hx y hy q1 q2 => ?_⟩
  · have hjn : j < n := by omega
    rw [bit x hx] at q1 ⊢
    rw [bit j hjn] at q2
    by_cases e : j = K
    · subst e
      have r1 : (to x).testBit j = true := q1.elim id fun z => z.1
      have r2 : (to j).testBit y = true := q2.elim id fun z => z.2
      exact .inr ⟨r1, r2⟩
    · have hjK : j < K := by omega
      rcases q1 with q1 | ⟨q1, q1'⟩ <;> rcases q2 with q2 | ⟨q2, q2'⟩
      · exact .inl (h.clo j hjK x hx y hy q1 q2)
      · exact .inr ⟨h.clo j hjK x hx K hK q1 q2, q2'⟩
      · exact .inr ⟨q1, h.clo j hjK K hK y hy q1' q2⟩
      · exact .inr ⟨q1, q2'⟩
  · rcases (bit x hx y).mp q2 with q | ⟨q, q'⟩
    · exact h.snd T hT x hx y hy q1 q
    · exact h.snd T hT K hK y hy (h.snd T hT x hx K hK q1 q) q'
theorem War.all {n : Nat} {es : List (Nat × Nat)} : ∀ {K : Nat}, K ≤ n → War n K es (rnd n (es.foldl addA fun x => 2 ^ x) K)
  | 0, _ => War.zero
  | K + 1, h => (War.all (by omega)).next (by omega)
/-- the spread tells what is reached -/
theorem spread_rch {n : Nat} {es : List (Nat × Nat)} {c f : Nat → Nat → Int} (h1 : ∀ x < n, ∀ y < n, (x, y) ∈ es ↔ f x y < c x y) : Rch n c f fun x y => (spread n es x).testBit y := by
  have W : War n n es (spread n es) := War.all (Nat.le_refl n)
  refine ⟨W.refl, fun x hx y hy q => W.edge x hx y hy ((h1 x hx y hy).mpr q), fun x hx y hy z hz a b => W.clo y hy x hx z hz a b, fun T hT x hx y hy a b => W.snd T (fun p hp q hq e t => hT p hp q hq t ((h1 p hp q hq).mp e)) x hx y hy a b⟩
theorem spread_lt {n : Nat} {es : List (Nat × Nat)} (h : ∀ e ∈ es, e.1 < n ∧ e.2 < n) {x : Nat} (hx : x < n) : spread n es x < 2 ^ n := by
  have base : ∀ x < n, (es.foldl addA fun x => 2 ^ x) x < 2 ^ n := fun x hx => by
    refine Nat.lt_pow_two_of_testBit _ fun i hi => ?_
    rw [foldA_bit]
    have h1 : Nat.testBit (2 ^ x) i = false := by rw [Nat.testBit_two_pow]; simp; omega
    have h2 : (x, i) ∉ es := fun q => by have := (h _ q).2; dsimp only at this; omega
    simp [h1, h2]
  have go : ∀ K, K ≤ n → ∀ x < n, rnd n (es.foldl addA fun x => 2 ^ x) K x < 2 ^ n := fun K => by
    induction K with
    | zero => intro _; exact base
    | succ K ih =>
      intro hK x hx
      show rndI K _ n x < _
      rw [rndI_eq]
      split
      · exact Nat.or_lt_two_pow (ih (by omega) x hx) (ih (by omega) K (by omega))
      · exact ih (by omega) x hx
  exact go n (Nat.le_refl n) x hx
/-! sides -/
def crs (m : Nat) (e : Nat × Nat) : Bool := m.testBit e.1 && !m.testBit e.2
def totS (el : List (Nat × Nat)) (cap : Nat × Nat → Int) (m : Nat) : Int := ((el.filter (crs m)).map cap).sum
def sidesOf (n s t : Nat) : List Nat := (List.range (2 ^ n)).filter fun m => crs m (s, t)
def maskT (T : Nat → Bool) : Nat → Nat
  | 0 => 0
  | n + 1 => maskT T n + if T n then 2 ^ n else 0
theorem maskT_lt (T : Nat → Bool) : ∀ n, maskT T n < 2 ^ n
  | 0 => by simp [maskT]
  | n + 1 => by
    have := maskT_lt T n
    unfold maskT
    rw [Nat.pow_succ]
    split <;> omega
theorem maskT_bit (T : Nat → Bool) : ∀ n, ∀ x < n, (maskT T n).testBit x = T x
  | 0, x, h => by omega
  | n + 1, x, h => by
    have hl := maskT_lt T n
    unfold maskT
    by_cases e : x = n
    · subst e
      by_cases q : T x = true
      · rw [if_pos q, Nat.add_comm, Nat.testBit_two_pow_add_eq, Nat.testBit_lt_two_pow hl, q]; rfl
      · rw [if_neg q, Nat.add_zero, Nat.testBit_lt_two_pow hl]; simp at q; exact q.symm
    · have hx : x < n := by omega
      by_cases q : T n = true
      · rw [if_pos q, Nat.add_comm, Nat.testBit_two_pow_add_gt hx]; exact maskT_bit T n x hx
      · rw [if_neg q, Nat.add_zero]; exact maskT_bit T n x hx
def cL2 (el : List (Nat × Nat)) (cap : Nat × Nat → Int) (x y : Nat) : Int := if (x, y) ∈ el then cap (x, y) else 0
theorem totS_cut {n : Nat} {el : List (Nat × Nat)} {cap : Nat × Nat → Int} (hn : el.Nodup) (hl : ∀ e ∈ el, e.1 < n ∧ e.2 < n) (m : Nat) : totS el cap m = cutC n (cL2 el cap) fun x => m.testBit x := by
  unfold totS cutC
  rw [sum_pairs (hn.filter _) fun e he => hl e (List.mem_filter.mp he).1]
  refine sN_congr fun x _ => sN_congr fun y _ => ?_
  unfold cL2
  by_cases h1 : (x, y) ∈ el
  · by_cases h2 : crs m (x, y) = true
    · have h3 : (m.testBit x && !m.testBit y) = true := h2
      rw [if_pos (List.mem_filter.mpr ⟨h1, h2⟩), if_pos h3, if_pos h1]
    · have h3 : ¬ (m.testBit x && !m.testBit y) = true := h2
      rw [if_neg (fun q => h2 (List.mem_filter.mp q).2), if_neg h3]
  · rw [if_neg (fun q => h1 (List.mem_filter.mp q).1), if_neg h1]; simp
theorem cutC_congr {n : Nat} {g : Nat → Nat → Int} {T T' : Nat → Bool} (h : ∀ x < n, T x = T' x) : cutC n g T = cutC n g T' := by
  unfold cutC
  exact sN_congr fun x hx => sN_congr fun y hy => by rw [h x hx, h y hy]
section
variable {n s t : Nat} {el : List (Nat × Nat)} {cap : Nat × Nat → Int} {f : Nat → Nat → Int} {F : Int}
theorem mem_sides {m : Nat} : m ∈ sidesOf n s t ↔ m < 2 ^ n ∧ m.testBit s = true ∧ m.testBit t = false := by
  unfold sidesOf crs
  rw [List.mem_filter, List.mem_range]
  simp
theorem least_ge (B : Best n s t (cL2 el cap) f F) (hn : el.Nodup) (hl : ∀ e ∈ el, e.1 < n ∧ e.2 < n) {m : Nat} (hm : m ∈ sidesOf n s t) : F ≤ totS el cap m := by
  obtain ⟨_, h1, h2⟩ := mem_sides.mp hm
  rw [totS_cut hn hl]
  exact B.fl.le_cut B.hs B.ht h1 h2
theorem side_of {T : Nat → Bool} (hs : s < n) (ht : t < n) (h1 : T s = true) (h2 : T t = false) : maskT T n ∈ sidesOf n s t := mem_sides.mpr ⟨maskT_lt T n, by rw [maskT_bit T n s hs, h1], by rw [maskT_bit T n t ht, h2]⟩
theorem tot_mask (hn : el.Nodup) (hl : ∀ e ∈ el, e.1 < n ∧ e.2 < n) (T : Nat → Bool) : totS el cap (maskT T n) = cutC n (cL2 el cap) T := by
  rw [totS_cut hn hl]; exact cutC_congr fun x hx => maskT_bit T n x hx
theorem least_at (B : Best n s t (cL2 el cap) f F) (hn : el.Nodup) (hl : ∀ e ∈ el, e.1 < n ∧ e.2 < n) : ∃ m ∈ sidesOf n s t, totS el cap m = F := by
  obtain ⟨T, h1, h2, h3⟩ := B.off
  exact ⟨maskT T n, side_of B.hs B.ht h1 h2, by rw [tot_mask hn hl]; exact (B.fl.cut_iff B.hs B.ht h1 h2).mpr h3⟩
/-- the sides of the least cuts -/
def leastS (n s t : Nat) (el : List (Nat × Nat)) (cap : Nat × Nat → Int) (F : Int) : List Nat := (sidesOf n s t).filter fun m => decide (totS el cap m = F)
theorem fil_len {α : Type} {p : α → Bool} : ∀ {l : List α}, (l.filter p).length = l.length ↔ ∀ a ∈ l, p a = true := by
  intro l
  constructor
  · intro h a ha
    have : l.filter p = l := (List.filter_sublist (p := p) (l := l)).eq_of_length h
    rw [← this] at ha
    exact (List.mem_filter.mp ha).2
  · intro h; rw [List.filter_eq_self.mpr h]
theorem every_side (B : Best n s t (cL2 el cap) f F) (hn : el.Nodup) (hl : ∀ e ∈ el, e.1 < n ∧ e.2 < n) {R : Nat → Nat → Bool} (r : Rch n (cL2 el cap) f R) {u v : Nat} (hu : u < n) (hv : v < n) :
    ((leastS n s t el cap F).filter fun m => crs m (u, v)).length = (leastS n s t el cap F).length ↔ (R s u = true ∧ R v t = true) := by
  rw [fil_len, ← B.every r hu hv]
  constructor
  · intro h T a b d
    have hm := h (maskT T n) (List.mem_filter.mpr ⟨side_of B.hs B.ht a b, by rw [tot_mask hn hl, d]; simp⟩)
    unfold crs at hm
    rw [maskT_bit T n u hu, maskT_bit T n v hv] at hm
    simpa using hm
  · intro h m hm
    obtain ⟨h1, h2⟩ := List.mem_filter.mp hm
    obtain ⟨_, a, b⟩ := mem_sides.mp h1
    have := h (fun x => m.testBit x) a b (by rw [← totS_cut hn hl]; simpa using h2)
    unfold crs; simp [this.1, this.2]
theorem some_side (B : Best n s t (cL2 el cap) f F) (hn : el.Nodup) (hl : ∀ e ∈ el, e.1 < n ∧ e.2 < n) (hc : ∀ e ∈ el, 1 ≤ cap e) {R : Nat → Nat → Bool} (r : Rch n (cL2 el cap) f R) {u v : Nat} (he : (u, v) ∈ el) :
    0 < ((leastS n s t el cap F).filter fun m => crs m (u, v)).length ↔ R u v = false := by
  obtain ⟨hu, hv⟩ := hl _ he
  rw [← B.some r (fun x _ y _ => by unfold cL2; split; · rename_i q; have := hc _ q; omega
                                    · exact Int.le_refl _) hu hv (by unfold cL2; rw [if_pos he]; exact hc _ he), List.length_pos_iff_exists_mem]
  constructor
  · rintro ⟨m, hm⟩
    obtain ⟨h0, h3⟩ := List.mem_filter.mp hm
    obtain ⟨h1, h2⟩ := List.mem_filter.mp h0
    obtain ⟨_, a, b⟩ := mem_sides.mp h1
    unfold crs at h3
    exact ⟨fun x => m.testBit x, ⟨a, b, by rw [← totS_cut hn hl]; simpa using h2⟩, by simp at h3; exact h3.1, by simp at h3; exact h3.2⟩
  · rintro ⟨T, ⟨a, b, d⟩, e1, e2⟩
    refine ⟨maskT T n, List.mem_filter.mpr ⟨List.mem_filter.mpr ⟨side_of B.hs B.ht a b, by rw [tot_mask hn hl, d]; simp⟩, ?_⟩⟩
    unfold crs
    dsimp only
    rw [maskT_bit T n u hu, maskT_bit T n v hv, e1, e2]; rfl
end
end Mine

namespace Mine

abbrev PH := Addr → Option Obj
abbrev HP := PH → Prop
def Sub (d d' : PH) : Prop := ∀ a o, d a = some o → d' a = some o
def Dis (d d' : PH) : Prop := ∀ a, d a = none ∨ d' a = none
def uni (d d' : PH) : PH := fun a => (d a).or (d' a)

theorem Sub.refl (d : PH) : Sub d d := fun _ _ h => h
theorem Sub.trans {a b c : PH} (x : Sub a b) (y : Sub b c) : Sub a c := fun i o h => y i o (x i o h)
theorem Dis.symm {a b : PH} (x : Dis a b) : Dis b a := fun i => (x i).symm
theorem sub_uni_left (a b : PH) : Sub a (uni a b) := fun i o h => by simp [uni, h]
theorem sub_uni_right {a b : PH} (x : Dis a b) : Sub b (uni a b) := fun i o h => by
  rcases x i with q | q
  · simp [uni, q, h]
  · rw [q] at h; cases h
theorem uni_sub {a b c : PH} (x : Sub a c) (y : Sub b c) : Sub (uni a b) c := fun i o h => by
  unfold uni at h
  cases q : a i with
  | none => rw [q] at h; exact y i o h
  | some v => rw [q] at h; cases h; exact x i _ q
theorem dis_uni {a b c : PH} (x : Dis a b) (y : Dis a c) : Dis a (uni b c) := fun i => by
  rcases x i with q | q
  · exact .inl q
  · rcases y i with r | r
    · exact .inl r
    · exact .inr (by simp [uni, q, r])
theorem Dis.sub {a b c d : PH} (x : Dis a b) (y : Sub c a) (z : Sub d b) : Dis c d := fun i => by
  rcases x i with q | q
  · cases r : c i with
    | none => exact .inl rfl
    | some o => rw [y i o r] at q; cases q
  · cases r : d i with
    | none => exact .inr rfl
    | some o => rw [z i o r] at q; cases q

def Sat : List HP → PH → Prop
  | [], _ => True
  | P :: l, d => ∃ d1 d2, Dis d1 d2 ∧ Sub d1 d ∧ Sub d2 d ∧ P d1 ∧ Sat l d2

theorem Sat.mono : ∀ {l : List HP} {d d' : PH}, Sub d d' → Sat l d → Sat l d'
  | [], _, _, _, _ => trivial
  | _ :: _, _, _, k, ⟨d1, d2, h1, h2, h3, h4, h5⟩ => ⟨d1, d2, h1, h2.trans k, h3.trans k, h4, h5⟩

theorem Sat.cons_mono {P : HP} {l l' : List HP} {d : PH} (k : ∀ d, Sat l d → Sat l' d) : Sat (P :: l) d → Sat (P :: l') d :=
  fun ⟨d1, d2, h1, h2, h3, h4, h5⟩ => ⟨d1, d2, h1, h2, h3, h4, k _ h5⟩
theorem Sat.head_mono {P P' : HP} {l : List HP} {d : PH} (k : ∀ d, P d → P' d) : Sat (P :: l) d → Sat (P' :: l) d :=
  fun ⟨d1, d2, h1, h2, h3, h4, h5⟩ => ⟨d1, d2, h1, h2, h3, k _ h4, h5⟩

theorem Sat.swap {P Q : HP} {l : List HP} {d : PH} : Sat (P :: Q :: l) d → Sat (Q :: P :: l) d :=
  fun ⟨d1, d2, h1, h2, h3, h4, ⟨e1, e2, g1, g2, g3, g4, g5⟩⟩ =>
    ⟨e1, uni d1 e2, dis_uni ((h1.sub (Sub.refl _) g2).symm) g1, g2.trans h3, uni_sub h2 (g3.trans h3), g4,
      ⟨d1, e2, h1.sub (Sub.refl _) g3, sub_uni_left _ _, sub_uni_right (h1.sub (Sub.refl _) g3), h4, g5⟩⟩

/-- the conjunction of a list, as one region -/
def all (l : List HP) : HP := fun d => Sat l d

theorem Sat.flat : ∀ {l r : List HP} {d : PH}, Sat (all l :: r) d → Sat (l ++ r) d
  | [], _, _, ⟨_, _, _, _, h3, _, h5⟩ => h5.mono h3
  | P :: l, r, d, ⟨d1, d2, h1, h2, h3, ⟨e1, e2, g1, g2, g3, g4, g5⟩, h5⟩ => by
    refine ⟨e1, uni e2 d2, dis_uni g1 (h1.sub g2 (Sub.refl _)), g2.trans h2, uni_sub (g3.trans h2) h3, g4, ?_⟩
    exact Sat.flat ⟨e2, d2, h1.sub g3 (Sub.refl _), sub_uni_left _ _, sub_uni_right (h1.sub g3 (Sub.refl _)), g5, h5⟩
theorem Sat.unflat : ∀ {l r : List HP} {d : PH}, Sat (l ++ r) d → Sat (all l :: r) d
  | [], _, d, h => ⟨fun _ => none, d, fun _ => .inl rfl, fun _ _ q => (nomatch q), Sub.refl _, trivial, h⟩
  | P :: l, r, d, ⟨d1, d2, h1, h2, h3, h4, h5⟩ => by
    obtain ⟨e1, e2, g1, g2, g3, g4, g5⟩ := Sat.unflat h5
    refine ⟨uni d1 e1, e2, (dis_uni (h1.sub (Sub.refl _) g3).symm g1.symm).symm, uni_sub h2 (g2.trans h3), g3.trans h3, ?_, g5⟩
    exact ⟨d1, e1, h1.sub (Sub.refl _) g2, sub_uni_left _ _, sub_uni_right (h1.sub (Sub.refl _) g2), h4, g4⟩

inductive Take : HP → List HP → List HP → Prop
  | head {X R} : Take X (X :: R) R
  | tail {X Y P R} : Take X P R → Take X (Y :: P) (Y :: R)
  | fam {X l l' R} : Take X l l' → Take X (all l :: R) (all l' :: R)

theorem Take.sat {X : HP} {P R : List HP} (t : Take X P R) : ∀ {d}, Sat P d → Sat (X :: R) d := by
  induction t with
  | head => exact fun h => h
  | tail _ ih => exact fun h => Sat.swap (Sat.cons_mono (fun _ k => ih k) h)
  | @fam l l' R _ ih =>
    intro d h
    have h1 : Sat (all (X :: l') :: R) d := Sat.head_mono (fun _ k => ih k) h
    have h2 := Sat.flat h1
    exact Sat.cons_mono (fun _ k => Sat.unflat k) h2

inductive Takes : List HP → List HP → List HP → Prop
  | nil {P} : Takes [] P P
  | cons {X Xs P R R'} : Take X P R → Takes Xs R R' → Takes (X :: Xs) P R'
theorem Takes.sat {Xs P R : List HP} (t : Takes Xs P R) : ∀ {d}, Sat P d → Sat (Xs ++ R) d := by
  induction t with
  | nil => exact fun h => h
  | cons t _ ih => exact fun h => Sat.cons_mono (fun _ k => ih k) (t.sat h)

theorem Sat.drop {P : HP} {l : List HP} {d : PH} : Sat (P :: l) d → Sat l d := fun ⟨_, _, _, _, h3, _, h5⟩ => h5.mono h3
theorem Sat.left : ∀ {l r : List HP} {d : PH}, Sat (l ++ r) d → Sat l d
  | [], _, _, _ => trivial
  | _ :: _, _, _, ⟨d1, d2, h1, h2, h3, h4, h5⟩ => ⟨d1, d2, h1, h2, h3, h4, h5.left⟩
theorem Sat.right : ∀ {l r : List HP} {d : PH}, Sat (l ++ r) d → Sat r d
  | [], _, _, h => h
  | _ :: _, _, _, h => Sat.right (Sat.drop h)

theorem Sat.perm : ∀ {l l' : List HP}, l.Perm l' → ∀ {d : PH}, Sat l d → Sat l' d := by
  intro l l' p
  induction p with
  | nil => exact fun h => h
  | cons x _ ih => exact fun h => Sat.cons_mono (fun _ k => ih k) h
  | swap x y l => exact fun h => Sat.swap h
  | trans _ _ i1 i2 => exact fun h => i2 (i1 h)

/-- one address, one value -/
def one (a : Addr) (o : Option Obj) : PH := fun b => if b = a then o else none
def Owns (a : Addr) (X : HP) : Prop := ∀ d, X d → ∃ o, d a = some o
class Up (X : HP) : Prop where
  up : ∀ d d', Sub d d' → X d → X d'

theorem Sat.get {X : HP} [Up X] {R : List HP} {d : PH} (h : Sat (X :: R) d) : X d :=
  let ⟨_, _, _, h2, _, h4, _⟩ := h
  Up.up _ _ h2 h4

theorem Sat.upd {a : Addr} {X X' : HP} {R : List HP} {h h' : Heap} (S : Sat (X :: R) h.get?) (hX : Owns a X) (hs : ∀ b, b ≠ a → h'.get? b = h.get? b)
    (hX' : X' (one a (h'.get? a))) : Sat (X' :: R) h'.get? := by
  obtain ⟨d1, d2, h1, h2, h3, h4, h5⟩ := S
  obtain ⟨o, ho⟩ := hX d1 h4
  have hn : d2 a = none := by
    rcases h1 a with q | q
    · rw [ho] at q; cases q
    · exact q
  refine ⟨one a (h'.get? a), d2, fun b => ?_, fun b o' q => ?_, fun b o' q => ?_, hX', h5⟩
  · by_cases e : b = a
    · subst e; exact .inr hn
    · exact .inl (by simp [one, e])
  · by_cases e : b = a
    · subst e; simpa [one] using q
    · simp [one, e] at q
  · have e : b ≠ a := fun e => by subst e; rw [hn] at q; cases q
    rw [hs b e]; exact h3 b o' q

/-- an update that keeps a part: X splits into the cell at a and the rest -/
theorem Sat.new {a : Addr} {X' : HP} {R : List HP} {h h' : Heap} (S : Sat R h.get?) (hk : ∀ b o, h.get? b = some o → h'.get? b = some o) (hn : h.get? a = none)
    (hX' : X' (one a (h'.get? a))) : Sat (X' :: R) h'.get? := by
  refine ⟨one a (h'.get? a), h.get?, fun b => ?_, fun b o' q => ?_, hk, hX', S⟩
  · by_cases e : b = a
    · subst e; exact .inr hn
    · exact .inl (by simp [one, e])
  · by_cases e : b = a
    · subst e; simpa [one] using q
    · simp [one, e] at q

theorem Sat.keep {R : List HP} {h h' : Heap} (S : Sat R h.get?) (hk : ∀ b o, h.get? b = some o → h'.get? b = some o) : Sat R h'.get? := S.mono hk

/-- new objects, several at once -/
theorem Sat.news {d0 : PH} {X' : HP} {R : List HP} {h h' : Heap} (S : Sat R h.get?) (hk : ∀ b o, h.get? b = some o → h'.get? b = some o)
    (hs : Sub d0 h'.get?) (hn : ∀ a o, d0 a = some o → h.get? a = none) (hX' : X' d0) : Sat (X' :: R) h'.get? := by
  refine ⟨d0, h.get?, fun b => ?_, hs, hk, hX', S⟩
  cases q : d0 b with
  | none => exact .inl rfl
  | some o => exact .inr (hn b o q)

theorem get?_size_none (h : Heap) : h.get? h.objs.size = none := by
  cases q : h.get? h.objs.size with
  | none => rfl
  | some o => exact absurd (Heap.lt_size q) (Nat.lt_irrefl _)

noncomputable abbrev Pg : Program := PySem.Challenge.rw_bl0014_01.row.prog

/-! what stands still -/
structure Cx where
  w : World
  h₀ : Heap
  os : OsState
  mg : Str → Option Value
  mb : Str → Option Value
  loose : List Str
  K : (hd.heap_39 w.params).In h₀
  T : TopRead topProg loose mg mb h₀
  bm : ∃ bm ob, mg "__builtins__" = some (.ref bm) ∧ bm ≠ builtinsNs ∧ bm ≠ mainGlobals ∧ h₀.get? bm = some ob ∧ ob.cls = .type "module" ∧ ob.dict = some builtinsNs ∧ ob.data = .plain
  more : PH
  hx : Option Value
  hxp : hx = none ∨ ∃ h o its, hx = some (.ref h) ∧ uni h₀.get? more h = some o ∧ o.data = .fields its ∧ its[2]? = some .none
/-- what stands still -/
def Cx.st (c : Cx) : PH := uni c.h₀.get? c.more
noncomputable abbrev Cx.M (c : Cx) : Model := model Pg c.w

def upP (d : PH) (a : Addr) (o : Option Obj) : PH := fun b => if b = a then o else d b

theorem Sat.updP {a : Addr} {X X' : HP} {R : List HP} {d : PH} {o' : Option Obj} (S : Sat (X :: R) d) (hX : Owns a X) (hX' : X' (one a o')) : Sat (X' :: R) (upP d a o') := by
  obtain ⟨d1, d2, h1, h2, h3, h4, h5⟩ := S
  obtain ⟨o, ho⟩ := hX d1 h4
  have hn : d2 a = none := by
    rcases h1 a with q | q
    · rw [ho] at q; cases q
    · exact q
  refine ⟨one a o', d2, fun b => ?_, fun b x q => ?_, fun b x q => ?_, hX', h5⟩
  · by_cases e : b = a
    · subst e; exact .inr hn
    · exact .inl (by simp [one, e])
  · by_cases e : b = a
    · subst e; simpa [one, upP] using q
    · simp [one, e] at q
  · have e : b ≠ a := fun e => by subst e; rw [hn] at q; cases q
    simpa [upP, e] using h3 b x q
theorem Sat.newsP {d0 d : PH} {X' : HP} {R : List HP} (S : Sat R d) (hd : Dis d0 d) (hX' : X' d0) : Sat (X' :: R) (uni d0 d) :=
  ⟨d0, d, hd, sub_uni_left _ _, sub_uni_right hd, hX', S⟩

/-! the state -/
structure St (c : Cx) (P : List HP) (s : Shared) : Prop where
  keep : Sub c.st s.heap.get?
  own : ∃ d, Sub d s.heap.get? ∧ (∀ a o, d a = some o → 4 ≤ a) ∧ Dis c.st d ∧ Sat P d
  os : s.os = c.os
  gens : AllBare s.gens

theorem Cx.size (c : Cx) {s : Shared} (k : Sub c.st s.heap.get?) : 4 ≤ s.heap.objs.size := by
  obtain ⟨o, es, ep, h, _⟩ := c.T.g
  exact Heap.lt_size (k _ _ (sub_uni_left _ _ _ _ h))

section
variable {c : Cx} {P P' R Xs : List HP} {X : HP} {s : Shared}
theorem St.sat (h : St c P s) : Sat P s.heap.get? := let ⟨_, h1, _, _, h4⟩ := h.own; h4.mono h1
theorem St.K (h : St c P s) : (hd.heap_39 c.w.params).In s.heap := c.K.keeps ((sub_uni_left _ _).trans h.keep)
theorem St.T (h : St c P s) : TopRead topProg c.loose c.mg c.mb s.heap := c.T.keeps ((sub_uni_left _ _).trans h.keep)
theorem St.mono (h : St c P s) (k : ∀ d, Sat P d → Sat P' d) : St c P' s := ⟨h.keep, let ⟨d, h1, h2, h3, h4⟩ := h.own; ⟨d, h1, h2, h3, k _ h4⟩, h.os, h.gens⟩
theorem St.take (h : St c P s) (t : Take X P R) : St c (X :: R) s := h.mono fun _ => t.sat
theorem St.takes (h : St c P s) (t : Takes Xs P R) : St c (Xs ++ R) s := h.mono fun _ => t.sat
theorem St.perm (h : St c P s) (t : P.Perm P') : St c P' s := h.mono fun _ => Sat.perm t
theorem St.drop (h : St c (X :: P) s) : St c P s := h.mono fun _ => Sat.drop
theorem St.left (h : St c (P ++ R) s) : St c P s := h.mono fun _ => Sat.left
theorem St.right (h : St c (P ++ R) s) : St c R s := h.mono fun _ => Sat.right
theorem St.get [Up X] (h : St c P s) (t : Take X P R) : X s.heap.get? := (h.take t).sat.get
theorem St.get0 [Up X] (h : St c (X :: R) s) : X s.heap.get? := h.get .head
theorem St.low {a : Addr} (h : St c P s) (t : Take X P R) (ho : Owns a X) : 4 ≤ a := by
  obtain ⟨d, h1, h2, h3, h4⟩ := (h.take t).own
  obtain ⟨d1, d2, g1, g2, g3, g4, g5⟩ := h4
  obtain ⟨o, q⟩ := ho d1 g4
  exact h2 a o (g2 a o q)
theorem St.notSys {a : Addr} (h : St c P s) (t : Take X P R) (ho : Owns a X) : (a == sysModules) = false := by
  have h4 := h.low t ho
  rw [beq_eq_false_iff_ne]
  intro e
  rw [e] at h4
  exact absurd h4 (by decide)
theorem St.upd {a : Addr} {X' : HP} {s' : Shared} (h : St c (X :: R) s) (hX : Owns a X) (hs : ∀ b, b ≠ a → s'.heap.get? b = s.heap.get? b)
    (hX' : X' (one a (s'.heap.get? a))) (ho : s'.os = s.os := by rfl) (hg : s'.gens = s.gens := by rfl) : St c (X' :: R) s' := by
  obtain ⟨d, h1, h2, h3, h4⟩ := h.own
  obtain ⟨x, hx⟩ : ∃ o, d a = some o := by
    obtain ⟨d1, d2, g1, g2, g3, g4, g5⟩ := h4
    obtain ⟨o, q⟩ := hX d1 g4
    exact ⟨o, g2 a o q⟩
  have ha : c.st a = none := by
    rcases h3 a with q | q
    · exact q
    · rw [hx] at q; cases q
  refine ⟨fun b o e => ?_, ⟨upP d a (s'.heap.get? a), fun b o e => ?_, fun b o e => ?_, fun b => ?_, h4.updP hX hX'⟩, ho.trans h.os, hg ▸ h.gens⟩
  · rw [hs b (fun q => by rw [q, ha] at e; cases e)]; exact h.keep b o e
  · by_cases q : b = a
    · subst q; simpa [upP] using e
    · rw [hs b q]; exact h1 b o (by simpa [upP, q] using e)
  · by_cases q : b = a
    · subst q; exact h2 _ _ hx
    · exact h2 b o (by simpa [upP, q] using e)
  · by_cases q : b = a
    · subst q; exact .inl ha
    · rcases h3 b with y | y
      · exact .inl y
      · exact .inr (by simpa [upP, q] using y)
theorem St.news {d0 : PH} {X' : HP} {s' : Shared} (h : St c R s) (hk : ∀ b o, s.heap.get? b = some o → s'.heap.get? b = some o)
    (hs : Sub d0 s'.heap.get?) (hn : ∀ a o, d0 a = some o → s.heap.objs.size ≤ a) (hX' : X' d0) (ho : s'.os = s.os := by rfl) (hg : s'.gens = s.gens := by rfl) : St c (X' :: R) s' := by
  obtain ⟨d, h1, h2, h3, h4⟩ := h.own
  have hz := c.size h.keep
  have hd : Dis d0 d := fun a => by
    cases q : d0 a with
    | none => exact .inl rfl
    | some o =>
      cases r : d a with
      | none => exact .inr rfl
      | some o' => exact absurd (Heap.lt_size (h1 a o' r)) (Nat.not_lt.mpr (hn a o q))
  refine ⟨fun b o e => hk b o (h.keep b o e), ⟨uni d0 d, uni_sub hs (h1.trans hk), fun b o e => ?_, fun b => ?_, h4.newsP hd hX'⟩, ho.trans h.os, hg ▸ h.gens⟩
  · unfold uni at e
    cases q : d0 b with
    | none => rw [q] at e; exact h2 b o e
    | some x => exact Nat.le_trans hz (hn b x q)
  · cases q : d0 b with
    | none => simpa [uni, q] using h3 b
    | some x =>
      refine .inl ?_
      cases r : c.st b with
      | none => rfl
      | some o => exact absurd (Heap.lt_size (h.keep b o r)) (Nat.not_lt.mpr (hn b x q))
theorem St.new {a : Addr} {X' : HP} {s' : Shared} (h : St c R s) (hk : ∀ b o, s.heap.get? b = some o → s'.heap.get? b = some o) (hn : s.heap.objs.size ≤ a)
    (hX' : X' (one a (s'.heap.get? a))) (ho : s'.os = s.os := by rfl) (hg : s'.gens = s.gens := by rfl) : St c (X' :: R) s' :=
  h.news (d0 := one a (s'.heap.get? a)) hk (fun b o e => by
    by_cases q : b = a
    · subst q; simpa [one] using e
    · simp [one, q] at e) (fun b o e => by
    by_cases q : b = a
    · subst q; exact hn
    · simp [one, q] at e) hX' ho hg
theorem St.ext {s' : Shared} (h : St c R s) (hk : ∀ b o, s.heap.get? b = some o → s'.heap.get? b = some o) (ho : s'.os = s.os := by rfl) (hg : s'.gens = s.gens := by rfl) : St c R s' :=
  ⟨fun b o e => hk b o (h.keep b o e), let ⟨d, h1, h2, h3, h4⟩ := h.own; ⟨d, h1.trans hk, h2, h3, h4⟩, ho.trans h.os, hg ▸ h.gens⟩
theorem St.tok {t : Nat} (h : St c P s) : St c P { s with toks := t } := ⟨h.keep, h.own, h.os, h.gens⟩
theorem St.head_mono {X' : HP} (h : St c (X :: R) s) (k : ∀ d, X d → X' d) : St c (X' :: R) s := h.mono fun _ => Sat.head_mono k
theorem St.flat {l : List HP} (h : St c (all l :: R) s) : St c (l ++ R) s := h.mono fun _ => Sat.flat
theorem St.unflat {l : List HP} (h : St c (l ++ R) s) : St c (all l :: R) s := h.mono fun _ => Sat.unflat
end

/-! room -/
structure Rm (A : Around) (k : Nat) : Prop where
  d : A.depth + k ≤ 900
  u : A.units + 10 * k ≤ 9000
theorem Rm.deeper {A k env} (r : Rm A (k + 1)) : Rm (A.deeper env) k := ⟨by have := r.d; show A.depth + 1 + k ≤ 900; omega, by have := r.u; show A.units + 3 + 10 * k ≤ 9000; omega⟩
theorem Rm.in1 {A k} (r : Rm A (k + 1)) : Rm A.in1 k := ⟨by have := r.d; show A.depth + k ≤ 900; omega, by have := r.u; show A.units + 1 + 10 * k ≤ 9000; omega⟩
theorem Rm.mark {A k x} (r : Rm A k) : Rm (A.mark x) k := ⟨r.d, r.u⟩
theorem Rm.le {A k j} (r : Rm A k) (h : j ≤ k) : Rm A j := ⟨by have := r.d; omega, by have := r.u; omega⟩
theorem Rm.depth {A k} (r : Rm A k) : A.depth < recursionLimit := by have := r.d; show A.depth < 1000; omega
theorem Rm.units {A k} (r : Rm A k) : A.units < cLine := by have := r.u; show A.units < 9900; omega
theorem Rm.units1 {A k} (r : Rm A k) : A.in1.units < cLine := by have := r.u; show A.units + 1 < 9900; omega

end Mine

namespace Mine

/-! frames -/
def look : List (Str × Option Value) → Str → Option Value
  | [], _ => none
  | (y, v) :: r, x => if x = y then v else look r x
def frm (L : Addr) (l : List (Str × Option Value)) : HP := fun d => (l.map (·.1)).Nodup ∧ ∃ o es ep, d L = some o ∧ o.data = .dict es ep ∧ StrKeys es ∧ ∀ x, nsFind es x = look l x
instance {L l} : Up (frm L l) := ⟨fun _ _ s ⟨hn, o, es, ep, h, r⟩ => ⟨hn, o, es, ep, s _ _ h, r⟩⟩
theorem frm_owns {L l} : Owns L (frm L l) := fun _ ⟨_, o, _, _, h, _⟩ => ⟨o, h⟩
theorem frm_ns {L l} {h : Heap} (x : frm L l h.get?) : h.Ns L (look l) := x.2
theorem look_mem {l : List (Str × Option Value)} {x : Str} {v : Option Value} (hn : (l.map (·.1)).Nodup) (h : (x, v) ∈ l) : look l x = v := by
  induction l with
  | nil => cases h
  | cons p r ih =>
    obtain ⟨y, w⟩ := p
    simp only [List.map_cons, List.nodup_cons] at hn
    unfold look
    rcases List.mem_cons.mp h with e | h
    · cases e; simp
    · rw [if_neg, ih hn.2 h]
      intro e
      exact hn.1 (List.mem_map.mpr ⟨(x, v), h, e⟩)

inductive Put : List (Str × Option Value) → Str → Value → List (Str × Option Value) → Prop
  | here {x w v l} : Put ((x, w) :: l) x v ((x, some v) :: l)
  | there {y w x v l l'} : Put l x v l' → Put ((y, w) :: l) x v ((y, w) :: l')
theorem Put.keys {l x v l'} (p : Put l x v l') : l'.map (·.1) = l.map (·.1) := by
  induction p with
  | here => rfl
  | there _ ih => simp only [List.map_cons, ih]
theorem Put.mem {l x v l'} (p : Put l x v l') : x ∈ l.map (·.1) := by
  induction p with
  | here => exact List.mem_cons_self
  | there _ ih => exact List.mem_cons_of_mem _ ih
theorem Put.look {l x v l'} (p : Put l x v l') (hn : (l.map (·.1)).Nodup) (y : Str) : look l' y = if y = x then some v else look l y := by
  induction p with
  | here => simp only [Mine.look]; split <;> rfl
  | @there z w x v l l' p ih =>
    simp only [List.map_cons, List.nodup_cons] at hn
    simp only [Mine.look]
    rw [ih hn.2]
    have := p.mem
    by_cases e : y = z
    · subst e
      rw [if_pos rfl, if_pos rfl, if_neg]
      rintro rfl
      exact hn.1 this
    · rw [if_neg e, if_neg e]

def cel (a : Addr) (v : Option Value) : HP := fun d => ∃ o, d a = some o ∧ o.data = .cell v
instance {a v} : Up (cel a v) := ⟨fun _ _ s ⟨o, h, r⟩ => ⟨o, s _ _ h, r⟩⟩
theorem cel_owns {a v} : Owns a (cel a v) := fun _ ⟨o, h, _⟩ => ⟨o, h⟩

/-- a frame's first map: the parameters, then the other locals -/
inductive Oth (ps : List Str) : List (Str × NameKind) → List (Str × Option Value) → Prop
  | nil : Oth ps [] []
  | new {x r l} : Oth ps r l → Oth ps ((x, .local) :: r) ((x, none) :: l)
  | skip {x r l} : Oth ps r l → Oth ps (x :: r) l
  | par {x k r l} : ps.contains x = true → Oth ps r l → Oth ps ((x, k) :: r) l
theorem Oth.look {ps r l} (h : Oth ps r l) (x : Str) : look l x = none := by
  induction h with
  | nil => rfl
  | new _ ih => simp only [Mine.look, ih, ite_self]
  | skip _ ih => exact ih
  | par _ _ ih => exact ih

def boundF (binds : List (Str × Value)) : List (Str × Option Value) := binds.map fun p => (p.1, some p.2)
theorem look_append {a b : List (Str × Option Value)} (x : Str) : look (a ++ b) x = if x ∈ a.map (·.1) then look a x else look b x := by
  induction a with
  | nil => simp
  | cons p r ih =>
    obtain ⟨y, v⟩ := p
    simp only [List.cons_append, look, List.map_cons, List.mem_cons]
    by_cases e : x = y
    · simp [e]
    · simp only [e, if_false, false_or, ih]
theorem look_bound (binds : List (Str × Value)) (hn : (binds.map (·.1)).Nodup) (x : Str) : look (boundF binds) x = binds.reverse.lookup x := by
  have h2 : look (boundF binds) x = binds.lookup x := by
    clear hn
    induction binds with
    | nil => rfl
    | cons p r ih =>
      obtain ⟨y, v⟩ := p
      simp only [boundF, List.map_cons, look, List.lookup_cons] at ih ⊢
      by_cases e : x = y
      · simp [e]
      · have : (x == y) = false := beq_eq_false_iff_ne.mpr e
        simp [e, this, ih]
  rw [h2]
  clear h2
  induction binds with
  | nil => rfl
  | cons p r ih =>
    obtain ⟨y, v⟩ := p
    simp only [List.map_cons, List.nodup_cons] at hn
    rw [List.reverse_cons, List.lookup_append, ← ih hn.2, List.lookup_cons]
    by_cases e : x = y
    · subst e
      have : r.lookup x = none := by
        rw [List.lookup_eq_none_iff]
        intro p hp
        rw [bne_iff_ne]
        rintro rfl
        exact hn.1 (List.mem_map.mpr ⟨p, hp, rfl⟩)
      simp [this]
    · have : (x == y) = false := beq_eq_false_iff_ne.mpr e
      simp [this, List.lookup_cons]

section
variable {c : Cx} {A : Around} {E : Value → Shared → Prop} {s : Shared} {P R : List HP} {cn : Str} {cs : Scope} {L a : Addr} {cd : Value} {cl : List (Str × Addr)} {l l' : List (Str × Option Value)} {x : Str} {pos : Pos} {v : Value} {q : Addr} {v0 : Option Value}

theorem loadL {Q : Value → Shared → Prop} (S : St c P s) (t : Take (frm L l) P R) (g : (x, some v) ∈ l) (k : Q v s)
    (hk : cs.kind = .function := by rfl) (hx : (envX cn cs L a cd cl).kindOf x = some .local := by rfl) : wpAny c.M A (loadName (envX cn cs L a cd cl) x) Q E s :=
  have f := S.get t
  wpAny_loadName_local hk hx (frm_ns f) (look_mem f.1 g) k
theorem ld {Q : Value → Shared → Prop} (S : St c P s) (t : Take (frm L l) P R) (g : (x, some v) ∈ l) (k : Q v s)
    (hk : cs.kind = .function := by rfl) (hx : (envX cn cs L a cd cl).kindOf x = some .local := by rfl) (hd : (x == ("__debug__" : Str)) = false := by decide) :
    wpAny c.M A (eval (.Name x pos) (envX cn cs L a cd cl)) Q E s := wpAny_Name (loadL S t g k hk hx) hd
theorem ldC {Q : Value → Shared → Prop} (S : St c P s) (hc : cl.lookup x = some q) (t : Take (cel q (some v)) P R) (k : Q v s)
    (hk : cs.kind = .function := by rfl) (hx : (envX cn cs L a cd cl).kindOf x = some .cell := by rfl) (hd : (x == ("__debug__" : Str)) = false := by decide) :
    wpAny c.M A (eval (.Name x pos) (envX cn cs L a cd cl)) Q E s := wpAny_Name (wpAny_loadName_cell hk hx hc (S.get t) k) hd
theorem ldF {Q : Value → Shared → Prop} (S : St c P s) (hc : cl.lookup x = some q) (t : Take (cel q (some v)) P R) (k : Q v s)
    (hk : cs.kind = .function := by rfl) (hx : (envX cn cs L a cd cl).kindOf x = some .free := by rfl) (hd : (x == ("__debug__" : Str)) = false := by decide) (hn : (x == ("__classdict__" : Str)) = false := by decide) :
    wpAny c.M A (eval (.Name x pos) (envX cn cs L a cd cl)) Q E s := wpAny_Name (wpAny_loadName_free hk hx hc (S.get t) k hn) hd
theorem ldG {Q : Value → Shared → Prop} (S : St c P s) (e : nsIn (hd.heap_39 c.w.params) mainGlobals x = some (some v)) (k : Q v s)
    (hk : cs.kind = .function := by rfl) (hx : (envX cn cs L a cd cl).kindOf x = some .globalImplicit := by rfl) (hd : (x == ("__debug__" : Str)) = false := by decide) :
    wpAny c.M A (eval (.Name x pos) (envX cn cs L a cd cl)) Q E s :=
  Name_function_global hk hx (loadGlobal_global (env := envX cn cs L a cd cl) S.T.g (mg_of S.K S.T.g e) k) hd
theorem ldB {Q : Value → Shared → Prop} (S : St c P s) (e : nsIn (hd.heap_39 c.w.params) mainGlobals x = some none) (hv : bootBuiltins x = some v) (hn : x ≠ "__name__") (k : Q v s)
    (hk : cs.kind = .function := by rfl) (hx : (envX cn cs L a cd cl).kindOf x = some .globalImplicit := by rfl) (hd : (x == ("__debug__" : Str)) = false := by decide) :
    wpAny c.M A (eval (.Name x pos) (envX cn cs L a cd cl)) Q E s :=
  Name_function_global hk hx (loadGlobal_builtin (env := envX cn cs L a cd cl) S.T.g (mg_none_of S.K S.T.g e) S.T.b ((S.T.builtins x hn).trans hv) k) hd

theorem st {Q : Unit → Shared → Prop} (S : St c P s) (t : Take (frm L l) P R) (p : Put l x v l') (k : ∀ s', St c (frm L l' :: R) s' → Q () s')
    (hk : cs.kind = .function := by rfl) (hx : (envX cn cs L a cd cl).kindOf x = some .local := by rfl) : wpAny c.M A (storeName (envX cn cs L a cd cl) x v) Q E s := by
  have S' := S.take t
  have f := S'.get0
  refine wpAny_storeName_local hx (frm_ns f) (fun h' hn hs => k _ ?_) (by show (cs.kind == .class || (cs.kind == .module && L != mainGlobals)) = false; rw [hk]; rfl)
  refine S'.upd frm_owns (fun b hb => hs.2 b hb) ⟨p.keys ▸ f.1, ?_⟩
  obtain ⟨o, es, ep, h1, h2, h3, h4⟩ := hn
  exact ⟨o, es, ep, by show one L (h'.get? L) L = some o; simp [one, h1], h2, h3, fun y => by rw [h4, p.look f.1]⟩
theorem stC {Q : Unit → Shared → Prop} (S : St c P s) (hc : cl.lookup x = some q) (t : Take (cel q v0) P R) (k : ∀ s', St c (cel q (some v) :: R) s' → Q () s')
    (hk : cs.kind = .function := by rfl) (hx : (envX cn cs L a cd cl).kindOf x = some .cell := by rfl) : wpAny c.M A (storeName (envX cn cs L a cd cl) x v) Q E s := by
  have S' := S.take t
  refine wpAny_storeName_cell hk hx hc S'.get0 fun h' hv hs => k _ (S'.upd cel_owns (fun b hb => hs.2 b hb) ?_)
  obtain ⟨o, h1, h2⟩ := hv
  exact ⟨o, by show one q (h'.get? q) q = some o; simp [one, h1], h2⟩
end

def nodupB : List Str → Bool
  | [] => true
  | x :: r => r.all (fun y => !(x == y)) && nodupB r
theorem nodupB_iff : ∀ {l : List Str}, nodupB l = true → l.Nodup
  | [], _ => .nil
  | x :: r, h => by
    simp only [nodupB, Bool.and_eq_true, List.all_eq_true] at h
    refine List.nodup_cons.mpr ⟨fun hm => ?_, nodupB_iff h.2⟩
    have := h.1 x hm
    simp at this

/-! calls of the text's functions -/
section
variable {c : Cx} {A : Around} {s : Shared} {P : List HP} {k : Nat} {f : Addr} {name qual : Str} {params : Arguments} {body : List Stmt} {scope : Scope} {cl : List (Str × Addr)} {dV kV doc pm cdv ct oc : Value} {an od : Option Addr} {osl : Array (Option Value)}
  {args : Args} {binds : List (Str × Value)} {oth : List (Str × Option Value)} {Rr : Result → Shared → Prop}

theorem call_at {fo : Obj} (S : St c P s) (rm : Rm A (k + 1)) (ho : s.heap.get? f = some fo) (hdat : fo.data = .func (fnX name qual params body scope cl dV kV doc pm an cdv ct)) (hcd : s.heap.CodeRec cdv qual)
    (hbind : BindsTo s (fnX name qual params body scope cl dV kV doc pm an cdv ct) args binds) (hloc : ∀ y ∈ binds, scope.names.lookup y.1 = some .local)
    (hoth : Oth (binds.map (·.1)) scope.names oth) (hnd : nodupB (binds.map (·.1) ++ oth.map (·.1)) = true)
    (h : ∀ L s₁, St c (frm L (boundF binds ++ oth) :: P) s₁ → wpAny c.M (A.deeper (envX qual scope L f cdv cl)) (execs body (envX qual scope L f cdv cl))
        (fun fl s' => Rr (.ok (.ret (match fl with | .ret v => v | _ => .none))) s')
        (fun e s' => wpAny c.M (A.deeper (envX qual scope L f cdv cl)) (leaving (envX qual scope L f cdv cl) e) (fun _ s'' => Rr (.error e) s'') (fun e' s'' => Rr (.error e') s'') s') s₁)
    (hco : scope.isCoroutine = false := by rfl) (hgen : scope.isGenerator = false := by rfl) (hk : scope.kind = .function := by rfl) (hcell : ∀ x ∈ scope.names, x.2 ≠ .cell := by decide) :
    codeAny c.M A (.call (.ref f) args) Rr s := by
  refine codeAny_call_def (fd := fnX name qual params body scope cl dV kV doc pm an cdv ct) (body := body) rm.depth ho hdat S.T.nolimit hcd rfl hbind hcell hloc (fun h₀ hns hk₁ => ?_) hco hgen hk
  have hb : (boundF binds).map (·.1) = binds.map (·.1) := by simp only [boundF, List.map_map]; rfl
  refine h s.heap.objs.size _ (S.new (a := s.heap.objs.size) hk₁ (Nat.le_refl _) ⟨by rw [List.map_append, hb]; exact nodupB_iff hnd, ?_⟩)
  obtain ⟨o, es, ep, h1, h2, h3, h4⟩ := hns
  refine ⟨o, es, ep, by show one _ (h₀.get? _) _ = some o; simp [one, h1], h2, h3, fun x => ?_⟩
  rw [h4, look_append, hb]
  split
  · rw [look_bound binds (List.nodup_append.mp (nodupB_iff hnd)).1]
  · rename_i hx
    rw [hoth.look, List.lookup_eq_none_iff]
    intro p hp
    rw [bne_iff_ne]
    rintro rfl
    exact hx (List.mem_map.mpr ⟨p, List.mem_reverse.mp hp, rfl⟩)

theorem call_K (S : St c P s) (rm : Rm A (k + 1)) (ho : (hd.heap_39 c.w.params).lookup f = some ⟨oc, od, .func (fnX name qual params body scope cl dV kV doc pm an cdv ct), osl⟩) (hcd : codeIn (hd.heap_39 c.w.params) cdv qual = true)
    (hbind : BindsTo s (fnX name qual params body scope cl dV kV doc pm an cdv ct) args binds) (hloc : ∀ y ∈ binds, scope.names.lookup y.1 = some .local)
    (hoth : Oth (binds.map (·.1)) scope.names oth) (hnd : nodupB (binds.map (·.1) ++ oth.map (·.1)) = true)
    (h : ∀ B L s₁, Rm B k → B.handled = A.handled → St c (frm L (boundF binds ++ oth) :: P) s₁ → (let env := envX qual scope L f cdv cl; wpAny c.M B (execs body env)
        (fun fl s' => Rr (.ok (.ret (match fl with | .ret v => v | _ => .none))) s') (fun _ _ => False) s₁))
    (hco : scope.isCoroutine = false := by rfl) (hgen : scope.isGenerator = false := by rfl) (hk : scope.kind = .function := by rfl) (hcell : ∀ x ∈ scope.names, x.2 ≠ .cell := by decide) :
    codeAny c.M A (.call (.ref f) args) Rr s :=
  call_at S rm (S.K _ _ ho) rfl (codeRec_of S.K hcd) hbind hloc hoth hnd (fun L s₁ S₁ => wpAny_mono (h _ L s₁ rm.deeper rfl S₁) (fun _ _ x => x) fun _ _ x => x.elim) hco hgen hk hcell
end
end Mine

namespace Mine

/-! dicts -/
def dR (c : Cx) {K : Type} [DecidableEq K] (knd : KeyKind Pg c.w K) (a : Addr) (kvs : List (K × Value)) : HP :=
  fun d => ∃ o es ep, d a = some o ∧ o.ExactDict ∧ o.data = .dict es ep ∧ KeysOf knd es ∧ Pairs knd es.toList kvs ∧ (kvs.map (·.1)).Nodup
noncomputable abbrev dI (c : Cx) (a : Addr) (kvs : List (Int × Value)) : HP := dR c (intKind Pg c.w) a kvs
noncomputable abbrev dS (c : Cx) (a : Addr) (kvs : List (Str × Value)) : HP := dR c (PySem.strKind Pg c.w) a kvs

section
variable {c : Cx} {K : Type} [DecidableEq K] {knd : KeyKind Pg c.w K} {a : Addr} {kvs kvs' : List (K × Value)}
instance : Up (dR c knd a kvs) := ⟨fun _ _ s ⟨o, es, ep, h, r⟩ => ⟨o, es, ep, s _ _ h, r⟩⟩
theorem dR_owns : Owns a (dR c knd a kvs) := fun _ ⟨o, _, _, h, _⟩ => ⟨o, h⟩
theorem dR_of {h : Heap} (x : dR c knd a kvs h.get?) : h.DictOf knd a kvs := x
theorem dR_one {h : Heap} (x : h.DictOf knd a kvs) : dR c knd a kvs (one a (h.get? a)) := by
  obtain ⟨o, es, ep, h1, r⟩ := x
  exact ⟨o, es, ep, by simp [one, h1], r⟩
theorem dR_nodup {d : PH} (x : dR c knd a kvs d) : (kvs.map (·.1)).Nodup := let ⟨_, _, _, _, _, _, _, _, r⟩ := x; r
end
theorem isI (c : Cx) (k : Int) (t : Tok) : (intKind Pg c.w).is k (.int k t) = true := by simp [intKind, Value.isInt]
theorem isS (c : Cx) (x : Str) (t : Tok) : (PySem.strKind Pg c.w).is x (.str x t) = true := by simp [PySem.strKind, Value.isStrOf]

section
variable {c : Cx} {A : Around} {E : Value → Shared → Prop} {s : Shared} {P R : List HP} {K : Type} [DecidableEq K] {knd : KeyKind Pg c.w K} {a : Addr} {kvs : List (K × Value)} {k : K} {key v : Value}

theorem d_get {Q : Value → Shared → Prop} (S : St c P s) (hkey : knd.is k key = true) (t : Take (dR c knd a kvs) P R) (hv : valueAt kvs k = some v) (hq : ∀ s', St c P s' → Q v s') :
    wpAny c.M A (getItem (.ref a) key) Q E s := wpAny_getItem_of hkey (dR_of (S.get t)).mapOf hv (hq _ S.tok)
theorem d_sub {value slice : Expr} {Q : Value → Shared → Prop} (S : St c P s) (hkey : knd.is k key = true) (t : Take (dR c knd a kvs) P R) (hv : valueAt kvs k = some v) (hq : ∀ s', St c P s' → Q v s')
    (hs : subscripted slice false (.ref a) key = operate [.ref a, key] (getItem (.ref a) key) := by with_unfolding_all rfl) :
    wpAny c.M A (subscriptTail value slice (.ref a) key) Q E s :=
  have hm := (dR_of (S.get t)).mapOf
  tail_any hm.typeIs slot_dict_getitem.lookup (wpAny_getItem_of hkey hm hv (hq _ S.tok)) hs
theorem d_set {Q : Unit → Shared → Prop} (S : St c P s) (hkey : knd.is k key = true) (t : Take (dR c knd a kvs) P R) (hq : ∀ s', St c (dR c knd a (stored kvs k v) :: R) s' → Q () s')
    (hsz : kvs.length ≤ 1000000) : wpAny c.M A (setItem (.ref a) key v) Q E s := by
  have S' := S.take t
  exact wpAny_setItem_pairs hkey (dR_of S'.get0) (fun h' h1 h2 => hq _ (S'.upd dR_owns (fun b hb => h2.2 b hb) (dR_one h1))) (by rw [sizeLine_eq]; omega)
theorem d_in {Q : Value → Shared → Prop} (S : St c P s) (hkey : knd.is k key = true) (t : Take (dR c knd a kvs) P R) (hq : ∀ s', St c P s' → Q (.bool (valueAt kvs k).isSome) s') :
    wpAny c.M A (compareOp .In key (.ref a)) Q E s := wpAny_in_of hkey (S.notSys t dR_owns) (dR_of (S.get t)).mapOf (hq _ S.tok)
theorem d_notin {Q : Value → Shared → Prop} (S : St c P s) (hkey : knd.is k key = true) (t : Take (dR c knd a kvs) P R) (hq : ∀ s', St c P s' → Q (.bool (!(valueAt kvs k).isSome)) s') :
    wpAny c.M A (compareOp .NotIn key (.ref a)) Q E s := wpAny_notIn_of hkey (S.notSys t dR_owns) (dR_of (S.get t)).mapOf (hq _ S.tok)
theorem d_truthy {Q : Bool → Shared → Prop} (S : St c P s) (t : Take (dR c knd a kvs) P R) (hz : kvs.length ≤ 1000000) (hq : ∀ s', St c P s' → Q (!kvs.isEmpty) s') : wpAny c.M A (truthy (.ref a)) Q E s :=
  wpAny_truthy_dict (S.notSys t dR_owns) (dR_of (S.get t)) (by omega) (hq _ S.tok)
theorem d_len {Q : Value → Shared → Prop} (S : St c P s) (t : Take (dR c knd a kvs) P R) (hz : kvs.length ≤ 1000000) (hq : ∀ s' t, St c P s' → Q (.int kvs.length t) s') : wpAny c.M A (call (.builtin "len") [.ref a]) Q E s :=
  call_len_dict (S.notSys t dR_owns) (dR_of (S.get t)) (by omega) (hq _ _ S.tok)
theorem d_new {Q : Value → Shared → Prop} (S : St c P s) (knd : KeyKind Pg c.w K) (hq : ∀ s' a, St c (dR c knd a [] :: P) s' → Q (.ref a) s') : wpAny c.M A newDict Q E s := by
  refine wpAny_newObj_type (hq _ s.heap.objs.size (S.new (a := s.heap.objs.size) (fun b o e => Heap.get?_push_of_some _ e) (Nat.le_refl _) (dR_one (Heap.DictOf.new s.heap)))) (by show 0 ≤ sizeLine + 1; omega)
end

section
variable {c : Cx} {A : Around} {E : Value → Shared → Prop} {s : Shared} {P R : List HP} {a : Addr} {v : Value}
theorem dI_get {kvs : List (Int × Value)} {k : Int} {tk : Tok} {Q : Value → Shared → Prop} (S : St c P s) (t : Take (dI c a kvs) P R) (hv : valueAt kvs k = some v) (hq : ∀ s', St c P s' → Q v s') : wpAny c.M A (getItem (.ref a) (.int k tk)) Q E s := d_get S (isI c k tk) t hv hq
theorem dS_get {kvs : List (Str × Value)} {k : Str} {tk : Tok} {Q : Value → Shared → Prop} (S : St c P s) (t : Take (dS c a kvs) P R) (hv : valueAt kvs k = some v) (hq : ∀ s', St c P s' → Q v s') : wpAny c.M A (getItem (.ref a) (.str k tk)) Q E s := d_get S (isS c k tk) t hv hq
theorem dI_sub {kvs : List (Int × Value)} {k : Int} {tk : Tok} {value slice : Expr} {Q : Value → Shared → Prop} (S : St c P s) (t : Take (dI c a kvs) P R) (hv : valueAt kvs k = some v) (hq : ∀ s', St c P s' → Q v s')
    (hs : subscripted slice false (.ref a) (.int k tk) = operate [.ref a, .int k tk] (getItem (.ref a) (.int k tk)) := by with_unfolding_all rfl) : wpAny c.M A (subscriptTail value slice (.ref a) (.int k tk)) Q E s := d_sub S (isI c k tk) t hv hq hs
theorem dS_sub {kvs : List (Str × Value)} {k : Str} {tk : Tok} {value slice : Expr} {Q : Value → Shared → Prop} (S : St c P s) (t : Take (dS c a kvs) P R) (hv : valueAt kvs k = some v) (hq : ∀ s', St c P s' → Q v s')
    (hs : subscripted slice false (.ref a) (.str k tk) = operate [.ref a, .str k tk] (getItem (.ref a) (.str k tk)) := by with_unfolding_all rfl) : wpAny c.M A (subscriptTail value slice (.ref a) (.str k tk)) Q E s := d_sub S (isS c k tk) t hv hq hs
theorem dI_set {kvs : List (Int × Value)} {k : Int} {tk : Tok} {Q : Unit → Shared → Prop} (S : St c P s) (t : Take (dI c a kvs) P R) (hsz : kvs.length ≤ 1000000) (hq : ∀ s', St c (dI c a (stored kvs k v) :: R) s' → Q () s') : wpAny c.M A (setItem (.ref a) (.int k tk) v) Q E s := d_set S (isI c k tk) t hq hsz
theorem dS_set {kvs : List (Str × Value)} {k : Str} {tk : Tok} {Q : Unit → Shared → Prop} (S : St c P s) (t : Take (dS c a kvs) P R) (hsz : kvs.length ≤ 1000000) (hq : ∀ s', St c (dS c a (stored kvs k v) :: R) s' → Q () s') : wpAny c.M A (setItem (.ref a) (.str k tk) v) Q E s := d_set S (isS c k tk) t hq hsz
theorem dI_in {kvs : List (Int × Value)} {k : Int} {tk : Tok} {Q : Value → Shared → Prop} (S : St c P s) (t : Take (dI c a kvs) P R) (hq : ∀ s', St c P s' → Q (.bool (valueAt kvs k).isSome) s') : wpAny c.M A (compareOp .In (.int k tk) (.ref a)) Q E s := d_in S (isI c k tk) t hq
theorem dI_notin {kvs : List (Int × Value)} {k : Int} {tk : Tok} {Q : Value → Shared → Prop} (S : St c P s) (t : Take (dI c a kvs) P R) (hq : ∀ s', St c P s' → Q (.bool (!(valueAt kvs k).isSome)) s') : wpAny c.M A (compareOp .NotIn (.int k tk) (.ref a)) Q E s := d_notin S (isI c k tk) t hq
end

/-! lists -/
def lst (a : Addr) (vs : List Value) : HP := fun d => ∃ n, d a = some (listOf vs.toArray n)
instance {a vs} : Up (lst a vs) := ⟨fun _ _ s ⟨n, h⟩ => ⟨n, s _ _ h⟩⟩
theorem lst_owns {a vs} : Owns a (lst a vs) := fun _ ⟨_, h⟩ => ⟨_, h⟩
theorem lst_isL {a vs} {h : Heap} (x : lst a vs h.get?) : ∃ n, IsL h a vs.toArray n := x
theorem lst_isList {a vs} {h : Heap} (x : lst a vs h.get?) : h.IsList a vs.toArray := let ⟨n, q⟩ := x; IsL.isList (n := n) q
def tup (a : Addr) (vs : List Value) : HP := fun d => ∃ n, d a = some { cls := .type "tuple", data := .seq vs.toArray n }
instance {a vs} : Up (tup a vs) := ⟨fun _ _ s ⟨n, h⟩ => ⟨n, s _ _ h⟩⟩
theorem tup_owns {a vs} : Owns a (tup a vs) := fun _ ⟨_, h⟩ => ⟨_, h⟩
/-- an object, whole -/
def pt (a : Addr) (o : Obj) : HP := fun d => d a = some o
instance {a o} : Up (pt a o) := ⟨fun _ _ s h => s _ _ h⟩
theorem pt_owns {a o} : Owns a (pt a o) := fun _ h => ⟨_, h⟩
theorem one_self {a : Addr} {o : Option Obj} : one a o a = o := by simp [one]

section
variable {c : Cx} {A : Around} {E : Value → Shared → Prop} {s : Shared} {P R : List HP} {l : Addr} {vs : List Value} {v : Value} {k : Int} {tk : Tok}

theorem St.alloc {o : Obj} {X : HP} (S : St c P s) (hf : o.isFreed = false) (hX : X (one s.heap.objs.size (some o))) : St c (X :: P) { s with heap := s.heap.push o } :=
  S.new (a := s.heap.objs.size) (fun b o e => Heap.get?_push_of_some _ e) (Nat.le_refl _) (by show X (one _ ((s.heap.push o).get? _)); rw [Heap.get?_push_size _ hf]; exact hX)
theorem l_new {Q : Value → Shared → Prop} (S : St c P s) (hz : vs.length ≤ 1000000) (hq : ∀ s' a, St c (lst a vs :: P) s' → Q (.ref a) s') : wpAny c.M A (newList vs) Q E s :=
  wpAny_newObj_type (hq _ _ (S.alloc rfl ⟨_, one_self⟩)) (by show vs.toArray.size ≤ sizeLine; rw [List.size_toArray, sizeLine_eq]; omega)
theorem t_new {Q : Value → Shared → Prop} (S : St c P s) (hz : vs.length ≤ 1000000) (hq : ∀ s' a, St c (tup a vs :: P) s' → Q (.ref a) s') : wpAny c.M A (newTuple vs) Q E s :=
  wpAny_newObj_type (hq _ _ (S.alloc rfl ⟨_, one_self⟩)) (by show vs.toArray.size ≤ sizeLine; rw [List.size_toArray, sizeLine_eq]; omega)
theorem l_get {Q : Value → Shared → Prop} (S : St c P s) (t : Take (lst l vs) P R) (h0 : 0 ≤ k) (hz : k < 1000000) (hx : vs[k.toNat]? = some v) (hq : Q v s) : wpAny c.M A (getItem (.ref l) (.int k tk)) Q E s :=
  wpAny_getItem_list (lst_isList (S.get t)) h0 (by omega) (by simpa using hx) hq
theorem l_sub {value slice : Expr} {Q : Value → Shared → Prop} (S : St c P s) (t : Take (lst l vs) P R) (h0 : 0 ≤ k) (hz : k < 1000000) (hx : vs[k.toNat]? = some v) (hq : Q v s)
    (hs : subscripted slice false (.ref l) (.int k tk) = operate [.ref l, .int k tk] (getItem (.ref l) (.int k tk)) := by with_unfolding_all rfl) : wpAny c.M A (subscriptTail value slice (.ref l) (.int k tk)) Q E s :=
  tail_any (lst_isList (S.get t)).typeIs slot_list_getitem.lookup (l_get S t h0 hz hx hq) hs
theorem l_set {Q : Unit → Shared → Prop} (S : St c P s) (t : Take (lst l vs) P R) (h0 : 0 ≤ k) (hz : k < vs.length) (hz2 : k < 1000000) (hq : ∀ s', St c (lst l (vs.set k.toNat v) :: R) s' → Q () s') :
    wpAny c.M A (setItem (.ref l) (.int k tk) v) Q E s := by
  have S' := S.take t
  obtain ⟨n, hl⟩ := lst_isL S'.get0
  refine ki_setAt hl h0 (by omega) (by simpa using hz) (hq _ (S'.upd lst_owns (fun b hb => Heap.get?_update_ne _ _ _ _ hb) ?_))
  have := IsL.update (n := n) hl (fun x => x.setIfInBounds k.toNat v)
  have e : vs.toArray.setIfInBounds k.toNat v = (vs.set k.toNat v).toArray := by apply Array.toList_inj.mp; simp
  rw [e] at this
  exact ⟨_, one_self.trans this⟩
theorem l_append {Q : Value → Shared → Prop} (S : St c P s) (t : Take (lst l vs) P R) (hz : vs.length ≤ 1000000) (hq : ∀ s', St c (lst l (vs ++ [v]) :: R) s' → Q .none s') :
    wpAny c.M A (call (.builtin "list.append") [.ref l, v]) Q E s := by
  have S' := S.take t
  obtain ⟨n, hl⟩ := lst_isL S'.get0
  refine call_meets PySem.F.slot_list_append ⟨_, hl, rfl⟩ PySem.F.entry_list_append (PySem.F.args_list_append_2 _ _) (list_append l vs.toArray n v (by rw [List.size_toArray, sizeLine_eq]; omega)) ⟨hl, hq _ (S'.upd lst_owns (fun b hb => Heap.get?_update_ne _ _ _ _ hb) ?_)⟩
  have := IsL.update (n := n) hl (fun x => x.push v)
  have e : vs.toArray.push v = (vs ++ [v]).toArray := by apply Array.toList_inj.mp; simp
  rw [e] at this
  exact ⟨_, one_self.trans this⟩
end
end Mine

namespace Mine
noncomputable abbrev Cx.F (c : Cx) : Frag := hd.heap_39 c.w.params

section
variable {c : Cx} {P R R1 R2 : List HP} {s : Shared} {x C dx : Addr} {kvs : List (Str × Value)}
theorem lookIn_dS {h : Heap} {a : Addr} (H : dS c a kvs h.get?) : ∃ od, h.get? a = some od ∧ (∃ es ep, od.data = .dict es ep ∧ od.ExactDict ∧ es.size = kvs.length) ∧ ∀ name, lookIn name od = some (valueAt kvs name) := by
  obtain ⟨o, es, ep, h1, h2, h3, h4, h5, h6⟩ := H
  refine ⟨o, h1, ⟨es, ep, h3, h2, by rw [← h5.length, Array.length_toList]⟩, fun name => ?_⟩
  unfold lookIn
  rw [h3]
  have q : (fun d : DictEntry => d.key.isStr name) = fun d => (PySem.strKind Pg c.w).is name d.key := funext fun d => isStr_of name d.key
  have f := h5.find name
  dsimp only
  rw [q]
  cases e : List.find? (fun d : DictEntry => (PySem.strKind Pg c.w).is name d.key) es.toList with
  | some en => rw [e] at f; simp only [Option.map_some] at f; exact congrArg some f
  | none =>
    rw [e] at f
    simp only [Option.map_none] at f
    have : es.toList.any (·.refKey) = false := by
      rw [List.any_eq_false]
      intro en hen
      obtain ⟨k, hk, _⟩ := h4 en (Array.mem_toList_iff.mp hen)
      obtain ⟨t, ht⟩ := Value.isStrOf_shape hk
      simp [DictEntry.refKey, ht]
    simp only [this, Bool.false_eq_true, if_false, f]
theorem inst_at (S : St c P s) (t1 : Take (pt x (instObj C dx)) P R1) (t2 : Take (dS c dx kvs) P R2) : ∃ od, InstAt s.heap x (instObj C dx) C (some od) ∧ ∀ name, lookIn name od = some (valueAt kvs name) := by
  obtain ⟨od, h1, h2, h3⟩ := lookIn_dS (S.get t2)
  exact ⟨od, ⟨S.get t1, rfl, rfl, h1⟩, h3⟩
end

theorem putL_pairs {c : Cx} {name : Str} {h : Int} {t : Tok} {v : Value} {es : List DictEntry} {kvs : List (Str × Value)} (p : Pairs (PySem.strKind Pg c.w) es kvs) (hn : (kvs.map (·.1)).Nodup) :
    Pairs (PySem.strKind Pg c.w) (putL name h (.str name t) v es) (stored kvs name v) := by
  induction p with
  | nil => exact .cons (isS c name t) rfl .nil
  | @cons e kv es kvs hk hv p ih =>
    simp only [List.map_cons, List.nodup_cons] at hn
    have q : e.key.isStr name = decide (name = kv.1) := (isStr_of name e.key).trans (KeyKind.is_eq_decide hk name)
    unfold putL
    rw [q]
    by_cases he : name = kv.1
    · have hno : kv.1 ∉ kvs.map (·.1) := hn.1
      rw [decide_eq_true he, if_pos rfl]
      have : stored (kv :: kvs) name v = (kv.1, v) :: kvs := by
        simp only [stored, he, List.any_cons, decide_true, Bool.true_or, if_true, List.map_cons]
        rw [map_store_of_not_mem kvs kv.1 v hno]
      rw [this]
      exact .cons hk rfl p
    · have he' : ¬ kv.1 = name := fun x => he x.symm
      rw [decide_eq_false he, if_neg (by decide)]
      have : stored (kv :: kvs) name v = kv :: stored kvs name v := by
        simp only [stored, List.any_cons, he', decide_false, Bool.false_or, List.map_cons, if_false]
        split <;> rfl
      rw [this]
      exact .cons hk hv (ih hn.2)
theorem putL_keys {c : Cx} {name : Str} {t : Tok} {v : Value} : ∀ {es : List DictEntry}, (∀ e ∈ es, ∃ k, (PySem.strKind Pg c.w).is k e.key = true ∧ e.hash = (PySem.strKind Pg c.w).hash k) →
    ∀ e ∈ putL name (hashStr c.w name) (.str name t) v es, ∃ k, (PySem.strKind Pg c.w).is k e.key = true ∧ e.hash = (PySem.strKind Pg c.w).hash k
  | [], _, e, he => by
    rcases List.mem_cons.mp he with rfl | he
    · exact ⟨name, isS c name t, rfl⟩
    · cases he
  | x :: r, h, e, he => by
    unfold putL at he
    split at he
    · rcases List.mem_cons.mp he with rfl | he
      · exact h x (.head _)
      · exact h e (.tail _ he)
    · rcases List.mem_cons.mp he with rfl | he
      · exact h _ (.head _)
      · exact putL_keys (fun e he => h e (.tail _ he)) e he
theorem stored_nodup {K : Type} [DecidableEq K] {kvs : List (K × Value)} {k : K} {v : Value} (hn : (kvs.map (·.1)).Nodup) : ((stored kvs k v).map (·.1)).Nodup := by
  unfold stored
  split
  · rw [keys_map_store]; exact hn
  · rename_i h
    rw [List.map_append, List.nodup_append]
    refine ⟨hn, by simp, fun a ha b hb => ?_⟩
    simp only [List.map_cons, List.map_nil, List.mem_singleton] at hb
    subst hb
    rintro rfl
    obtain ⟨p, hp, rfl⟩ := List.mem_map.mp ha
    exact h (List.any_eq_true.mpr ⟨p, hp, by simp⟩)

section
variable {c : Cx} {A : Around} {E : Value → Shared → Prop} {P R R1 R2 : List HP} {s : Shared} {x C dx : Addr} {kvs : List (Str × Value)} {name : Str} {v : Value}
theorem getA {expr : Bool} {Q : Value → Shared → Prop} {attr : Option Value} (S : St c P s) (t1 : Take (pt x (instObj C dx)) P R1) (t2 : Take (dS c dx kvs) P R2) (hv : valueAt kvs name = some v)
    (hg : plainGet c.F C name = true) (hh : hasDictIn c.F C = true) (ha : findIn c.F (.ref C) name = some attr) (hn : noGet c.F attr = true) (hd : handedIn v = true) (hq : ∀ s', St c P s' → Q v s') :
    wpAny c.M A (getAttr (.ref x) name expr) Q E s := by
  obtain ⟨od, I, hl⟩ := inst_at S t1 t2
  exact get_value S.K I (plainGet_of hg).1 (findObj_own hh ha hn (by rw [hl, hv])) hd (hq _ S.tok)
theorem getP {expr : Bool} {Q : Value → Shared → Prop} {p fget : Addr} {rest : List Value} (S : St c P s) (t1 : Take (pt x (instObj C dx)) P R1) (t2 : Take (dS c dx kvs) P R2)
    (hg : plainGet c.F C name = true) (hh : hasDictIn c.F C = true)
    (ha : findIn c.F (.ref C) name = some (some (.ref p))) (hn : specialIn c.F (.ref p) "__get__" = some (some (.builtin "property.__get__"))) (ht : takesIn c.F (.ref p) = some true) (hp : recIn c.F p "property" = some (.ref fget :: rest))
    (h : ∀ s', St c P s' → codeAny c.M A.in1 (.call (.ref fget) ⟨[.ref x], []⟩) (fun r s' => match r with | .ok (.ret v) => handedIn v = true ∧ Q v s' | _ => False) s') :
    wpAny c.M A (getAttr (.ref x) name expr) Q E s := by
  obtain ⟨od, I, hl⟩ := inst_at S t1 t2
  refine get_bind S.K I (plainGet_of hg).1 (findObj_data (by obtain ⟨cd, hc, _⟩ := any_some hh; rw [hc]; rfl) ha hn ht) (plainGet_of hg).2 (wpAny_call (prop_get (s := { s with toks := s.toks + 1 }) S.K hp (codeAny_mono (h _ S.tok) fun r s' z => ?_)))
  rcases r with e | (_ | _ | _ | v) <;> first | exact z.elim | exact handed_on z.1 z.2
theorem getM {f : Addr} {pl : Sem Bool} {Q : Value × List Value → Shared → Prop} (S : St c P s) (t1 : Take (pt x (instObj C dx)) P R1) (t2 : Take (dS c dx kvs) P R2) (hg : plainGet c.F C name = true)
    (hf : findIn c.F (.ref C) name = some (some (.ref f))) (ht : isFn c.F (.ref f) = true) (hl : valueAt kvs name = none) (h : Q (.ref f, [.ref x]) s) : wpAny c.M A (getMethod (.ref x) name pl) Q E s := by
  obtain ⟨od, I, hl'⟩ := inst_at S t1 t2
  exact method_fn S.K I (plainGet_of hg).1 (plainGet_of hg).2 hf (beq_iff_eq.mp ht) (by show (lookIn name od).map _ = _; rw [hl', hl]; rfl) h
theorem setA {Q : Unit → Shared → Prop} {v : Value} (S : St c P s) (t1 : Take (pt x (instObj C dx)) P R1) (t2 : Take (dS c dx kvs) P R2)
    (hs : findIn c.F (.ref C) "__setattr__" = some (some (.builtin "object.__setattr__"))) (hp : plainOver c.F C = true) (ht : takerIn c.F C name = some none) (hh : hasDictIn c.F C = true) (hz : kvs.length ≤ 1000)
    (hq : ∀ s', St c (dS c dx (stored kvs name v) :: R2) s' → Q () s') : wpAny c.M A (setAttr (.ref x) name v) Q E s := by
  obtain ⟨od, I, hl⟩ := inst_at S t1 t2
  refine set_plain S.K I hs (osa_open (s := { s with toks := s.toks + 1 }) S.K I hp ht fun b => ?_)
  obtain ⟨cd, hc, hd'⟩ := any_some hh
  have S2 := S.take t2
  obtain ⟨hx, -, -, hD⟩ := I
  refine wpAny_bind (wpAny_pure (wpAny_bind (wpAny_bind (wpAny_loadPart hx (wpAny_bind ((looks_clsIn S.tok.K hc).here ?_))))))
  rw [hd']
  refine wpAny_pure (a := some dx) (wpAny_bind (wpAny_pure (wpAny_bind ?_)))
  obtain ⟨o, es, ep, h1, ⟨g1, g2, g3⟩, h3, h4, h5, h6⟩ := S2.get0
  obtain ⟨oc, od', oda, osl⟩ := o
  dsimp only at g1 g2 g3 h3
  subst g1 g2 g3 h3
  obtain ⟨es⟩ := es
  unfold nsSet
  refine wpAny_bind (wpAny_bind (wpAny_askSetting (wpAny_pure (wpAny_bind (wpAny_mkText (wpAny_bind (wpAny_loadPart (o := dictOf es ep) h1 ?_)))))))
  have cc : (!(es.toArray).any (·.key.isStr name) && (es.toArray).any (·.refKey)) = false := by
    have : es.any (·.refKey) = false := by
      rw [List.any_eq_false]
      intro en hen
      obtain ⟨k, hk, _⟩ := h4 en (by simpa using hen)
      obtain ⟨t, ht⟩ := Value.isStrOf_shape hk
      simp [DictEntry.refKey, ht]
    simp [this]
  dsimp only
  rw [aRefKeyMayBeTheName_at, cc]
  refine wpAny_updatePart (o := dictOf es ep) h1 ?_
  have U : (s.heap.update dx (Obj.putName name (hashStr c.w name) (.str name (s.toks + 1)) v)).get? dx = some (dictOf (putL name (hashStr c.w name) (.str name (s.toks + 1)) v es) (putN name es ep)) := by
    have := Heap.get?_update_self (Obj.putName name (hashStr c.w name) (.str name (s.toks + 1)) v) h1 (by rw [putName_dict]; rfl)
    rw [this, putName_dict]
  have hp5 := putL_pairs (name := name) (h := hashStr c.w name) (t := s.toks + 1) (v := v) h5 h6
  refine wpAny_bind (wpAny_lookBehind U (pastItsLine_dict ?_) ?_)
  · rw [List.size_toArray, hp5.length, sizeLine_eq]
    have := stored_length_le kvs name v
    omega
  · refine wpAny_pure (hq _ (S2.upd dR_owns (fun b hb => Heap.get?_update_ne _ _ _ _ hb) ⟨_, _, _, one_self.trans U, ⟨rfl, rfl, rfl⟩, rfl, fun e he => ?_, hp5, stored_nodup h6⟩))
    exact putL_keys (fun e he => h4 e (by simpa using he)) e (by simpa using he)
end
end Mine

namespace Mine
abbrev NoE : Value → Shared → Prop := fun _ _ => False

/-! calls -/
section
variable {c : Cx} {A : Around} {E : Value → Shared → Prop} {P R : List HP} {s : Shared} {env : Env} {pos : Pos} {f : Value} {first : List Value} {Q : Value → Shared → Prop} {id : String}
theorem callB {e : Expr} {rest : List Expr} (h : wpAny c.M A (spliced (backTo pos (starEach (e :: rest) env))) (fun vs s₁ => wpAny c.M A (call (.builtin id) (first ++ vs)) Q E s₁) E s)
    (he : starEach (e :: rest) env = (false, eval e env) :: starEach rest env := by rfl) (hp : (backTo pos (starEach rest env)).any (·.1) = false := by rfl) :
    wpAny c.M A (callWith pos (.builtin id) first (backTo pos (starEach (e :: rest) env)) []) Q E s := by
  rw [he] at h ⊢
  exact Calls.callWith_builtin (by show (false || (backTo pos (starEach rest env)).any (·.1)) = false; rw [hp]; rfl) (Calls.evalArgs_plain h)
theorem callB0 (h : wpAny c.M A (call (.builtin id) (first ++ [])) Q E s) : wpAny c.M A (callWith pos (.builtin id) first (backTo pos (starEach [] env)) []) Q E s :=
  Calls.callWith_builtin rfl (evalArgs_nil3 h)
theorem callF {e : Expr} {rest : List Expr} (S : St c P s) (hk : keepIn c.F f = true) (h : wpAny c.M A (spliced (backTo pos (starEach (e :: rest) env))) (fun vs s₁ => c.F.In s₁.heap ∧ wpAny c.M A (call f (first ++ vs)) Q E s₁) E s)
    (he : starEach (e :: rest) env = (false, eval e env) :: starEach rest env := by rfl) (hp : (backTo pos (starEach rest env)).any (·.1) = false := by rfl) :
    wpAny c.M A (callWith pos f first (backTo pos (starEach (e :: rest) env)) []) Q E s := callWith_K S.K hk h he hp
theorem callF0 (S : St c P s) (hk : keepIn c.F f = true) (h : wpAny c.M A (call f (first ++ [])) Q E s) : wpAny c.M A (callWith pos f first (backTo pos (starEach [] env)) []) Q E s := callWith_K0 S.K hk h
theorem callFk {e : Expr} {rest : List Expr} {kws : List Keyword} (S : St c P s) (hk : keepIn c.F f = true)
    (h : wpAny c.M A (spliced (backTo pos (starEach (e :: rest) env))) (fun vs s₁ => wpAny c.M A (evalAll ((backToKw pos (keywordEach kws env)).map (·.2)))
      (fun ks s₂ => c.F.In s₂.heap ∧ wpAny c.M A (call f (first ++ vs) (((backToKw pos (keywordEach kws env)).filterMap (·.1)).zip ks)) Q E s₂) E s₁) E s)
    (hall : (backToKw pos (keywordEach kws env)).all (·.1.isSome) = true := by rfl)
    (hplain : ((backTo pos (starEach (e :: rest) env)).any (·.1) || (backToKw pos (keywordEach kws env)).any (·.1.isNone)) = false := by rfl) (he : starEach (e :: rest) env = (false, eval e env) :: starEach rest env := by rfl) :
    wpAny c.M A (callWith pos f first (backTo pos (starEach (e :: rest) env)) (backToKw pos (keywordEach kws env))) Q E s := callWith_KW S.K hk hall h hplain he
theorem callFk0 {kws : List Keyword} (S : St c P s) (hk : keepIn c.F f = true)
    (h : wpAny c.M A (evalAll ((backToKw pos (keywordEach kws env)).map (·.2))) (fun ks s₂ => c.F.In s₂.heap ∧ wpAny c.M A (call f (first ++ []) (((backToKw pos (keywordEach kws env)).filterMap (·.1)).zip ks)) Q E s₂) E s)
    (hall : (backToKw pos (keywordEach kws env)).all (·.1.isSome) = true := by rfl)
    (hplain : ((backTo pos (starEach [] env)).any (·.1) || (backToKw pos (keywordEach kws env)).any (·.1.isNone)) = false := by rfl) :
    wpAny c.M A (callWith pos f first (backTo pos (starEach [] env)) (backToKw pos (keywordEach kws env))) Q E s := callWith_KW0 S.K hk hall h hplain
end

/-! the graph's own four attributes -/
def GAttr (name : Str) : Prop := ∀ P : Params, plainGet (hd.heap_39 P) 420 name = true ∧ hasDictIn (hd.heap_39 P) 420 = true ∧ findIn (hd.heap_39 P) (.ref 420) name = some none
theorem gattr_adj : GAttr "_adj" := fun P => ⟨by kernel_rfl, by kernel_rfl, by kernel_rfl⟩
theorem gattr_node : GAttr "_node" := fun P => ⟨by kernel_rfl, by kernel_rfl, by kernel_rfl⟩
theorem gattr_pred : GAttr "_pred" := fun P => ⟨by kernel_rfl, by kernel_rfl, by kernel_rfl⟩
theorem gattr_graph : GAttr "graph" := fun P => ⟨by kernel_rfl, by kernel_rfl, by kernel_rfl⟩
theorem getG {c : Cx} {A : Around} {E : Value → Shared → Prop} {P R1 R2 : List HP} {s : Shared} {x dx : Addr} {kvs : List (Str × Value)} {name : Str} {v : Value} {expr : Bool} {Q : Value → Shared → Prop} (S : St c P s) (hg : GAttr name)
    (t1 : Take (pt x (instObj 420 dx)) P R1) (t2 : Take (dS c dx kvs) P R2) (hv : valueAt kvs name = some v) (hd : handedIn v = true) (hq : ∀ s', St c P s' → Q v s') : wpAny c.M A (getAttr (.ref x) name expr) Q E s :=
  getA S t1 t2 hv (hg _).1 (hg _).2.1 (hg _).2.2 rfl hd hq

/-! ints -/
section
variable {c : Cx} {A : Around} {E : Value → Shared → Prop} {P R : List HP} {s : Shared} {env : Env} {pos : Pos} {a b : Int} {t u : Tok} {Q : Value → Shared → Prop}
theorem cI {i : Int} {k : Nat} (S : St c P s) (h : ∀ s' t, St c P s' → Q (.int i t) s') : wpAny c.M A (eval (.Constant (.int i) k pos) env) Q E s := wpAny_Constant_int (h _ _ S.tok)
theorem cS {x : Str} {k : Nat} (S : St c P s) (h : ∀ s' t, St c P s' → Q (.str x t) s') : wpAny c.M A (eval (.Constant (.str x) k pos) env) Q E s := wpAny_Constant_str (h _ _ S.tok)
theorem addI (S : St c P s) (h : ∀ s' t, St c P s' → Q (.int (a + b) t) s') : wpAny c.M A (binaryOp .Add (.int a t) (.int b u)) Q E s := add_int (h _ _ S.tok)
theorem subI (S : St c P s) (h : ∀ s' t, St c P s' → Q (.int (a - b) t) s') : wpAny c.M A (binaryOp .Sub (.int a t) (.int b u)) Q E s := sub_int (h _ _ S.tok)
theorem iaddI (S : St c P s) (h : ∀ s' t, St c P s' → Q (.int (a + b) t) s') : wpAny c.M A (inplaceOp .Add (.int a t) (.int b u)) Q E s := iadd_int (h _ _ S.tok)
theorem ltI (h : Q (.bool (decide (a < b))) s) : wpAny c.M A (compareOp .Lt (.int a t) (.int b u)) Q E s := lt_int h
theorem gtI (h : Q (.bool (decide (b < a))) s) : wpAny c.M A (compareOp .Gt (.int a t) (.int b u)) Q E s := gt_int h
theorem eqI (h : Q (.bool (a == b)) s) : wpAny c.M A (compareOp .Eq (.int a t) (.int b u)) Q E s := eq_int h
theorem neI (h : Q (.bool (a != b)) s) : wpAny c.M A (compareOp .NotEq (.int a t) (.int b u)) Q E s := ne_int h
end

/-! iterators -/
structure Iter (c : Cx) (A : Around) (it : Value) (n : Nat) (I : Nat → List HP) (V : Nat → Value → Prop) (O : Nat → Value → List HP) (Fin : List HP) : Prop where
  next : ∀ i, i < n → ∀ P s (Q : Option Value → Shared → Prop) E, St c (I i ++ P) s → (∀ s' v, V i v → St c (O i v ++ P) s' → Q (some v) s') → wpAny c.M A (pyNext it) Q E s
  stop : ∀ P s (Q : Option Value → Shared → Prop) E, St c (I n ++ P) s → (∀ s', St c (Fin ++ P) s' → Q none s') → wpAny c.M A (pyNext it) Q E s

theorem for_rule {c : Cx} {A : Around} {it : Value} {n : Nat} {I : Nat → List HP} {V : Nat → Value → Prop} {O Ex : Nat → Value → List HP} {Fin : List HP} {target : Expr} {body : List Stmt} {env : Env} {P0 : List HP} {s : Shared} {R : Result → Shared → Prop}
    (X : Iter c A it n I V O Fin) (J : Nat → List HP → Prop) (S : St c (I 0 ++ P0) s) (j0 : J 0 P0)
    (own : ∀ i v P s, V i v → St c (O i v ++ P) s → ∀ (Q : Unit → Shared → Prop), (∀ s', St c (I (i + 1) ++ (Ex i v ++ P)) s' → Q () s') → wpAny c.M A (letOwnedTupleGo target it v) Q NoE s)
    (turn : ∀ i, i < n → ∀ P s v, J i P → V i v → St c (I (i + 1) ++ (Ex i v ++ P)) s → wpAny c.M A (assign target env v) (fun _ s₂ => wpAny c.M A (execs body env) (fun f s₃ => match f with
        | .next | .cont => ∃ P', J (i + 1) P' ∧ St c (I (i + 1) ++ P') s₃
        | .brk => R (.ok .next) s₃
        | .ret v => R (.ok (.ret v)) s₃) NoE s₂) NoE s)
    (fin : ∀ P s, J n P → St c (Fin ++ P) s → R (.ok .next) s) : codeAny c.M A (.forLoop target it body [] env) R s := by
  have no : ∀ {α : Type} {t : Sem α} {Q : α → Shared → Prop} {E : Value → Shared → Prop} {s : Shared}, wpAny c.M A t Q NoE s → wpAny c.M A t Q E s := fun h => wpAny_mono h (fun _ _ x => x) fun _ _ x => x.elim
  refine codeAny_forLoop_any (fun m s' => ∃ i P, i ≤ n ∧ m = n - i ∧ J i P ∧ St c (I i ++ P) s') ?_ n ⟨0, P0, Nat.zero_le _, rfl, j0, S⟩
  rintro m s' ⟨i, P, hi, rfl, hJ, hS⟩
  by_cases hn : i < n
  · refine X.next i hn P s' _ _ hS fun s₁ v hV h₁ => ?_
    refine no (own i v P s₁ hV h₁ _ fun s₂ h₂ => no (wpAny_mono (turn i hn P s₂ v hJ hV h₂) (fun _ s₃ h₃ => no (wpAny_mono h₃ (fun f s₄ h₄ => ?_) fun _ _ x => x)) fun _ _ x => x))
    cases f with
    | next => obtain ⟨P', a, b⟩ := h₄; exact ⟨n - (i + 1), by omega, i + 1, P', by omega, rfl, a, b⟩
    | cont => obtain ⟨P', a, b⟩ := h₄; exact ⟨n - (i + 1), by omega, i + 1, P', by omega, rfl, a, b⟩
    | brk => exact h₄
    | ret v => exact h₄
  · have : i = n := by omega
    subst this
    exact X.stop P s' _ _ hS fun s₁ h₁ => wpAny_execs_nil (fin P s₁ hJ h₁)

theorem own_name {c : Cx} {A : Around} {x : Str} {p : Pos} {it v : Value} {Q : Unit → Shared → Prop} {E : Value → Shared → Prop} {s : Shared} (h : Q () s) : wpAny c.M A (letOwnedTupleGo (.Name x p) it v) Q E s := by
  unfold letOwnedTupleGo
  exact wpAny_pure h

/-! keys of a dict -/
def dAt (c : Cx) {K : Type} [DecidableEq K] (knd : KeyKind Pg c.w K) (a : Addr) (kvs : List (K × Value)) (ep : Nat) : HP :=
  fun d => ∃ o es, d a = some o ∧ o.ExactDict ∧ o.data = .dict es ep ∧ KeysOf knd es ∧ Pairs knd es.toList kvs ∧ (kvs.map (·.1)).Nodup
section
variable {c : Cx} {K : Type} [DecidableEq K] {knd : KeyKind Pg c.w K} {a : Addr} {kvs kvs' : List (K × Value)} {ep : Nat}
instance : Up (dAt c knd a kvs ep) := ⟨fun _ _ s ⟨o, es, h, r⟩ => ⟨o, es, s _ _ h, r⟩⟩
theorem dAt_owns : Owns a (dAt c knd a kvs ep) := fun _ ⟨o, _, h, _⟩ => ⟨o, h⟩
theorem dAt_dR {d : PH} (x : dAt c knd a kvs ep d) : dR c knd a kvs d := let ⟨o, es, r⟩ := x; ⟨o, es, ep, r⟩
theorem dR_dAt {d : PH} (x : dR c knd a kvs d) : ∃ ep, dAt c knd a kvs ep d := let ⟨o, es, ep, r⟩ := x; ⟨ep, o, es, r⟩
theorem St.fixEp {P R : List HP} {s : Shared} (S : St c P s) (t : Take (dR c knd a kvs) P R) : ∃ ep, St c (dAt c knd a kvs ep :: R) s := by
  obtain ⟨d, h1, h2, h3, d1, d2, g1, g2, g3, g4, g5⟩ := (S.take t).own
  obtain ⟨ep, q⟩ := dR_dAt g4
  exact ⟨ep, S.keep, ⟨d, h1, h2, h3, d1, d2, g1, g2, g3, q, g5⟩, S.os, S.gens⟩
theorem St.anyEp {P R : List HP} {s : Shared} (S : St c P s) (t : Take (dAt c knd a kvs ep) P R) : St c (dR c knd a kvs :: R) s := (S.take t).head_mono fun _ => dAt_dR
end
def kIt (it d : Addr) (i n ep : Nat) : HP := fun D => ∃ o, D it = some o ∧ o.cls = .type "dict_keyiterator" ∧ o.data = .fields #[.ref d, .int i 0, .int n 0, .int ep 0]
theorem kIt_owns {it d i n ep} : Owns it (kIt it d i n ep) := fun _ ⟨o, h, _⟩ => ⟨o, h⟩
instance {it d i n ep} : Up (kIt it d i n ep) := ⟨fun _ _ s ⟨o, h, r⟩ => ⟨o, s _ _ h, r⟩⟩

theorem Sat.extBut {it : Addr} {X : HP} {R : List HP} {c : Cx} {s s' : Shared} (S : St c (X :: R) s) (hX : Owns it X) (he : Heap.ExtBut it s.heap s'.heap) (ho : s'.os = s.os := by rfl) (hg : s'.gens = s.gens := by rfl) : St c R s' := by
  obtain ⟨d, h1, h2, h3, d1, d2, g1, g2, g3, g4, g5⟩ := S.own
  obtain ⟨o, q⟩ := hX d1 g4
  have hn : d2 it = none := by
    rcases g1 it with y | y
    · rw [q] at y; cases y
    · exact y
  have hh : c.st it = none := by
    rcases h3 it with y | y
    · exact y
    · rw [g2 _ _ q] at y; cases y
  refine ⟨fun b o e => he b o (fun z => by rw [z, hh] at e; cases e) (S.keep b o e), ⟨d2, fun b o e => he b o (fun z => by rw [z, hn] at e; cases e) (h1 b o (g3 b o e)), fun b o e => h2 b o (g3 b o e), h3.sub (Sub.refl _) g3, g5⟩, ho.trans S.os, hg ▸ S.gens⟩

section
variable {c : Cx} {A : Around} {E : Value → Shared → Prop} {P R : List HP} {s : Shared} {K : Type} [DecidableEq K] {knd : KeyKind Pg c.w K} {d : Addr} {kvs : List (K × Value)} {ep : Nat}
theorem iter_keys {Q : Value → Shared → Prop} (S : St c P s) (t : Take (dR c knd d kvs) P R)
    (h : ∀ s' it ep, St c ([kIt it d 0 kvs.length ep, dAt c knd d kvs ep] ++ R) s' → Q (.ref it) s') : wpAny c.M A (pyIter (.ref d)) Q E s := by
  have hs := S.notSys t dR_owns
  obtain ⟨ep, S'⟩ := S.fixEp t
  exact wpAny_pyIter_dict hs (S'.get0 : dAt c knd d kvs ep s.heap.get?) (h _ _ ep (S'.alloc rfl ⟨_, one_self, rfl, rfl⟩))
theorem keys_iter {it : Addr} (hh : A.handled = none) : Iter c A (.ref it) kvs.length (fun i => [kIt it d i kvs.length ep, dAt c knd d kvs ep]) (fun i v => ∃ k w, kvs[i]? = some (k, w) ∧ knd.is k v = true)
    (fun i _ => [kIt it d (i + 1) kvs.length ep, dAt c knd d kvs ep]) [dR c knd d kvs] := by
  refine ⟨fun i hi P s Q E S h => ?_, fun P s Q E S h => ?_⟩
  · have hx : kvs[i]? = some (kvs[i].1, kvs[i].2) := List.getElem?_eq_getElem hi
    refine wpAny_pyNext_dict_item (knd := knd) (S.get0 : kIt it d i kvs.length ep s.heap.get?) (S.get (.tail .head) : dAt c knd d kvs ep s.heap.get?) hx fun key h' hk h1 h2 => h _ _ ⟨_, _, hx, hk⟩ (S.upd kIt_owns (fun b hb => h2.2 b hb) ?_)
    obtain ⟨o, q1, q2⟩ := h1
    exact ⟨o, one_self.trans q1, q2⟩
  · refine wpAny_pyNext_dict_end (knd := knd) hh (S.get0 : kIt it d kvs.length kvs.length ep s.heap.get?) (S.get (.tail .head) : dAt c knd d kvs ep s.heap.get?) (by simp) fun h' he => h _ ?_
    exact (Sat.extBut S kIt_owns he).head_mono fun _ => dAt_dR
end
end Mine

namespace Mine

section
variable {c : Cx} {A : Around} {E : Value → Shared → Prop} {P R R2 : List HP} {s : Shared}
theorem nsSet_dS {dx : Addr} {kvs : List (Str × Value)} {name : Str} {v : Value} {Q : Unit → Shared → Prop} (S : St c P s) (t2 : Take (dS c dx kvs) P R2) (hz : kvs.length ≤ 1000)
    (hq : ∀ s', St c (dS c dx (stored kvs name v) :: R2) s' → Q () s') : wpAny c.M A (nsSet dx name v) Q E s := by
  have S2 := S.take t2
  obtain ⟨o, es, ep, h1, ⟨g1, g2, g3⟩, h3, h4, h5, h6⟩ := S2.get0
  obtain ⟨oc, od', oda, osl⟩ := o
  dsimp only at g1 g2 g3 h3
  subst g1 g2 g3 h3
  obtain ⟨es⟩ := es
  unfold nsSet
  refine wpAny_bind (wpAny_bind (wpAny_askSetting (wpAny_pure (wpAny_bind (wpAny_mkText (wpAny_bind (wpAny_loadPart (o := dictOf es ep) h1 ?_)))))))
  have cc : (!(es.toArray).any (·.key.isStr name) && (es.toArray).any (·.refKey)) = false := by
    have : es.any (·.refKey) = false := by
      rw [List.any_eq_false]
      intro en hen
      obtain ⟨k, hk, _⟩ := h4 en (by simpa using hen)
      obtain ⟨t, ht⟩ := Value.isStrOf_shape hk
      simp [DictEntry.refKey, ht]
    simp [this]
  dsimp only
  rw [aRefKeyMayBeTheName_at, cc]
  refine wpAny_updatePart (o := dictOf es ep) h1 ?_
  have U : (s.heap.update dx (Obj.putName name (hashStr c.w name) (.str name s.toks) v)).get? dx = some (dictOf (putL name (hashStr c.w name) (.str name s.toks) v es) (putN name es ep)) := by
    have := Heap.get?_update_self (Obj.putName name (hashStr c.w name) (.str name s.toks) v) h1 (by rw [putName_dict]; rfl)
    rw [this, putName_dict]
  have hp5 := putL_pairs (name := name) (h := hashStr c.w name) (t := s.toks) (v := v) h5 h6
  refine hq _ (S2.upd dR_owns (fun b hb => Heap.get?_update_ne _ _ _ _ hb) ⟨_, _, _, one_self.trans U, ⟨rfl, rfl, rfl⟩, rfl, fun e he => ?_, hp5, stored_nodup h6⟩)
  exact putL_keys (fun e he => h4 e (by simpa using he)) e (by simpa using he)
theorem alloc_dS {Q : Addr → Shared → Prop} (S : St c P s) (hq : ∀ s' d, St c (dS c d [] :: P) s' → Q d s') : wpAny c.M A (alloc { cls := .type "dict", data := .dict #[] }) Q E s :=
  wpAny_alloc (hq _ _ (S.alloc rfl ⟨_, _, _, one_self, ⟨rfl, rfl, rfl⟩, rfl, fun e he => by simp at he, .nil, .nil⟩))
end

section
variable {c : Cx} {A : Around} {s : Shared} {P : List HP} {k : Nat} {f : Addr} {name qual kwn : Str} {params : Arguments} {body : List Stmt} {scope : Scope} {cl : List (Str × Addr)} {dV kV doc pm cdv ct oc : Value} {an od : Option Addr} {osl : Array (Option Value)}
  {args : Args} {pre : List (Str × Value)} {kw : List (Str × Value)} {oth : List (Str × Option Value)} {Rr : Result → Shared → Prop}
theorem call_kw (S : St c P s) (rm : Rm A (k + 1)) (ho : (hd.heap_39 c.w.params).lookup f = some ⟨oc, od, .func (fnX name qual params body scope cl dV kV doc pm an cdv ct), osl⟩) (hcd : codeIn (hd.heap_39 c.w.params) cdv qual = true)
    (hb : ∀ (A' : Around) (E' : Value → Shared → Prop) (Q : List (Str × Value) → Shared → Prop), (∀ s' d, St c (dS c d kw :: P) s' → Q (pre ++ [(kwn, .ref d)]) s') → wpAny c.M A' (bindArgs (fnX name qual params body scope cl dV kV doc pm an cdv ct) args) Q E' s)
    (hloc : ((pre.map (·.1) ++ [kwn]).all fun y => decide (scope.names.lookup y = some .local)) = true)
    (hoth : Oth (pre.map (·.1) ++ [kwn]) scope.names oth) (hnd : nodupB (pre.map (·.1) ++ [kwn] ++ oth.map (·.1)) = true)
    (h : ∀ B L d s₁, Rm B k → B.handled = A.handled → St c (frm L (boundF pre ++ (kwn, some (.ref d)) :: oth) :: dS c d kw :: P) s₁ → (let env := envX qual scope L f cdv cl; _root_.PySem.wpAt c.M B (.func body env) (execs body env)
        (fun fl s' => Rr (.ok (.ret (match fl with | .ret v => v | _ => .none))) s') (fun _ _ => False) s₁))
    (hco : scope.isCoroutine = false := by rfl) (hgen : scope.isGenerator = false := by rfl) (hk : scope.kind = .function := by rfl) (hcell : ∀ x ∈ scope.names, x.2 ≠ .cell := by decide) :
    codeAny c.M A (.call (.ref f) args) Rr s := by
  refine codeAny_call_function (fd := fnX name qual params body scope cl dV kV doc pm an cdv ct) (body := body) rm.depth (S.K _ _ ho) rfl hco hgen rfl (codeRec_of S.K hcd) (hb _ _ _ fun s' d S' => ?_)
  have hb2 : (pre ++ [(kwn, Value.ref d)]).map (·.1) = pre.map (·.1) ++ [kwn] := by simp
  have hbf : boundF (pre ++ [(kwn, Value.ref d)]) = boundF pre ++ [(kwn, some (Value.ref d))] := by simp [boundF]
  have hb3 : (boundF (pre ++ [(kwn, Value.ref d)])).map (·.1) = pre.map (·.1) ++ [kwn] := by simp only [boundF, List.map_map]; exact hb2
  refine wpAny_newFunctionEnv hcell (fun x hx => ?_) (fun h₀ hns hsb => ⟨S'.T.nolimit.fresh _ hsb, ks_codeAny_funcAt ?_⟩) hk
  · exact of_decide_eq_true (List.all_eq_true.mp hloc x.1 (hb2 ▸ List.mem_map.mpr ⟨x, hx, rfl⟩))
  have hk₁ : ∀ b o, s'.heap.get? b = some o → h₀.get? b = some o := fun b o e => hsb.extBut b o (Nat.ne_of_lt (Heap.lt_size e)) (Heap.get?_push_of_some _ e)
  refine ks_wpAt_mono (h _ s'.heap.objs.size d _ rm.deeper rfl (S'.new (a := s'.heap.objs.size) hk₁ (Nat.le_refl _) ⟨?_, ?_⟩)) (fun _ _ x => x) fun _ _ x => x.elim
  · have := nodupB_iff hnd
    simpa [boundF, List.map_map, Function.comp_def, List.append_assoc] using this
  · obtain ⟨o, es, ep, h1, h2, h3, h4⟩ := hns
    refine ⟨o, es, ep, by show one _ (h₀.get? _) _ = some o; simp [one, h1], h2, h3, fun x => ?_⟩
    have e2 : boundF pre ++ (kwn, some (Value.ref d)) :: oth = boundF (pre ++ [(kwn, Value.ref d)]) ++ oth := by rw [hbf]; simp
    rw [h4, e2, look_append, hb3]
    split
    · rw [look_bound _ (by rw [hb2]; exact (List.nodup_append.mp (nodupB_iff hnd)).1)]
    · rename_i hx
      rw [hoth.look, List.lookup_eq_none_iff]
      intro p hp
      rw [bne_iff_ne]
      rintro rfl
      exact hx (hb2 ▸ List.mem_map.mpr ⟨p, List.mem_reverse.mp hp, rfl⟩)
end

/-! super() -/
section
variable {c : Cx} {E : Value → Shared → Prop} {s : Shared} {A : Around} {P R R1 R2 : List HP} {L x C D dx f f2 cc cda so : Addr} {l : List (Str × Option Value)} {kvs : List (Str × Value)}
def supR (so D x C : Addr) : HP := pt so (ks_superObj D x C)
def metR (q f x : Addr) : HP := pt q (methodObj (.ref f) (.ref x))
theorem super_node {body : List Stmt} {q : Str} {scope : Scope} {p0 p1 : Pos} {attr : Str} {whole : Sem Value} {fd : FuncData} {ar : Arg} {vs : Array Value} {file : Str} {tf : Tok} {oc ccl cl : Value} {od cdd cld : Option Addr} {osl ccs csl : Array (Option Value)} {cdD : ClassData} {Q : Value → Shared → Prop}
    (S : St c P s) (t : Take (frm L l) P R) (t1 : Take (pt x (instObj C dx)) P R1) (t2 : Take (dS c dx kvs) P R2)
    (hf : c.F.lookup f = some ⟨oc, od, .func fd, osl⟩) (hp : (fd.params.posonlyargs ++ fd.params.args).head? = some ar) (hv : (ar.arg, some (Value.ref x)) ∈ l)
    (hcode : c.F.lookup cda = some ⟨ccl, cdd, .fields vs, ccs⟩) (hvs : vs[2]? = some (.str file tf)) (hfile : ((Pg.main.file : Str) == file) = true)
    (hcell : c.F.lookup cc = some ⟨cl, cld, .cell (some (.ref D)), csl⟩) (hD : clsIn c.F D = some cdD) (hsub : mroIn c.F C (.ref D) = some true) (hsuper : nsIn c.F mainGlobals "super" = some none)
    (hat : (attr == ("__class__" : Str)) = false) (hks : scope.names.lookup ("super" : Str) = some .globalImplicit) (hkc : scope.names.lookup ("__class__" : Str) = some .free) (hka : scope.names.lookup ar.arg = some .local) (hk : scope.kind = .function)
    (htop : (Pg.main.scope.names.lookup ("super" : Str)).isSome = false)
    (h : ∀ so s', St c (supR so D x C :: P) s' → Q (.ref so) s') :
    _root_.PySem.wpAt c.M A (.func body (ksEnv q scope L f (.ref cda) cc)) (attributeBase (.Call (.Name "super" p0) [] [] p1) attr (ksEnv q scope L f (.ref cda) cc) whole) Q E s := by
  have X := S.K
  obtain ⟨od', I, hl⟩ := inst_at S t1 t2
  have fr := S.get t
  have hT := S.T
  have hSS := S
  obtain ⟨hh, g, d, tk, os⟩ := s
  obtain ⟨oD, hD1, hD2⟩ : ∃ oD, hh.get? D = some oD ∧ oD.data = .cls cdD := by
    unfold clsIn at hD
    split at hD
    · rename_i c' d' cd' sl ho
      cases hD
      exact ⟨_, X _ _ ho, rfl⟩
    · cases hD
  refine ks_wpAt_super_base (env := ksEnv q scope L f (.ref cda) cc) hks hkc hat rfl (X _ _ hf) rfl hp rfl (X _ _ hcode) rfl hvs hfile htop ?_
  refine ks_loadName_global hk hks (loadGlobal_builtin (env := ksEnv q scope L f (.ref cda) cc) hT.g (mg_none_of X hT.g hsuper) hT.b ((hT.builtins _ (by decide +kernel)).trans (by decide +kernel : bootBuiltins "super" = some (.type "super"))) ⟨rfl, ?_⟩)
  refine wpAny_loadName_free hk hkc rfl ⟨_, X _ _ hcell, rfl⟩ ?_
  refine wpAny_loadName_local hk hka (frm_ns fr) (look_mem fr.1 hv) ?_
  refine ks_wpAny_isType_cls hD1 hD2 ⟨rfl, ?_⟩
  refine ks_wpAny_call_super hD1 hD2 I.at_ I.cls (fun c e => by cases e) (looks_mroIn X hsub) (fun h' e k => ?_)
  exact h _ _ (hSS.new (a := hh.objs.size) k (Nat.le_refl _) (one_self.trans e))
theorem super_method {name : Str} {pl : Sem Bool} {Q : Value × List Value → Shared → Prop} (S : St c P s) (t : Take (supR so D x C) P R) (t1 : Take (pt x (instObj C dx)) P R1) (t2 : Take (dS c dx kvs) P R2) (ho : nsIn c.F cStatics "thirdparty.any" = some none)
    (hm : ks_superIn c.F C D name = some (some (.ref f2))) (ht : typeIn c.F (.ref f2) = some (.type "function")) (hn : (name == ("__class__" : Str)) = false)
    (h : ∀ q s', St c (metR q f2 x :: P) s' → Q (.ref q, []) s') : wpAny c.M A (getMethod (.ref so) name pl) Q E s := by
  have X := S.K
  obtain ⟨od', I, hl⟩ := inst_at S t1 t2
  have hso : s.heap.get? so = some (ks_superObj D x C) := S.get (X := pt so (ks_superObj D x C)) t
  have hSS := S
  obtain ⟨hh, g, d, tk, os⟩ := s
  cases hc : clsIn c.F C with
  | none => unfold ks_superIn at hm; rw [hc] at hm; cases hm
  | some cd =>
    unfold ks_superIn at hm
    rw [hc] at hm
    obtain ⟨of, hof, hofc⟩ : ∃ of, hh.get? f2 = some of ∧ of.cls = .type "function" := by
      have ht' : (c.F.lookup f2).map (·.cls) = some (.type "function") := ht
      cases z : c.F.lookup f2 with
      | none => rw [z] at ht'; cases ht'
      | some of => rw [z] at ht'; exact ⟨of, X _ _ z, Option.some.inj ht'⟩
    refine ks_wpAny_getMethod_super hso (looks_opaque X ho) (l₀ := cd.mro) ?_ rfl X hm hof hofc (ks_ne X I hc) hn ?_
    · exact fun A Q E s k q => wpAny_bind ((looks_clsIn X hc) A _ E s k (wpAny_pure q))
    · exact h _ _ (St.tok (t := tk + 1) (hSS.alloc (o := methodObj (.ref f2) (.ref x)) (X := metR hh.objs.size f2 x) rfl one_self))
end

/-! f(args, **d), d empty -/
section
variable {c : Cx} {A : Around} {E : Value → Shared → Prop} {P R : List HP} {s : Shared} {env : Env}
theorem merge_nil {d a : Addr} {R1 R2 : List HP} {Q : Unit → Shared → Prop} {u : Bool} (S : St c P s) (t1 : Take (dS c d []) P R1) (t2 : Take (dS c a []) P R2) (hq : Q () s) : wpAny c.M A (mergeMapping d (.ref a) u) Q E s := by
  obtain ⟨oa, esa, epa, ha1, ha2, ha3, ha4, ha5, ha6⟩ := S.get t2
  obtain ⟨od, esd, epd, hd1, hd2, hd3, hd4, hd5, hd6⟩ := S.get t1
  have hT : s.TypeIs (.ref a) "dict" := ⟨oa, ha1, ha2.1⟩
  have hsys := S.notSys t2 dR_owns
  have ea : esa.size = 0 := by have := ha5.length; simpa using this
  have ea' : esa = #[] := Array.eq_empty_of_size_eq_zero ea
  subst ea'
  have edz : esd = #[] := Array.eq_empty_of_size_eq_zero (by have := hd5.length; simpa using this)
  subst edz
  unfold mergeMapping
  refine wpAny_bind (wpAny_isInstance hT isSubtype_dict_dict ?_)
  rw [if_pos rfl]
  refine wpAny_bind (wpAny_specialOf hT F.slot_dict_iter.lookup (wpAny_bind (wpAny_pure ?_)))
  simp only [beq_self_eq_true]
  rw [if_neg (by rw [hsys]; decide)]
  refine wpAny_bind (wpAny_dictEntries hd1 hd3 ?_)
  rw [if_pos (by rfl)]
  refine wpAny_bind (wpAny_dictEntries ha1 ha3 ?_)
  refine wpAny_bind ?_
  rw [← Array.forIn_toList]
  refine wpAny_pure ?_
  refine wpAny_bind (wpAny_dictEntries ha1 ha3 ?_)
  refine wpAny_bind (wpAny_dictEpoch ha1 ha3 ?_)
  show wpAny c.M A (forIn (List.range 0) _ _ >>= _) _ _ _
  simp only [List.range_zero, List.forIn_nil]
  exact wpAny_bind (wpAny_pure (wpAny_pure hq))
end

section
variable {c : Cx} {A : Around} {E : Value → Shared → Prop} {P R : List HP} {s : Shared} {env : Env}
theorem keywordsIn_nil {f : Value} {d : Addr} {R1 : List HP} {Q : List (Str × Value) → Shared → Prop} (S : St c P s) (t1 : Take (dS c d []) P R1) (hq : Q [] s) : wpAny c.M A (keywordsIn f d) Q E s := by
  obtain ⟨od, esd, epd, hd1, hd2, hd3, hd4, hd5, hd6⟩ := S.get t1
  have edz : esd = #[] := Array.eq_empty_of_size_eq_zero (by have := hd5.length; simpa using this)
  subst edz
  unfold keywordsIn
  refine wpAny_bind (wpAny_dictEntries hd1 hd3 ?_)
  refine wpAny_bind ?_
  rw [← Array.forIn_toList]
  exact wpAny_pure (wpAny_pure hq)
theorem merged_nil {f : Value} {x : Sem Value} {Q : Addr → Shared → Prop} (S : St c P s)
    (h : ∀ s' d, St c (dS c d [] :: P) s' → wpAny c.M A x (fun m s₂ => ∃ a P2 R1 R2, m = .ref a ∧ St c P2 s₂ ∧ Take (dS c d []) P2 R1 ∧ Take (dS c a []) P2 R2 ∧ Q d s₂) E s') :
    wpAny c.M A (mergedKeywords f [(none, x)]) Q E s := by
  unfold mergedKeywords
  refine wpAny_bind (alloc_dS S fun s' d S' => ?_)
  refine wpAny_bind (wpAny_holding ?_)
  refine wpAny_bind ?_
  rw [List.forIn_cons]
  refine wpAny_bind ?_
  refine wpAny_bind (m := pure ()) (wpAny_pure ?_)
  refine wpAny_bind (wpAny_mono (h s' d S') (fun m s₂ hm => ?_) fun _ _ e => e)
  obtain ⟨a, P2, R1, R2, rfl, S2, t1, t2, hq⟩ := hm
  refine wpAny_bind (wpAny_onRaise (wpAny_holding (wpAny_tryCatch (wpAny_onRaise (merge_nil S2 t1 t2 ?_)))))
  refine wpAny_pure ?_
  refine wpAny_pure (a := []) ?_
  exact wpAny_bind (m := pure ()) (wpAny_pure (wpAny_pure (wpAny_pure hq)))
theorem callWith_dd {pos : Pos} {f : Value} {first : List Value} {e : Expr} {rest : List Expr} {x : Sem Value} {Q : Value → Shared → Prop}
    (h : wpAny c.M A (spliced (backTo pos (starEach (e :: rest) env))) (fun vs s₁ => ∃ P1, St c P1 s₁ ∧ ∀ s' d, St c (dS c d [] :: P1) s' → wpAny c.M A x (fun m s₂ => ∃ a P2 R1 R2, m = .ref a ∧ St c P2 s₂ ∧ Take (dS c d []) P2 R1 ∧ Take (dS c a []) P2 R2 ∧
      ((∃ g, f = .ref g ∧ fnIn c.F g = true) ∨ (∃ q g y R3, f = .ref q ∧ fnIn c.F g = true ∧ Take (metR q g y) P2 R3)) ∧ wpAny c.M A (call f (first ++ vs) []) Q E s₂) E s') E s)
    (he : starEach (e :: rest) env = (false, eval e env) :: starEach rest env := by rfl) (hp : (backTo pos (starEach rest env)).any (·.1) = false := by rfl) :
    wpAny c.M A (callWith pos f first (backTo pos (starEach (e :: rest) env)) [(none, x)]) Q E s := by
  rw [he] at h ⊢
  unfold callWith evalArgs
  refine wpAny_bind (wpAny_holding ?_)
  show wpAny c.M A (spliced ((false, eval e env) :: backTo pos (starEach rest env)) >>= _) _ _ _
  refine wpAny_bind (wpAny_mono h (fun vs s₁ h₁ => ?_) fun _ _ e => e)
  obtain ⟨P1, S1, h₁⟩ := h₁
  refine wpAny_bind (wpAny_pure ?_)
  refine wpAny_holding ?_
  rw [if_neg (by simp)]
  refine wpAny_bind (merged_nil S1 fun s' d S' => wpAny_mono (h₁ s' d S') (fun m s₂ hm => ?_) fun _ _ e => e)
  obtain ⟨a, P2, R1, R2, rfl, S2, t1, t2, hf, hq⟩ := hm
  refine ⟨a, P2, R1, R2, rfl, S2, t1, t2, ?_⟩
  refine wpAny_bind (m := pure vs) (wpAny_pure ?_)
  refine wpAny_bind (wpAny_holding (keywordsIn_nil S2 t1 ?_))
  refine wpAny_pure ?_
  refine wpAny_bind (wpAny_standAt ?_)
  have hst : ((backTo pos ((false, eval e env) :: starEach rest env)).any (fun x => x.1) || [((none : Option Str), x)].any (fun x => x.1.isNone)) = true := by simp
  simp only [hst]
  have tail : ∀ {t : Sem Value}, wpAny c.M A t Q E s₂ → wpAny c.M A (t >>= fun r => holding [r] point >>= fun _ => pure r) Q E s₂ :=
    fun ht => wpAny_bind (wpAny_mono ht (fun r s₃ hr => wpAny_bind (wpAny_holding (wpAny_point (wpAny_pure hr)))) fun _ _ x => x)
  have X := S2.K
  have L : ∃ k, (k = Keeper.frame ∨ k = Keeper.machine ∨ k = Keeper.boundFrame) ∧ Looks c.M s₂.heap (keeperOf f) k := by
    rcases hf with ⟨g, rfl, hg⟩ | ⟨q, g, y, R3, rfl, hg, t3⟩
    · have hk : keepIn c.F (.ref g) = true := by
        unfold fnIn at hg
        unfold keepIn
        dsimp only
        split at hg
        · rename_i ho; rw [ho]
        · cases hg
      exact keeps_K (M := c.M) hk s₂.heap X
    · have hm := S2.get (X := pt q (methodObj (.ref g) (.ref y))) t3
      exact keeps_M (M := c.M) (self := .ref y) hg s₂.heap ⟨hm, X⟩
  obtain ⟨k, a1, a2⟩ := L
  refine wpAny_bind (a2.here ?_)
  rcases a1 with rfl | rfl | rfl
  · exact tail (Calls.wpAny_keep hq)
  · exact tail (wpAny_operateT hq)
  · exact tail (wpAny_operateT hq)
end

/-! a class is called -/
section
variable {c : Cx} {A : Around} {s : Shared} {P : List HP} {C fI : Addr} {rest : List Value} {kw : List (Str × Value)} {Rr : Result → Shared → Prop}
theorem Rm.cls {k : Nat} (r : Rm A (k + 3)) : Rm (A.under (.builtin "type.__call__" ⟨.ref C :: rest, kw⟩)) k := by
  have h1 : (Code.builtin "type.__call__" ⟨.ref C :: rest, kw⟩).weight ≤ 3 := by
    have : (Code.builtin "type.__call__" ⟨.ref C :: rest, kw⟩).weight = 1 := by kernel_rfl
    omega
  have h2 : (Code.builtin "type.__call__" ⟨.ref C :: rest, kw⟩).cUnits ≤ 3 := by
    have : (Code.builtin "type.__call__" ⟨.ref C :: rest, kw⟩).cUnits = 1 := by kernel_rfl
    omega
  exact ⟨by have := r.d; show A.depth + _ + k ≤ 900; omega, by have := r.u; show A.units + _ + 10 * k ≤ 9000; omega⟩
theorem call_cls {k : Nat} (S : St c P s) (rm : Rm A (k + 3)) (hm : makesIn c.F C = true) (hi : findIn c.F (.ref C) "__init__" = some (some (.ref fI))) (hf : typeIn c.F (.ref fI) = some (.type "function"))
    (h : ∀ B s' x dx, Rm B k → B.handled = A.handled → St c (pt x (instObj C dx) :: dS c dx [] :: P) s' → codeAny c.M B (.call (.ref fI) ⟨.ref x :: rest, kw⟩) (fun r s'' => match r with | .ok (.ret v) => v = .none ∧ Rr (.ok (.ret (.ref x))) s'' | _ => False) s') :
    codeAny c.M A (.call (.ref C) ⟨rest, kw⟩) Rr s := by
  have X := S.K
  have S1 := S.alloc (o := emptyDict) (X := dS c s.heap.objs.size []) rfl ⟨_, _, _, one_self, ⟨rfl, rfl, rfl⟩, rfl, fun e he => by simp at he, .nil, .nil⟩
  have S2 := S1.alloc (o := instObj C s.heap.objs.size) (X := pt (s.heap.objs.size + 1) (instObj C s.heap.objs.size)) rfl (by show one _ _ _ = _; rw [Heap.size_push]; exact one_self)
  obtain ⟨hh, g, d, t, os⟩ := s
  refine make_core (makes_of X hm) (looks_findIn X hi) (fun self => bind_fn X self hf) (.inl rfl) (codeAny_mono (h _ _ (hh.objs.size + 1) hh.objs.size rm.cls rfl S2) fun r s' z => ?_)
  rcases r with e | (_ | _ | _ | v) <;> first | exact z.elim | exact z
end

section
variable {c : Cx} {A : Around} {E : Value → Shared → Prop} {P R : List HP} {s : Shared} {env : Env} {pos : Pos} {Q : Value → Shared → Prop}
theorem dictI0 (S : St c P s) (h : ∀ s' a, St c (dI c a [] :: P) s' → Q (.ref a) s') : wpAny c.M A (eval (.Dict [] [] pos) env) Q E s := by
  rw [eval_Dict_empty]
  exact wpAny_bind (wpAny_standAt (d_new S _ h))
theorem dictS0 (S : St c P s) (h : ∀ s' a, St c (dS c a [] :: P) s' → Q (.ref a) s') : wpAny c.M A (eval (.Dict [] [] pos) env) Q E s := by
  rw [eval_Dict_empty]
  exact wpAny_bind (wpAny_standAt (d_new S _ h))
inductive PutK : List (Str × Value) → Str → Value → List (Str × Value) → Prop
  | nil {x v} : PutK [] x v [(x, v)]
  | here {x w v l} : PutK ((x, w) :: l) x v ((x, v) :: l)
  | there {y w x v l l'} : (y == x) = false → PutK l x v l' → PutK ((y, w) :: l) x v ((y, w) :: l')
theorem PutK.stored {l : List (Str × Value)} {x : Str} {v : Value} {l' : List (Str × Value)} (p : PutK l x v l') (hn : (l.map (·.1)).Nodup) : stored l x v = l' := by
  induction p with
  | nil => rfl
  | @here x w v l =>
    simp only [List.map_cons, List.nodup_cons] at hn
    simp only [PySem.stored, List.any_cons, decide_true, Bool.true_or, if_true, List.map_cons]
    rw [map_store_of_not_mem l x v hn.1]
  | @there y w x v l l' hy p ih =>
    simp only [List.map_cons, List.nodup_cons] at hn
    have hy' : ¬ y = x := by simpa using hy
    rw [← ih hn.2]
    simp only [PySem.stored, List.any_cons, hy', decide_false, Bool.false_or, List.map_cons, if_false]
    split <;> rfl
theorem PutK.len {l : List (Str × Value)} {x : Str} {v : Value} {l' : List (Str × Value)} (p : PutK l x v l') : l.length ≤ l'.length := by
  induction p with
  | nil => simp
  | here => simp
  | there _ _ ih => simp only [List.length_cons]; omega
/-- storing into the graph's own dict -/
def GSet (name : Str) : Prop := ∀ P : Params, findIn (hd.heap_39 P) (.ref 420) "__setattr__" = some (some (.builtin "object.__setattr__")) ∧ plainOver (hd.heap_39 P) 420 = true ∧ takerIn (hd.heap_39 P) 420 name = some none ∧ hasDictIn (hd.heap_39 P) 420 = true
theorem gset_adj : GSet "_adj" := fun P => ⟨by kernel_rfl, by kernel_rfl, by kernel_rfl, by kernel_rfl⟩
theorem gset_node : GSet "_node" := fun P => ⟨by kernel_rfl, by kernel_rfl, by kernel_rfl, by kernel_rfl⟩
theorem gset_pred : GSet "_pred" := fun P => ⟨by kernel_rfl, by kernel_rfl, by kernel_rfl, by kernel_rfl⟩
theorem gset_graph : GSet "graph" := fun P => ⟨by kernel_rfl, by kernel_rfl, by kernel_rfl, by kernel_rfl⟩
theorem setG {R1 R2 : List HP} {x dx : Addr} {kvs : List (Str × Value)} {name : Str} {v : Value} {Q : Unit → Shared → Prop} (S : St c P s) (hg : GSet name) (t1 : Take (pt x (instObj 420 dx)) P R1) (t2 : Take (dS c dx kvs) P R2) (hz : kvs.length ≤ 1000)
    (hq : ∀ s', St c (dS c dx (stored kvs name v) :: R2) s' → Q () s') : wpAny c.M A (setAttr (.ref x) name v) Q E s := setA S t1 t2 (hg _).1 (hg _).2.1 (hg _).2.2.1 (hg _).2.2.2 hz hq
theorem setG' {R1 R2 : List HP} {x dx : Addr} {kvs kvs' : List (Str × Value)} {name : Str} {v : Value} {Q : Unit → Shared → Prop} (S : St c P s) (hg : GSet name) (t1 : Take (pt x (instObj 420 dx)) P R1) (t2 : Take (dS c dx kvs) P R2) (p : PutK kvs name v kvs') (hz : kvs'.length ≤ 1000)
    (hq : ∀ s', St c (dS c dx kvs' :: R2) s' → Q () s') : wpAny c.M A (setAttr (.ref x) name v) Q E s :=
  setG S hg t1 t2 (Nat.le_trans p.len hz) fun s' S' => hq s' (p.stored (dR_nodup (S.get t2)) ▸ S')
theorem dS_set' {R2 : List HP} {dx : Addr} {kvs kvs' : List (Str × Value)} {name : Str} {tk : Tok} {v : Value} {Q : Unit → Shared → Prop} (S : St c P s) (t2 : Take (dS c dx kvs) P R2) (p : PutK kvs name v kvs') (hz : kvs'.length ≤ 1000)
    (hq : ∀ s', St c (dS c dx kvs' :: R2) s' → Q () s') : wpAny c.M A (setItem (.ref dx) (.str name tk) v) Q E s :=
  dS_set S t2 (Nat.le_trans (Nat.le_trans p.len hz) (by decide)) fun s' S' => hq s' (p.stored (dR_nodup (S.get t2)) ▸ S')
theorem stored_nil {K : Type} [DecidableEq K] (k : K) (v : Value) : stored [] k v = [(k, v)] := rfl
end

theorem bt_isinstance : bootBuiltins "isinstance" = some (.builtin "isinstance") := by decide +kernel
theorem bt_iter : bootBuiltins "iter" = some (.builtin "iter") := by decide +kernel
theorem bt_next : bootBuiltins "next" = some (.builtin "next") := by decide +kernel
theorem bt_len : bootBuiltins "len" = some (.builtin "len") := by decide +kernel
theorem bt_min : bootBuiltins "min" = some (.builtin "min") := by decide +kernel
theorem bt_max : bootBuiltins "max" = some (.builtin "max") := by decide +kernel
theorem bt_sum : bootBuiltins "sum" = some (.builtin "sum") := by decide +kernel
theorem bt_callable : bootBuiltins "callable" = some (.builtin "callable") := by decide +kernel
theorem bt_sorted : bootBuiltins "sorted" = some (.builtin "sorted") := by decide +kernel
theorem bt_abs : bootBuiltins "abs" = some (.builtin "abs") := by decide +kernel
theorem bt_getattr : bootBuiltins "getattr" = some (.builtin "getattr") := by decide +kernel
theorem bt_list : bootBuiltins "list" = some (.type "list") := by decide +kernel
theorem bt_range : bootBuiltins "range" = some (.type "range") := by decide +kernel
theorem bt_float : bootBuiltins "float" = some (.type "float") := by decide +kernel
theorem bt_int : bootBuiltins "int" = some (.type "int") := by decide +kernel
theorem bt_bool : bootBuiltins "bool" = some (.type "bool") := by decide +kernel
theorem bt_str : bootBuiltins "str" = some (.type "str") := by decide +kernel
theorem bt_dict : bootBuiltins "dict" = some (.type "dict") := by decide +kernel
theorem bt_tuple : bootBuiltins "tuple" = some (.type "tuple") := by decide +kernel
theorem bt_super : bootBuiltins "super" = some (.type "super") := by decide +kernel

theorem Sat.ne {a b : Addr} {X Y : HP} {R : List HP} {d : PH} (S : Sat (X :: Y :: R) d) (hx : Owns a X) (hy : Owns b Y) : a ≠ b := by
  obtain ⟨d1, d2, h1, h2, h3, h4, ⟨e1, e2, g1, g2, g3, g4, g5⟩⟩ := S
  obtain ⟨o, ho⟩ := hx d1 h4
  obtain ⟨o', ho'⟩ := hy e1 g4
  rintro rfl
  rcases h1 a with q | q
  · rw [ho] at q; cases q
  · rw [g2 _ _ ho'] at q; cases q

section
variable {c : Cx} {A : Around} {E : Value → Shared → Prop} {s : Shared} {P R R2 : List HP} {K : Type} {dec : DecidableEq K} {knd : KeyKind Pg c.w K} {a b : Addr} {kvs more : List (K × Value)} {k : K} {key v dflt : Value}
theorem St.ne {X Y : HP} (S : St c P s) (t : Takes [X, Y] P R) (hx : Owns a X) (hy : Owns b Y) : a ≠ b := (S.takes t).sat.ne hx hy
theorem isi_none {C : Addr} {Q : Value → Shared → Prop} (S : St c P s) (e : isNotIn c.F "NoneType" C = true) (h : ∀ s', St c P s' → Q (.bool false) s') : wpAny c.M A (call (.builtin "isinstance") [.none, .ref C]) Q E s :=
  isn_call (P := fun _ => True) S.K (fun M => Looks.of_pure rfl) e (by intro e; cases e) trivial none_cls (h _ S.tok)
theorem d_update {Q : Value → Shared → Prop} (S : St c P s) (t : Takes [dR c knd a kvs, dR c knd b more] P R) (hz : kvs.length + more.length ≤ 1000000)
    (hq : ∀ s', St c ([dR c knd a (merged kvs more), dR c knd b more] ++ R) s' → Q .none s') : wpAny c.M A (call (.builtin "dict.update") [.ref a, .ref b]) Q E s := by
  have S' := S.takes t
  have hne : a ≠ b := S'.sat.ne dR_owns dR_owns
  have h1 := dR_of S'.get0
  have h2 := dR_of (S'.get (X := dR c knd b more) (.tail .head))
  refine call_meetsIn PySem.F.slot_dict_update h1.typeIs PySem.F.entry_dict_update (PySem.F.args_dict_update_2 _ _) (meets_dict_update knd a b hne (S'.notSys (X := dR c knd b more) (.tail .head) dR_owns))
    ⟨kvs, more, h1, h2, by rw [sizeLine_eq]; omega, fun h' g1 g2 g3 => hq _ (S'.upd dR_owns (fun b hb => g3.2 b hb) (dR_one g1))⟩
theorem d_get2 {Q : Value → Shared → Prop} (S : St c P s) (hkey : knd.is k key = true) (t : Take (dR c knd a kvs) P R) (hq : ∀ s', St c P s' → Q ((valueAt kvs k).getD dflt) s') :
    wpAny c.M A (call (.builtin "dict.get") [.ref a, key, dflt]) Q E s :=
  have hm := (dR_of (S.get t)).mapOf
  call_meetsIn PySem.F.slot_dict_get hm.typeIs PySem.F.entry_dict_get (PySem.F.args_dict_get_3 _ _ _) (meets_dict_get_default knd a hkey (S.notSys t dR_owns) dflt) ⟨_, hm, hq _ S.tok⟩
theorem dI_get2 {kvs : List (Int × Value)} {k : Int} {tk : Tok} {Q : Value → Shared → Prop} (S : St c P s) (t : Take (dI c a kvs) P R) (hq : ∀ s', St c P s' → Q ((valueAt kvs k).getD dflt) s') : wpAny c.M A (call (.builtin "dict.get") [.ref a, .int k tk, dflt]) Q E s := d_get2 S (isI c k tk) t hq
theorem dS_get2 {kvs : List (Str × Value)} {k : Str} {tk : Tok} {Q : Value → Shared → Prop} (S : St c P s) (t : Take (dS c a kvs) P R) (hq : ∀ s', St c P s' → Q ((valueAt kvs k).getD dflt) s') : wpAny c.M A (call (.builtin "dict.get") [.ref a, .str k tk, dflt]) Q E s := d_get2 S (isS c k tk) t hq
theorem d_del (S : St c P s) (hkey : knd.is k key = true) (t : Take (dR c knd a kvs) P R) (hz : kvs.length ≤ 1000000) (hv : (valueAt kvs k).isSome = true) {Q : Value → Shared → Prop} (hq : ∀ s', St c (dR c knd a (without kvs k) :: R) s' → Q .none s') :
    wpAny c.M A (call (.builtin "dict.__delitem__") [.ref a, key]) Q E s := by
  have S' := S.take t
  have h1 := dR_of S'.get0
  exact call_meetsIn PySem.F.slot_dict_delitem h1.typeIs PySem.F.entry_dict_delitem (PySem.F.args_dict_delitem_2 _ _) (meets_dict_delitem_pairs knd a hkey) ⟨kvs, h1, by rw [sizeLine_eq]; omega, hv, fun h' g1 g2 => hq _ (St.tok (t := s.toks + 1) (S'.upd (s' := { s with heap := h' }) dR_owns (fun b hb => g2.2 b hb) (dR_one g1)))⟩
/-! methods of the builtin dict -/
theorem gm_get {pl : Sem Bool} {Q : Value × List Value → Shared → Prop} (S : St c P s) (t : Take (dR c knd a kvs) P R) (h : Q (.builtin "dict.get", [.ref a]) s) : wpAny c.M A (getMethod (.ref a) "get" pl) Q E s :=
  have hm := (dR_of (S.get t)).mapOf; getMethod_builtin hm.typeIs PySem.F.plainAttrs_dict PySem.F.slot_dict_get PySem.F.type_dict_get hm.noDict h
theorem gm_update {pl : Sem Bool} {Q : Value × List Value → Shared → Prop} (S : St c P s) (t : Take (dR c knd a kvs) P R) (h : Q (.builtin "dict.update", [.ref a]) s) : wpAny c.M A (getMethod (.ref a) "update" pl) Q E s :=
  have hm := (dR_of (S.get t)).mapOf; getMethod_builtin hm.typeIs PySem.F.plainAttrs_dict PySem.F.slot_dict_update PySem.F.type_dict_update hm.noDict h
theorem gm_items {pl : Sem Bool} {Q : Value × List Value → Shared → Prop} (S : St c P s) (t : Take (dR c knd a kvs) P R) (h : Q (.builtin "dict.items", [.ref a]) s) : wpAny c.M A (getMethod (.ref a) "items" pl) Q E s :=
  have hm := (dR_of (S.get t)).mapOf; getMethod_builtin hm.typeIs PySem.F.plainAttrs_dict PySem.F.slot_dict_items PySem.F.type_dict_items hm.noDict h
theorem gm_values {pl : Sem Bool} {Q : Value × List Value → Shared → Prop} (S : St c P s) (t : Take (dR c knd a kvs) P R) (h : Q (.builtin "dict.values", [.ref a]) s) : wpAny c.M A (getMethod (.ref a) "values" pl) Q E s :=
  have hm := (dR_of (S.get t)).mapOf; getMethod_builtin hm.typeIs PySem.F.plainAttrs_dict PySem.F.slot_dict_values PySem.F.type_dict_values hm.noDict h
theorem gm_append {vs : List Value} {pl : Sem Bool} {Q : Value × List Value → Shared → Prop} (S : St c P s) (t : Take (lst a vs) P R) (h : Q (.builtin "list.append", [.ref a]) s) : wpAny c.M A (getMethod (.ref a) "append" pl) Q E s := by
  obtain ⟨n, hl⟩ := lst_isL (S.get t)
  exact getMethod_builtin ⟨_, hl, rfl⟩ PySem.F.plainAttrs_list PySem.F.slot_list_append PySem.F.type_list_append (fun b e => by cases e; exact ⟨_, hl, rfl⟩) h
end

/-! the graph's methods and properties -/
def GMeth (C : Addr) (name : Str) (f : Addr) : Prop := ∀ P : Params, plainGet (hd.heap_39 P) C name = true ∧ findIn (hd.heap_39 P) (.ref C) name = some (some (.ref f)) ∧ isFn (hd.heap_39 P) (.ref f) = true ∧ keepIn (hd.heap_39 P) (.ref f) = true
theorem gme_add_node : GMeth 420 "add_node" 377 := fun P => ⟨by kernel_rfl, by kernel_rfl, by kernel_rfl, by kernel_rfl⟩
theorem gme_add_nodes_from : GMeth 420 "add_nodes_from" 231 := fun P => ⟨by kernel_rfl, by kernel_rfl, by kernel_rfl, by kernel_rfl⟩
theorem gme_add_edge : GMeth 420 "add_edge" 384 := fun P => ⟨by kernel_rfl, by kernel_rfl, by kernel_rfl, by kernel_rfl⟩
theorem gme_remove_edge : GMeth 420 "remove_edge" 391 := fun P => ⟨by kernel_rfl, by kernel_rfl, by kernel_rfl, by kernel_rfl⟩
theorem gme_has_edge : GMeth 420 "has_edge" 274 := fun P => ⟨by kernel_rfl, by kernel_rfl, by kernel_rfl, by kernel_rfl⟩
theorem gme_is_multigraph : GMeth 420 "is_multigraph" 309 := fun P => ⟨by kernel_rfl, by kernel_rfl, by kernel_rfl, by kernel_rfl⟩
theorem gme_is_directed : GMeth 420 "is_directed" 412 := fun P => ⟨by kernel_rfl, by kernel_rfl, by kernel_rfl, by kernel_rfl⟩
theorem gme_edge_rows : GMeth 420 "edge_rows" 417 := fun P => ⟨by kernel_rfl, by kernel_rfl, by kernel_rfl, by kernel_rfl⟩
def GProp (name : Str) (f : Addr) : Prop := ∀ P : Params, ∃ p rest, plainGet (hd.heap_39 P) 420 name = true ∧ hasDictIn (hd.heap_39 P) 420 = true ∧ findIn (hd.heap_39 P) (.ref 420) name = some (some (.ref p)) ∧
  specialIn (hd.heap_39 P) (.ref p) "__get__" = some (some (.builtin "property.__get__")) ∧ takesIn (hd.heap_39 P) (.ref p) = some true ∧ recIn (hd.heap_39 P) p "property" = some (.ref f :: rest)
def GSpec (name : Str) (f : Addr) : Prop := ∀ P : Params, findIn (hd.heap_39 P) (.ref 420) name = some (some (.ref f)) ∧ isFn (hd.heap_39 P) (.ref f) = true ∧ fnIn (hd.heap_39 P) f = true
theorem gs_contains : GSpec "__contains__" 203 := fun P => ⟨by kernel_rfl, by kernel_rfl, by kernel_rfl⟩
theorem gs_len : GSpec "__len__" 210 := fun P => ⟨by kernel_rfl, by kernel_rfl, by kernel_rfl⟩
theorem gs_getitem : GSpec "__getitem__" 217 := fun P => ⟨by kernel_rfl, by kernel_rfl, by kernel_rfl⟩
theorem gs_iter : GSpec "__iter__" 196 := fun P => ⟨by kernel_rfl, by kernel_rfl, by kernel_rfl⟩
theorem gp_nodes : GProp "nodes" 180 := fun P => ⟨181, _, by kernel_rfl, by kernel_rfl, by kernel_rfl, by kernel_rfl, by kernel_rfl, by exact rfl⟩
theorem gp_edges : GProp "edges" 188 := fun P => ⟨189, _, by kernel_rfl, by kernel_rfl, by kernel_rfl, by kernel_rfl, by kernel_rfl, by exact rfl⟩
theorem gp_succ : GProp "succ" 360 := fun P => ⟨361, _, by kernel_rfl, by kernel_rfl, by kernel_rfl, by kernel_rfl, by kernel_rfl, by exact rfl⟩
theorem gp_pred : GProp "pred" 368 := fun P => ⟨369, _, by kernel_rfl, by kernel_rfl, by kernel_rfl, by kernel_rfl, by kernel_rfl, by exact rfl⟩
section
variable {c : Cx} {A : Around} {E : Value → Shared → Prop} {s : Shared} {P R R1 R2 : List HP} {x dx f : Addr} {kvs : List (Str × Value)} {name : Str} {v : Value}
theorem getGP {expr : Bool} {Q : Value → Shared → Prop} (S : St c P s) (hg : GProp name f) (t1 : Take (pt x (instObj 420 dx)) P R1) (t2 : Take (dS c dx kvs) P R2)
    (h : ∀ s', St c P s' → codeAny c.M A.in1 (.call (.ref f) ⟨[.ref x], []⟩) (fun r s' => match r with | .ok (.ret v) => handedIn v = true ∧ Q v s' | _ => False) s') : wpAny c.M A (getAttr (.ref x) name expr) Q E s := by
  obtain ⟨p, rest, h1, h2, h3, h4, h5, h6⟩ := hg c.w.params
  exact getP S t1 t2 h1 h2 h3 h4 h5 h6 h
theorem getGM {C : Addr} {pl : Sem Bool} {Q : Value × List Value → Shared → Prop} (S : St c P s) (hg : GMeth C name f) (t1 : Take (pt x (instObj C dx)) P R1) (t2 : Take (dS c dx kvs) P R2) (hl : valueAt kvs name = none) (h : Q (.ref f, [.ref x]) s) :
    wpAny c.M A (getMethod (.ref x) name pl) Q E s := getM S t1 t2 (hg _).1 (hg _).2.1 (hg _).2.2.1 hl h
theorem unlessG {args : List Value} {refuse : Sem Value} {Q : Option Value → Shared → Prop} (S : St c P s) (hg : GSpec name f) (t1 : Take (pt x (instObj 420 dx)) P R1) (t2 : Take (dS c dx kvs) P R2)
    (h : codeAny c.M A (.call (.ref f) ⟨.ref x :: args, []⟩) (fun r s' => match r with | .ok (.ret v) => Q (some v) s' | _ => False) s) : wpAny c.M A (callSpecialUnlessNone? (.ref x) name args refuse) Q E s := by
  obtain ⟨od, I, hl⟩ := inst_at S t1 t2
  exact unlessNone_K S.K I (hg _).1 (hg _).2.1 (wpAny_call (codeAny_mono h fun r s' z => by rcases r with e | (_ | _ | _ | v) <;> first | exact z.elim | exact z))
theorem containsG {Q : Bool → Shared → Prop} (S : St c P s) (t1 : Take (pt x (instObj 420 dx)) P R1) (t2 : Take (dS c dx kvs) P R2)
    (h : codeAny c.M A (.call (.ref 203) ⟨[.ref x, v], []⟩) (fun r s' => match r with | .ok (.ret (.bool b)) => Q b s' | _ => False) s) : wpAny c.M A (contains (.ref x) v) Q E s := by
  obtain ⟨od, I, hl⟩ := inst_at S t1 t2
  unfold contains
  refine wpAny_holding (wpAny_bind (wpAny_bind (I.type.here ((looks_findIn S.K (gs_contains _).1).here ?_))))
  rw [if_neg (by simp)]
  refine wpAny_bind (unlessG S gs_contains t1 t2 (codeAny_mono h fun r s' z => ?_))
  rcases r with e | (_ | _ | _ | v) <;> first | exact z.elim | skip
  cases v <;> first | exact z.elim | exact wpAny_truthy_bool z
theorem inG {Q : Value → Shared → Prop} (S : St c P s) (t1 : Take (pt x (instObj 420 dx)) P R1) (t2 : Take (dS c dx kvs) P R2)
    (h : codeAny c.M A (.call (.ref 203) ⟨[.ref x, v], []⟩) (fun r s' => match r with | .ok (.ret (.bool b)) => Q (.bool b) s' | _ => False) s) : wpAny c.M A (compareOp .In v (.ref x)) Q E s :=
  wpAny_bind (containsG S t1 t2 (codeAny_mono h fun r s' z => by
    rcases r with e | (_ | _ | _ | v) <;> first | exact z.elim | skip
    cases v <;> first | exact z.elim | exact wpAny_pure z))
theorem notinG {Q : Value → Shared → Prop} (S : St c P s) (t1 : Take (pt x (instObj 420 dx)) P R1) (t2 : Take (dS c dx kvs) P R2)
    (h : codeAny c.M A (.call (.ref 203) ⟨[.ref x, v], []⟩) (fun r s' => match r with | .ok (.ret (.bool b)) => Q (.bool (!b)) s' | _ => False) s) : wpAny c.M A (compareOp .NotIn v (.ref x)) Q E s :=
  wpAny_bind (containsG S t1 t2 (codeAny_mono h fun r s' z => by
    rcases r with e | (_ | _ | _ | v) <;> first | exact z.elim | skip
    cases v <;> first | exact z.elim | exact wpAny_pure z))
theorem subG {value slice : Expr} {i : Value} {Q : Value → Shared → Prop} (S : St c P s) (t1 : Take (pt x (instObj 420 dx)) P R1) (t2 : Take (dS c dx kvs) P R2)
    (h : codeAny c.M A.in1 (.call (.ref 217) ⟨[.ref x, i], []⟩) (fun r s' => match r with | .ok (.ret v) => Q v s' | _ => False) s)
    (hsl : subscripted slice true (.ref x) i = runValue (.builtin "lifetime.subscript" ⟨[.ref x, i], []⟩) := by with_unfolding_all rfl) : wpAny c.M A (subscriptTail value slice (.ref x) i) Q E s := by
  obtain ⟨od, I, hl⟩ := inst_at S t1 t2
  have X := S.K
  have hf := (gs_getitem c.w.params).2.2
  unfold fnIn at hf
  split at hf
  · rename_i e
    unfold subscriptTail getitemInPython
    refine wpAny_bind (wpAny_bind (wpAny_bind (I.type.here ((looks_findIn X (gs_getitem c.w.params).1).here ?_))))
    dsimp only
    refine wpAny_bind (wpAny_load (X _ _ e) (wpAny_pure ?_))
    dsimp only
    rw [hsl]
    refine wpAny_bind (wpAny_runValue (codeAny_builtin entry_sub ?_))
    unfold Builtin.«lifetime.subscript»
    refine wpAny_bind (special_fn X I (gs_getitem c.w.params).1 (beq_iff_eq.mp (gs_getitem c.w.params).2.1) (wpAny_call (codeAny_mono h fun r s' z => ?_)))
    rcases r with e | (_ | _ | _ | v) <;> first | exact z.elim | skip
    refine wpAny_pure ?_
    show wpAny c.M A (letTemporaryGo value (.ref x) v >>= fun _ => pure v) Q E s'
    exact wpAny_bind (wpAny_letTemporaryGo (wpAny_pure z))
  · cases hf
theorem getItemG {i : Value} {Q : Value → Shared → Prop} (S : St c P s) (hq : noSeq c.F 420 = true) (t1 : Take (pt x (instObj 420 dx)) P R1) (t2 : Take (dS c dx kvs) P R2)
    (h : codeAny c.M A (.call (.ref 217) ⟨[.ref x, i], []⟩) (fun r s' => match r with | .ok (.ret v) => Q v s' | _ => False) s) : wpAny c.M A (getItem (.ref x) i) Q E s := by
  obtain ⟨od, I, hl⟩ := inst_at S t1 t2
  have X := S.K
  unfold getItem sequenceKey
  refine wpAny_holding (wpAny_bind (wpAny_bind (I.type.here ?_)))
  refine wpAny_bind ((anyM_none X hq).here ?_)
  rw [if_pos (show (!false) = true from rfl)]
  refine wpAny_pure (wpAny_bind (special_fn X I (gs_getitem c.w.params).1 (beq_iff_eq.mp (gs_getitem c.w.params).2.1) (wpAny_call (codeAny_mono h fun r s' z => ?_))))
  rcases r with e | (_ | _ | _ | v) <;> first | exact z.elim | exact wpAny_pure z
end
theorem gl_Graph (P : Params) : nsIn (hd.heap_39 P) mainGlobals "Graph" = some (some (.ref 324)) := by kernel_rfl
theorem gl_EdgeView (P : Params) : nsIn (hd.heap_39 P) mainGlobals "EdgeView" = some (some (.ref 146)) := by kernel_rfl
theorem gl_DiGraph (P : Params) : nsIn (hd.heap_39 P) mainGlobals "DiGraph" = some (some (.ref 420)) := by kernel_rfl
theorem gl_CurrentEdge (P : Params) : nsIn (hd.heap_39 P) mainGlobals "CurrentEdge" = some (some (.ref 469)) := by kernel_rfl
theorem gl_build_residual_network (P : Params) : nsIn (hd.heap_39 P) mainGlobals "build_residual_network" = some (some (.ref 479)) := by kernel_rfl
theorem gl__capacity_function (P : Params) : nsIn (hd.heap_39 P) mainGlobals "_capacity_function" = some (some (.ref 486)) := by kernel_rfl
theorem gl_shortest_augmenting_path_impl (P : Params) : nsIn (hd.heap_39 P) mainGlobals "shortest_augmenting_path_impl" = some (some (.ref 493)) := by kernel_rfl
theorem gl_shortest_augmenting_path (P : Params) : nsIn (hd.heap_39 P) mainGlobals "shortest_augmenting_path" = some (some (.ref 501)) := by kernel_rfl
theorem gl__law_cuts (P : Params) : nsIn (hd.heap_39 P) mainGlobals "_law_cuts" = some (some (.ref 506)) := by kernel_rfl
theorem gl__law_spread (P : Params) : nsIn (hd.heap_39 P) mainGlobals "_law_spread" = some (some (.ref 511)) := by kernel_rfl
theorem gl_deque (P : Params) : nsIn (hd.heap_39 P) mainGlobals "deque" = some (some (.type "collections.deque")) := by kernel_rfl
section
variable {M : Model} {A : Around} {E : Value → Shared → Prop} {s : Shared} {f a : Value} {vs : List Value} {kw : List (Str × Value)} {Q : Value → Shared → Prop}
theorem call_app0 (h : wpAny M A (call f vs kw) Q E s) : wpAny M A (call f ([] ++ vs) kw) Q E s := h
theorem call_app1 (h : wpAny M A (call f (a :: vs) kw) Q E s) : wpAny M A (call f ([a] ++ vs) kw) Q E s := h
end
theorem ite_T {c a b : Prop} [Decidable c] (hc : c) (h : a) : ite c a b := by rw [if_pos hc]; exact h
theorem ite_F {c a b : Prop} [Decidable c] (hc : ¬ c) (h : b) : ite c a b := by rw [if_neg hc]; exact h
inductive At {K : Type} [DecidableEq K] : List (K × Value) → K → Value → Prop
  | here {x v l} : At ((x, v) :: l) x v
  | there {y w x v l} : (y == x) = false → At l x v → At ((y, w) :: l) x v
theorem At.val {K : Type} [DecidableEq K] {l : List (K × Value)} {x : K} {v : Value} (p : At l x v) : valueAt l x = some v := by
  induction p with
  | here => simp [valueAt]
  | @there y w x v l hy p ih =>
    have hy' : ¬ y = x := by simpa using hy
    have hy2 : (decide (y = x)) = false := by simp [hy']
    have hy3 : ¬ x = y := fun e => hy' e.symm
    simp only [valueAt] at ih ⊢
    simpa [List.find?_cons, hy', hy3] using ih
theorem getG2 {c : Cx} {A : Around} {E : Value → Shared → Prop} {P R1 R2 : List HP} {s : Shared} {x dx : Addr} {kvs : List (Str × Value)} {name : Str} {v : Value} {expr : Bool} {Q : Value → Shared → Prop} (S : St c P s) (hg : GAttr name)
    (t1 : Take (pt x (instObj 420 dx)) P R1) (t2 : Take (dS c dx kvs) P R2) (hv : At kvs name v) (hd : handedIn v = true) (hq : ∀ s', St c P s' → Q v s') : wpAny c.M A (getAttr (.ref x) name expr) Q E s := getG S hg t1 t2 hv.val hd hq
inductive Drop : List HP → List HP → Prop
  | refl {R} : Drop R R
  | skip {X R R'} : Drop R R' → Drop (X :: R) R'
theorem Drop.sat {R R' : List HP} (x : Drop R R') : ∀ {d}, Sat R d → Sat R' d := by
  induction x with
  | refl => exact fun h => h
  | skip _ ih => exact fun h => ih h.drop
theorem Sat.append_mono {R R' : List HP} (k : ∀ d, Sat R d → Sat R' d) : ∀ {Xs : List HP} {d : PH}, Sat (Xs ++ R) d → Sat (Xs ++ R') d
  | [], _, h => k _ h
  | _ :: _, _, h => Sat.cons_mono (fun _ h => Sat.append_mono k h) h
theorem St.drops {c : Cx} {Xs P R R' : List HP} {s : Shared} (h : St c P s) (t : Takes Xs P R') (x : Drop R' R) : St c (Xs ++ R) s := (h.takes t).mono fun _ => Sat.append_mono fun _ => x.sat
section
variable {c : Cx} {A : Around} {E : Value → Shared → Prop} {s : Shared} {P R : List HP} {a b : Addr} {kvs : List (Str × Value)} {k : Str} {v : Value} {Q : Value → Shared → Prop}
theorem dS_update0 (S : St c P s) (t : Takes [dS c a kvs, dS c b []] P R) (hz : kvs.length ≤ 1000) (hq : ∀ s', St c (dS c a kvs :: dS c b [] :: R) s' → Q .none s') : wpAny c.M A (call (.builtin "dict.update") [.ref a, .ref b]) Q E s :=
  d_update S t (by simp; omega) hq
theorem dS_update1 (S : St c P s) (t : Takes [dS c a kvs, dS c b [(k, v)]] P R) (hz : kvs.length ≤ 1000) (hq : ∀ s', St c (dS c a (stored kvs k v) :: dS c b [(k, v)] :: R) s' → Q .none s') : wpAny c.M A (call (.builtin "dict.update") [.ref a, .ref b]) Q E s :=
  d_update S t (by simp; omega) hq
end
theorem wpAt_MethodCallDD {M : Model} {A : Around} {c : Code} {E : Value → Shared → Prop} {s : Shared} {env : Env} {o : Expr} {name : Str} {apos pos : Pos} {args : List Expr} {kws : List Keyword} {Q : Value → Shared → Prop}
    (h : _root_.PySem.wpAt M A c (attributeBase o name env (eval o env)) (fun ov s₁ => wpAny M A (getAttr ov name true) (fun f s₂ => wpAny M A (callWith pos f [] (backTo pos (starEach args env)) (backToKw pos (keywordEach kws env))) Q E s₂) E s₁) E s)
    (hf : methodCallForm (args.length + kws.length) (backTo pos (starEach args env)) (backToKw pos (keywordEach kws env)) = false := by rfl)
    (he : eval (.Call (.Attribute o name apos) args kws pos) env = (do
      let ov ← attributeBase o name env (eval o env)
      standAt apos.atName
      methodCall o name apos pos env ov (args.length + kws.length) (backTo pos (starEach args env)) (backToKw pos (keywordEach kws env))) := by rfl) :
    _root_.PySem.wpAt M A c (eval (.Call (.Attribute o name apos) args kws pos) env) Q E s := by
  rw [he]
  refine _root_.PySem.wpAt_bind (ks_wpAt_mono h (fun ov s₁ h₁ => wpAt_of_wpAny (wpAny_bind (wpAny_standAt ?_))) fun _ _ x => x)
  unfold methodCall calleeOf methodCallPos
  rw [hf]
  simp only [Bool.false_eq_true, if_false, Bool.not_false, Bool.true_or, if_true]
  refine wpAny_bind (wpAny_holding (wpAny_bind (wpAny_mono h₁ (fun f s₂ h₂ => wpAny_pure ?_) fun _ _ x => x)))
  exact wpAny_bind (wpAny_pure h₂)
section
variable {c : Cx} {E : Value → Shared → Prop} {s : Shared} {A : Around} {P R R1 R2 : List HP} {x C D dx f2 so : Addr} {kvs : List (Str × Value)}
theorem super_attr {name : Str} {expr : Bool} {Q : Value → Shared → Prop} (S : St c P s) (t : Take (supR so D x C) P R) (t1 : Take (pt x (instObj C dx)) P R1) (t2 : Take (dS c dx kvs) P R2) (ho : nsIn c.F cStatics "thirdparty.any" = some none)
    (hm : ks_superIn c.F C D name = some (some (.ref f2))) (ht : typeIn c.F (.ref f2) = some (.type "function")) (hn : (name == ("__class__" : Str)) = false)
    (h : ∀ q s', St c (metR q f2 x :: P) s' → Q (.ref q) s') : wpAny c.M A (getAttr (.ref so) name expr) Q E s := by
  have X := S.K
  obtain ⟨od', I, hl⟩ := inst_at S t1 t2
  have hso : s.heap.get? so = some (ks_superObj D x C) := S.get (X := pt so (ks_superObj D x C)) t
  have hSS := S
  obtain ⟨hh, g, d, tk, os⟩ := s
  cases hc : clsIn c.F C with
  | none => unfold ks_superIn at hm; rw [hc] at hm; cases hm
  | some cd =>
    unfold ks_superIn at hm
    rw [hc] at hm
    obtain ⟨of, hof, hofc⟩ : ∃ of, hh.get? f2 = some of ∧ of.cls = .type "function" := by
      have ht' : (c.F.lookup f2).map (·.cls) = some (.type "function") := ht
      cases z : c.F.lookup f2 with
      | none => rw [z] at ht'; cases ht'
      | some of => rw [z] at ht'; exact ⟨of, X _ _ z, Option.some.inj ht'⟩
    have hlk := PySem.F.ks_slot_super_ga.lookup
    have hT : ∀ t', (⟨hh, g, d, t', os⟩ : Shared).TypeIs (.ref so) "super" := fun _ => ⟨_, hso, rfl⟩
    unfold getAttr getAttrBy
    refine wpAny_bind (wpAny_mkText (wpAny_holding (wpAny_bind (wpAny_typeOf (hT _) (wpAny_bind (wpAny_of_eq hlk ?_))))))
    show wpAny _ _ (getAttrByItsOwn (.ref so) (.str name tk) (.type "super") (.builtin "super.__getattribute__") true expr) _ _ _
    unfold getAttrByItsOwn hookBefore callGetattribute boundAndCalled
    refine wpAny_bind (wpAny_of_eq (show (if onTheHeap (.type "super") then typeLookup (.type "super") "__getattr__" else pure none) = pure none from rfl) ?_)
    refine wpAny_bind (wpAny_attempt (wpAny_holding ?_))
    rw [show (expr && onTheHeap (.builtin "super.__getattribute__")) = false by cases expr <;> rfl]
    show wpAny _ _ (bindSpecial (.builtin "super.__getattribute__") (.ref so) >>= _) _ _ _
    refine wpAny_bind (wpAny_of_eq (PySem.F.ks_slot_super_ga.bind _) ?_)
    refine wpAny_mono (Q := fun v s' => v = .ref hh.objs.size ∧ s' = ⟨hh.push { cls := .type "method", data := .fields #[.ref f2, .ref x] }, g, d, tk + 1, os⟩) (E := fun _ _ => False)
      (wpAny_call_entry PySem.F.ks_slot_super_ga (hT _) PySem.F.ks_entry_super_ga (ks_wpAny_super_ga hso (looks_opaque X ho) (l₀ := cd.mro) ?_ rfl X hm hof hofc (ks_ne X I hc) hn ⟨_, rfl, rfl, rfl⟩) (PySem.F.ks_gaArgs_super _ _)) (fun v s' hv => ?_) fun _ _ z => z.elim
    · exact fun A Q E s k q => wpAny_bind ((looks_clsIn X hc) A _ E s k (wpAny_pure q))
    · obtain ⟨rfl, rfl⟩ := hv
      exact wpAny_pure (h _ _ (St.tok (t := tk + 1) (hSS.alloc (o := methodObj (.ref f2) (.ref x)) (X := metR hh.objs.size f2 x) rfl one_self)))
end
theorem call_met {c : Cx} {A : Around} {s : Shared} {P R : List HP} {q f x : Addr} {a : Args} {Rr : Result → Shared → Prop} (S : St c P s) (t : Take (metR q f x) P R) (h : codeAny c.M A (.call (.ref f) { a with pos := .ref x :: a.pos }) Rr s) :
    codeAny c.M A (.call (.ref q) a) Rr s := ks_codeAny_call_bound (S.get (X := pt q (methodObj (.ref f) (.ref x))) t) h
theorem dd_fin {c : Cx} {A : Around} {E : Value → Shared → Prop} {s : Shared} {P2 R1 R2 R3 : List HP} {d a q g y : Addr} {args : List Value} {Q : Value → Shared → Prop} (S : St c P2 s) (t1 : Take (dS c d []) P2 R1) (t2 : Take (dS c a []) P2 R2) (t3 : Take (metR q g y) P2 R3) (hg : fnIn c.F g = true)
    (h : codeAny c.M A (.call (.ref g) ⟨.ref y :: args, []⟩) (fun r s' => match r with | .ok (.ret v) => Q v s' | .ok _ => False | .error e => E e s') s) :
    ∃ a' P2 R1 R2, Value.ref a = .ref a' ∧ St c P2 s ∧ Take (dS c d []) P2 R1 ∧ Take (dS c a' []) P2 R2 ∧ ((∃ g, (Value.ref q) = .ref g ∧ fnIn c.F g = true) ∨ (∃ q' g y R3, Value.ref q = .ref q' ∧ fnIn c.F g = true ∧ Take (metR q' g y) P2 R3)) ∧ wpAny c.M A (call (.ref q) args []) Q E s :=
  ⟨_, _, _, _, rfl, S, t1, t2, .inr ⟨_, _, _, _, rfl, hg, t3⟩, wpAny_call (call_met S t3 h)⟩
inductive Cov : List HP → List HP → Prop
  | nil {P R} : Drop P R → Cov P R
  | cons {X P P1 P'} : Take X P P1 → Cov P1 P' → Cov P (X :: P')
theorem Cov.sat {P P' : List HP} (x : Cov P P') : ∀ {d}, Sat P d → Sat P' d := by
  induction x with
  | nil h => exact fun s => h.sat s
  | cons t _ ih => exact fun s => Sat.cons_mono (fun _ k => ih k) (t.sat s)
theorem St.cov {c : Cx} {P P' : List HP} {s : Shared} (h : St c P s) (t : Cov P P') : St c P' s := h.mono fun _ => t.sat
def idx (n : Nat) (f : Nat → Addr) : List (Int × Value) := (List.range n).map fun i => (((i : Nat) : Int), Value.ref (f i))
theorem idx_length {n f} : (idx n f).length = n := by simp [idx]

theorem entry_unchain : entryFor table "proto.unchain" = some Builtin.«proto.unchain» := entryFor_of_tree (by kernel_rfl)
theorem stop_raise {α : Type} {c : Cx} {A : Around} {E : Value → Shared → Prop} {s : Shared} {Q : α → Shared → Prop} (hk : Sub c.st s.heap.get?) (hA : A.handled = c.hx)
    (h : ∀ h' a, (∀ b o, s.heap.get? b = some o → h'.get? b = some o) → (∃ o, h'.get? a = some o ∧ o.cls = .type "StopIteration") → E (.ref a) { s with heap := h' }) :
    wpAny c.M A (newExc (.type "StopIteration") [] >>= fun e => (raiseNew e : Sem α)) Q E s := by
  refine wpAny_bind ?_
  simp only [newExc, newTuple]
  refine wpAny_bind (wpAny_newObj_type ?_ (by size_fits))
  refine wpAny_bind (m := firstArgMember _ _) (wpAny_of_eq (a := Value.none) (by first | rfl | (simp only [firstArgMember]; rfl)) ?_)
  refine wpAny_newObj_type ?_ (by size_fits)
  simp only [raiseNew]
  refine wpAny_bind (wpAny_handled ?_)
  rw [hA]
  have k2 : ∀ (o1 o2 : Obj) b o, s.heap.get? b = some o → ((s.heap.push o1).push o2).get? b = some o := fun o1 o2 b o e => Heap.get?_push_of_some _ (Heap.get?_push_of_some _ e)
  rcases c.hxp with q | ⟨a, o, its, q, hm, hd, h2⟩
  · rw [q]
    refine wpAny_bind (wpAny_pure (wpAny_throw ?_))
    exact h _ _ (k2 _ _) ⟨_, Heap.get?_push_size _ rfl, rfl⟩
  · rw [q]
    have ha : s.heap.get? a = some o := hk _ _ hm
    have hlt := Heap.lt_size ha
    have hne : ∀ o1 : Obj, (Value.ref a != Value.ref (s.heap.push o1).objs.size) = true := by
      intro o1
      rw [Heap.size_push]
      have : a ≠ s.heap.objs.size + 1 := fun e => by rw [e] at hlt; exact absurd hlt (Nat.not_lt.mpr (Nat.le_add_right _ _))
      simp [this]
    dsimp only
    rw [if_pos (hne _)]
    refine wpAny_bind (wpAny_holding (wpAny_runValue (codeAny_builtin entry_unchain ?_)))
    unfold Builtin.«proto.unchain»
    refine wpAny_bind (wpAny_field (k2 _ _ _ _ ha) hd h2 ?_)
    refine wpAny_pure (a := Fin.done (.ret .none)) ?_
    dsimp only
    unfold updateField
    refine wpAny_bind (wpAny_bind (wpAny_load (Heap.get?_push_size _ rfl) ?_))
    dsimp only
    rw [if_pos (by simp only [Array.size_append]; exact Nat.lt_add_right _ (by simp))]
    refine wpAny_update (Heap.get?_push_size _ rfl) (wpAny_throw ?_)
    refine h _ _ (fun b o e => ?_) ?_
    · rw [Heap.get?_update_ne _ _ _ _ (fun z => ?_)]
      · exact k2 _ _ b o e
      · have := Heap.lt_size e
        rw [z, Heap.size_push] at this
        exact absurd this (Nat.not_lt.mpr (Nat.le_add_right _ _))
    · exact ⟨_, Heap.get?_update_self _ (Heap.get?_push_size _ rfl) rfl, rfl⟩

/-! unpacking a tuple -/
def tIt (it t : Addr) (i : Nat) : HP := fun D => ∃ o, D it = some o ∧ o.cls = .type "tuple_iterator" ∧ o.data = .fields #[.ref t, .int i 0]
theorem tIt_owns {it t i} : Owns it (tIt it t i) := fun _ ⟨o, h, _⟩ => ⟨o, h⟩
instance {it t i} : Up (tIt it t i) := ⟨fun _ _ s ⟨o, h, r⟩ => ⟨o, s _ _ h, r⟩⟩
section
variable {c : Cx} {A : Around} {E : Value → Shared → Prop} {P R : List HP} {s : Shared} {t it : Addr} {vs : List Value}
theorem tup_is {h : Heap} (x : tup t vs h.get?) : IsTup h t vs.toArray := let ⟨n, e⟩ := x; ⟨_, e, rfl, n, rfl⟩
theorem tup_next_end {i : Nat} {Q : Option Value → Shared → Prop} (S : St c (tIt it t i :: P) s) (hA : A.handled = c.hx) (tk : Take (tup t vs) P R) (hx : vs.length ≤ i) (hq : ∀ s', St c P s' → Q none s') : wpAny c.M A (pyNext (.ref it)) Q E s := by
  have hit : IsTupIter s.heap it t i := S.get0
  obtain ⟨o, ho, hc, hd⟩ := id hit
  obtain ⟨ol, hol, _, nl, hdl⟩ := tup_is (S.get (.tail tk))
  unfold pyNext
  refine wpAny_bind (wpAny_attempt (wpAny_callSpecial?_slot (name := Str.ofString "__next__") hit.typeIs slot_tupleiter_next
    (wpAny_call_entry slot_tupleiter_next hit.typeIs entry_tupleiter_next ?_ (args_tupleiter_next _))))
  show wpAny _ _ (field (.ref it) 0 >>= _) _ _ s
  refine wpAny_bind (wpAny_field ho hd (x := .ref t) rfl ?_)
  show wpAny _ _ (if (Value.ref t == Value.none) = true then _ else _) _ _ s
  rw [if_neg (show ¬ ((Value.ref t == Value.none) = true) from Bool.false_ne_true)]
  show wpAny _ _ (field (.ref it) 1 >>= _) _ _ s
  refine wpAny_bind (wpAny_field ho hd (x := .int i 0) rfl ?_)
  show wpAny _ _ (seqItems? (.ref t) >>= _) _ _ s
  refine wpAny_bind (wpAny_seqItems hol hdl ?_)
  have hx' : vs.toArray[i]? = none := by simp [hx]
  simp only [Int.toNat_natCast, hx']
  refine wpAny_bind (wpAny_rule (wpAny_bind (wpAny_setField ho hd (by simp) ?_)))
  have S2 : St c P { s with heap := s.heap.update it (Obj.mapFields (·.setIfInBounds 0 .none)) } := Sat.extBut S tIt_owns (Heap.SameBut.update ..).extBut
  refine stop_raise (A := A.in1) S2.keep hA fun h' a hk hcl => ?_
  refine wpAny_bind (wpAny_isInstance (T := "StopIteration") (b := true) hcl isSubtype_stop ?_)
  exact wpAny_pure (hq _ (S2.ext hk))

theorem unp {Q : List Value → Shared → Prop} {n : Nat} (S : St c P s) (hA : A.handled = c.hx) (tk : Take (tup t vs) P R) (hn : n = vs.length) (hq : ∀ s', St c P s' → Q vs s') : wpAny c.M A (unpackItems (.ref t) n none) Q E s := by
  subst hn
  have ht := tup_is (S.get tk)
  have hlt : t ≠ s.heap.objs.size := by obtain ⟨o, ho, _⟩ := ht; exact Nat.ne_of_lt (Heap.lt_size ho)
  unfold unpackItems
  refine wpAny_bind ?_
  unfold notIterableAtAll
  refine wpAny_bind (wpAny_specialOf ht.typeIs slot_tuple_iter.lookup ?_)
  refine wpAny_pure ?_
  simp only [Bool.false_eq_true, if_false]
  refine wpAny_bind (wpAny_holding (iter_tuple ht ?_))
  have S1 := S.alloc (o := { cls := .type "tuple_iterator", data := .fields #[.ref t, .int 0 0] }) (X := tIt s.heap.objs.size t 0) rfl ⟨_, one_self, rfl, rfl⟩
  refine wpAny_bind (wpAny_holding (draw_tuple (items := vs.toArray) hlt vs.length 0 _ _ (S1.get0 : tIt _ t 0 _) (tup_is (S1.get (.tail tk))) (by simp) fun h₁ hit₁ hs₁ => ?_))
  have hall : List.take vs.length (List.drop 0 vs.toArray.toList) = vs := by simp
  rw [hall]
  rw [if_neg (by simp)]
  have S2 : St c (tIt s.heap.objs.size t (0 + vs.length) :: P) { s with heap := h₁ } := S1.upd (s' := { s with heap := h₁ }) tIt_owns (fun b hb => hs₁.2 b hb) (by obtain ⟨o, h1, h2⟩ := hit₁; exact ⟨o, one_self.trans h1, h2⟩)
  refine wpAny_bind (wpAny_holding (tup_next_end S2 hA tk (by omega) fun s' S3 => ?_))
  simp only [Option.isSome_none, Bool.false_eq_true, if_false]
  exact wpAny_pure (hq _ S3)
end
section
variable {M : Model} {A : Around} {E : Value → Shared → Prop} {s : Shared} {Q : Unit → Shared → Prop}
theorem ain2 {f g : Value → Sem Unit} {a b : Value} (h : wpAny M A (f a) (fun _ s => wpAny M A (g b) (fun _ s => Q () s) E s) E s) : wpAny M A (assignInOrder [f, g] [a, b]) Q E s := by
  simp only [assignInOrder]
  exact wpAny_bind (wpAny_holding (wpAny_mono h (fun _ _ h => wpAny_bind (wpAny_holding (wpAny_mono h (fun _ _ h => wpAny_pure h) fun _ _ x => x))) fun _ _ x => x))
end

section
variable {c : Cx} {A : Around} {E : Value → Shared → Prop} {s : Shared} {P R : List HP} {t : Addr} {env : Env}
theorem asg2 {e1 e2 : Expr} {x1} {pos : Pos} {v1 v2 : Value} {Q : Unit → Shared → Prop} (S : St c P s) (hA : A.handled = c.hx) (tk : Take (tup t [v1, v2]) P R)
    (h : ∀ s', St c P s' → wpAny c.M A (assign e1 env v1) (fun _ s => wpAny c.M A (assign e2 env v2) Q E s) E s') (he : assignEach [e1, e2] env = [(false, assign e1 env), (false, assign e2 env)] := by rfl) :
    wpAny c.M A (assign (.Tuple [e1, e2] x1 pos) env (.ref t)) Q E s := by
  rw [assign_Tuple, he]
  refine wpAny_bind (wpAny_standAt ?_)
  unfold unpack
  exact wpAny_bind (wpAny_holding (unp S hA tk rfl fun s' S' => ain2 (h s' S')))
theorem ain3 {f g k : Value → Sem Unit} {a b d : Value} {Q : Unit → Shared → Prop} {M : Model} (h : wpAny M A (f a) (fun _ s => wpAny M A (g b) (fun _ s => wpAny M A (k d) (fun _ s => Q () s) E s) E s) E s) : wpAny M A (assignInOrder [f, g, k] [a, b, d]) Q E s := by
  simp only [assignInOrder]
  exact wpAny_bind (wpAny_holding (wpAny_mono h (fun _ _ h => wpAny_bind (wpAny_holding (wpAny_mono h (fun _ _ h => wpAny_bind (wpAny_holding (wpAny_mono h (fun _ _ h => wpAny_pure h) fun _ _ x => x))) fun _ _ x => x))) fun _ _ x => x))
theorem asg3 {e1 e2 e3 : Expr} {x1} {pos : Pos} {v1 v2 v3 : Value} {Q : Unit → Shared → Prop} (S : St c P s) (hA : A.handled = c.hx) (tk : Take (tup t [v1, v2, v3]) P R)
    (h : ∀ s', St c P s' → wpAny c.M A (assign e1 env v1) (fun _ s => wpAny c.M A (assign e2 env v2) (fun _ s => wpAny c.M A (assign e3 env v3) Q E s) E s) E s') (he : assignEach [e1, e2, e3] env = [(false, assign e1 env), (false, assign e2 env), (false, assign e3 env)] := by rfl) :
    wpAny c.M A (assign (.Tuple [e1, e2, e3] x1 pos) env (.ref t)) Q E s := by
  rw [assign_Tuple, he]
  refine wpAny_bind (wpAny_standAt ?_)
  unfold unpack
  exact wpAny_bind (wpAny_holding (unp S hA tk rfl fun s' S' => ain3 (h s' S')))
end
/-! a list is walked -/
def lIt (it l : Addr) (i : Nat) : HP := fun D => ∃ o, D it = some o ∧ o.cls = .type "list_iterator" ∧ o.data = .fields #[.ref l, .int i 0]
theorem lIt_owns {it l i} : Owns it (lIt it l i) := fun _ ⟨o, h, _⟩ => ⟨o, h⟩
instance {it l i} : Up (lIt it l i) := ⟨fun _ _ s ⟨o, h, r⟩ => ⟨o, s _ _ h, r⟩⟩
def vw (T : String) (v d : Addr) : HP := fun D => ∃ o, D v = some o ∧ o.cls = .type T ∧ o.data = .fields #[.ref d]
theorem vw_owns {T v d} : Owns v (vw T v d) := fun _ ⟨o, h, _⟩ => ⟨o, h⟩
instance {T v d} : Up (vw T v d) := ⟨fun _ _ s ⟨o, h, r⟩ => ⟨o, s _ _ h, r⟩⟩
def vIt (it d : Addr) (i n ep : Nat) : HP := fun D => ∃ o, D it = some o ∧ o.cls = .type "dict_valueiterator" ∧ o.data = .fields #[.ref d, .int i 0, .int n 0, .int ep 0]
theorem vIt_owns {it d i n ep} : Owns it (vIt it d i n ep) := fun _ ⟨o, h, _⟩ => ⟨o, h⟩
instance {it d i n ep} : Up (vIt it d i n ep) := ⟨fun _ _ s ⟨o, h, r⟩ => ⟨o, s _ _ h, r⟩⟩
def iIt (it d : Addr) (i n ep : Nat) : HP := fun D => ∃ ok ov, D it = some { cls := .type "dict_itemiterator", dict := none, data := .fields #[.none, .bool false, .ref d, .int i 0, .int n 0, .int ep 0, ok, ov], slots := #[] }
theorem iIt_owns {it d i n ep} : Owns it (iIt it d i n ep) := fun _ ⟨_, _, h⟩ => ⟨_, h⟩
instance {it d i n ep} : Up (iIt it d i n ep) := ⟨fun _ _ s ⟨ok, ov, h⟩ => ⟨ok, ov, s _ _ h⟩⟩
def iOut (it d : Addr) (i n ep : Nat) (v : Value) : HP := fun D => ∃ ok ov a, v = .ref a ∧ D it = some { cls := .type "dict_itemiterator", dict := none, data := .fields #[rawInt a, .bool false, .ref d, .int i 0, .int n 0, .int ep 0, ok, ov], slots := #[] }
theorem iOut_owns {it d i n ep v} : Owns it (iOut it d i n ep v) := fun _ ⟨_, _, _, _, h⟩ => ⟨_, h⟩
instance {it d i n ep v} : Up (iOut it d i n ep v) := ⟨fun _ _ s ⟨ok, ov, a, e, h⟩ => ⟨ok, ov, a, e, s _ _ h⟩⟩
def iTup (c : Cx) {K : Type} [DecidableEq K] (knd : KeyKind Pg c.w K) (kvs : List (K × Value)) (i : Nat) (v : Value) : HP := fun D => ∃ a k key w, v = .ref a ∧ kvs[i]? = some (k, w) ∧ knd.is k key = true ∧ D a = some { cls := .type "tuple", data := .seq #[key, w] }

theorem St.updNew {c : Cx} {s : Shared} {R : List HP} {a n : Addr} {X X1 X2 : HP} {h' : Heap} (S : St c (X :: R) s) (hX : Owns a X) (hk : ∀ b o, b ≠ a → s.heap.get? b = some o → h'.get? b = some o) (hX1 : X1 (one a (h'.get? a))) (hX2 : X2 (one n (h'.get? n))) (hn : s.heap.objs.size ≤ n) : St c (X1 :: X2 :: R) { s with heap := h' } := by
  have hz := c.size S.keep
  obtain ⟨d, h1, h2, h3, h4⟩ := S.own
  obtain ⟨x, hx⟩ : ∃ o, d a = some o := by
    obtain ⟨d1, d2, g1, g2, g3, g4, g5⟩ := h4
    obtain ⟨o, q⟩ := hX d1 g4
    exact ⟨o, g2 a o q⟩
  have ha : c.st a = none := by
    rcases h3 a with q | q
    · exact q
    · rw [hx] at q; cases q
  have hdn : d n = none := by
    cases q : d n with
    | none => rfl
    | some o => exact absurd (Heap.lt_size (h1 n o q)) (Nat.not_lt.mpr hn)
  have hsn : c.st n = none := by
    cases q : c.st n with
    | none => rfl
    | some o => exact absurd (Heap.lt_size (S.keep n o q)) (Nat.not_lt.mpr hn)
  have hna : n ≠ a := fun e => by rw [e, hx] at hdn; cases hdn
  have hd : Dis (one n (h'.get? n)) (upP d a (h'.get? a)) := fun b => by
    by_cases e : b = n
    · subst e; exact .inr (by simp [upP, hna, hdn])
    · exact .inl (by simp [one, e])
  refine ⟨fun b o e => hk b o (fun z => by rw [z, ha] at e; cases e) (S.keep b o e), ⟨uni (one n (h'.get? n)) (upP d a (h'.get? a)), uni_sub (fun b o e => ?_) (fun b o e => ?_), fun b o e => ?_, fun b => ?_, Sat.swap ((h4.updP hX hX1).newsP hd hX2)⟩, S.os, S.gens⟩
  · by_cases q : b = n
    · subst q; simpa [one] using e
    · simp [one, q] at e
  · by_cases q : b = a
    · subst q; simpa [upP] using e
    · exact hk b o q (h1 b o (by simpa [upP, q] using e))
  · by_cases q : b = n
    · subst q; exact Nat.le_trans hz hn
    · by_cases q2 : b = a
      · subst q2; exact h2 _ _ hx
      · exact h2 b o (by simpa [uni, one, q, upP, q2] using e)
  · by_cases q : b = n
    · subst q; exact .inl hsn
    · by_cases q2 : b = a
      · subst q2; exact .inl ha
      · rcases h3 b with y | y
        · exact .inl y
        · exact .inr (by simp [uni, one, q, upP, q2, y])
section
variable {c : Cx} {A : Around} {E : Value → Shared → Prop} {s : Shared} {P R R2 : List HP} {l d it v : Addr} {vs : List Value}
theorem l_iter {Q : Value → Shared → Prop} (S : St c P s) (t : Take (lst l vs) P R) (h : ∀ s' it, St c (lIt it l 0 :: P) s' → Q (.ref it) s') : wpAny c.M A (pyIter (.ref l)) Q E s :=
  wpAny_pyIter_list (lst_isList (S.get t)) (h _ _ (S.alloc rfl ⟨_, one_self, rfl, rfl⟩))
theorem l_walk (hh : A.handled = none) : Iter c A (.ref it) vs.length (fun i => [lIt it l i, lst l vs]) (fun i v => vs[i]? = some v) (fun i _ => [lIt it l (i + 1), lst l vs]) [lst l vs] := by
  refine ⟨fun i hi P s Q E S h => ?_, fun P s Q E S h => ?_⟩
  · have hx : vs[i]? = some vs[i] := List.getElem?_eq_getElem hi
    refine wpAny_pyNext_list_item (S.get0 : lIt it l i s.heap.get?) (lst_isList (S.get (.tail .head))) (by simpa using hx) fun h' h1 h2 => h _ _ hx (S.upd lIt_owns (fun b hb => h2.2 b hb) ?_)
    obtain ⟨o, q1, q2⟩ := h1
    exact ⟨o, one_self.trans q1, q2⟩
  · exact wpAny_pyNext_list_end hh (S.get0 : lIt it l vs.length s.heap.get?) (lst_isList (S.get (.tail .head))) (by simp) fun h' he => h _ (Sat.extBut S lIt_owns he)
end
section
variable {c : Cx} {A : Around} {E : Value → Shared → Prop} {s : Shared} {P R R2 : List HP} {K : Type} {dec : DecidableEq K} {knd : KeyKind Pg c.w K} {d it v : Addr} {kvs : List (K × Value)} {ep : Nat}
theorem d_items {Q : Value → Shared → Prop} (S : St c P s) (t : Take (dR c knd d kvs) P R) (h : ∀ s' v, St c (vw "dict_items" v d :: P) s' → Q (.ref v) s') : wpAny c.M A (call (.builtin "dict.items") [.ref d]) Q E s := by
  have hm := dR_of (S.get t)
  exact call_meetsIn PySem.F.slot_dict_items hm.typeIs PySem.F.entry_dict_items (PySem.F.args_dict_items_1 _) (meets_dict_items knd d (S.notSys t dR_owns)) ⟨⟨kvs, hm⟩, h _ _ (S.alloc rfl ⟨_, one_self, rfl, rfl⟩)⟩
theorem d_values {Q : Value → Shared → Prop} (S : St c P s) (t : Take (dR c knd d kvs) P R) (h : ∀ s' v, St c (vw "dict_values" v d :: P) s' → Q (.ref v) s') : wpAny c.M A (call (.builtin "dict.values") [.ref d]) Q E s := by
  have hm := dR_of (S.get t)
  exact call_meetsIn PySem.F.slot_dict_values hm.typeIs PySem.F.entry_dict_values (PySem.F.args_dict_values_1 _) (meets_dict_values knd d (S.notSys t dR_owns)) ⟨⟨kvs, hm⟩, h _ _ (S.alloc rfl ⟨_, one_self, rfl, rfl⟩)⟩
theorem v_iter {Q : Value → Shared → Prop} (S : St c P s) (t : Takes [vw "dict_values" v d, dR c knd d kvs] P R) (h : ∀ s' it ep, St c (vIt it d 0 kvs.length ep :: dAt c knd d kvs ep :: R) s' → Q (.ref it) s') : wpAny c.M A (pyIter (.ref v)) Q E s := by
  have S1 := S.takes t
  have hv : s.heap.IsValuesView v d := S1.get0
  obtain ⟨ep, S'⟩ := S1.drop.fixEp .head
  exact wpAny_pyIter_values hv (S'.get0 : dAt c knd d kvs ep s.heap.get?) (h _ _ ep (S'.alloc rfl ⟨_, one_self, rfl, rfl⟩))
theorem v_walk (hh : A.handled = none) : Iter c A (.ref it) kvs.length (fun i => [vIt it d i kvs.length ep, dAt c knd d kvs ep]) (fun i v => ∃ k, kvs[i]? = some (k, v)) (fun i _ => [vIt it d (i + 1) kvs.length ep, dAt c knd d kvs ep]) [dR c knd d kvs] := by
  refine ⟨fun i hi P s Q E S h => ?_, fun P s Q E S h => ?_⟩
  · have hx : kvs[i]? = some (kvs[i].1, kvs[i].2) := List.getElem?_eq_getElem hi
    refine wpAny_pyNext_values_item (knd := knd) (S.get0 : vIt it d i kvs.length ep s.heap.get?) (S.get (.tail .head) : dAt c knd d kvs ep s.heap.get?) hx fun h' h1 h2 => h _ _ ⟨_, hx⟩ (S.upd vIt_owns (fun b hb => h2.2 b hb) ?_)
    obtain ⟨o, q1, q2⟩ := h1
    exact ⟨o, one_self.trans q1, q2⟩
  · refine wpAny_pyNext_values_end (knd := knd) hh (S.get0 : vIt it d kvs.length kvs.length ep s.heap.get?) (S.get (.tail .head) : dAt c knd d kvs ep s.heap.get?) (by simp) fun h' he => h _ ?_
    exact (Sat.extBut S vIt_owns he).head_mono fun _ => dAt_dR
theorem i_iter {Q : Value → Shared → Prop} (S : St c P s) (t : Takes [vw "dict_items" v d, dR c knd d kvs] P R) (h : ∀ s' it ep, St c (iIt it d 0 kvs.length ep :: dAt c knd d kvs ep :: R) s' → Q (.ref it) s') : wpAny c.M A (pyIter (.ref v)) Q E s := by
  have S1 := S.takes t
  have hv : s.heap.IsItemsView v d := S1.get0
  obtain ⟨ep, S'⟩ := S1.drop.fixEp .head
  exact wpAny_pyIter_items hv (S'.get0 : dAt c knd d kvs ep s.heap.get?) (h _ _ ep (S'.alloc rfl ⟨_, _, one_self⟩))
theorem i_walk (hh : A.handled = none) : Iter c A (.ref it) kvs.length (fun i => [iIt it d i kvs.length ep, dAt c knd d kvs ep]) (fun i v => True) (fun i v => [iOut it d (i + 1) kvs.length ep v, dAt c knd d kvs ep, iTup c knd kvs i v]) [dR c knd d kvs] := by
  refine ⟨fun i hi P s Q E S h => ?_, fun P s Q E S h => ?_⟩
  · have hx : kvs[i]? = some (kvs[i].1, kvs[i].2) := List.getElem?_eq_getElem hi
    obtain ⟨ok, ov, hit⟩ := (S.get0 : iIt it d i kvs.length ep s.heap.get?)
    refine wpAny_pyNext_items_item (knd := knd) hit (S.get (.tail .head) : dAt c knd d kvs ep s.heap.get?) hx fun key h' hk h1 h2 h3 h4 => h _ _ trivial ?_
    have S2 := S.updNew (X1 := iOut it d (i + 1) kvs.length ep (.ref s.heap.objs.size)) (X2 := iTup c knd kvs i (.ref s.heap.objs.size)) (n := s.heap.objs.size) iIt_owns (fun b o hb e => h4 b o hb e) ⟨_, _, _, rfl, one_self.trans h1⟩ ⟨_, _, _, _, rfl, hx, hk, one_self.trans h2⟩ (Nat.le_refl _)
    exact S2.mono fun _ h => Sat.cons_mono (fun _ h => Sat.swap h) h
  · obtain ⟨ok, ov, hit⟩ := (S.get0 : iIt it d kvs.length kvs.length ep s.heap.get?)
    refine wpAny_pyNext_items_end (knd := knd) hh hit (S.get (.tail .head) : dAt c knd d kvs ep s.heap.get?) (by simp) fun h' he => h _ ?_
    exact (Sat.extBut S iIt_owns he).head_mono fun _ => dAt_dR
theorem i_own {elts : List Expr} {x1} {pos : Pos} {i n : Nat} {w : Value} {Q : Unit → Shared → Prop} (S : St c (iOut it d i n ep w :: P) s) (h : ∀ s', St c (iIt it d i n ep :: P) s' → Q () s') : wpAny c.M A (letOwnedTupleGo (.Tuple elts x1 pos) (.ref it) w) Q E s := by
  obtain ⟨ok, ov, a, rfl, he⟩ := (S.get0 : iOut it d i n ep w s.heap.get?)
  refine wpAny_letOwnedTupleGo_items he fun h' h1 h2 => h _ (S.upd iOut_owns (fun b hb => h2.2 b hb) ⟨ok, ov, one_self.trans h1⟩)
end

theorem St.openTup {c : Cx} {s : Shared} {P R : List HP} {K : Type} {dec : DecidableEq K} {knd : KeyKind Pg c.w K} {kvs : List (K × Value)} {i : Nat} {v : Value} (S : St c P s) (t : Take (iTup c knd kvs i v) P R) :
    ∃ a k key w, v = .ref a ∧ kvs[i]? = some (k, w) ∧ knd.is k key = true ∧ St c (tup a [key, w] :: R) s := by
  have S1 := S.take t
  obtain ⟨d, h1, h2, h3, d1, d2, g1, g2, g3, ⟨a, k, key, w, q1, q2, q3, q4⟩, g5⟩ := S1.own
  exact ⟨a, k, key, w, q1, q2, q3, S1.keep, ⟨d, h1, h2, h3, d1, d2, g1, g2, g3, ⟨_, q4⟩, g5⟩, S1.os, S1.gens⟩

theorem Sat.newL {R : List HP} {h : Heap} : ∀ {l : List (Addr × HP)} {d : PH}, (l.map (·.1)).Nodup → (∀ p ∈ l, d p.1 = none) → (∀ p ∈ l, p.2 (one p.1 (h.get? p.1))) → Sat R d →
    ∃ d', Sat (l.map (·.2) ++ R) d' ∧ Sub d d' ∧ (∀ b o, d' b = some o → d b = some o ∨ (b ∈ l.map (·.1) ∧ h.get? b = some o))
  | [], d, _, _, _, S => ⟨d, S, Sub.refl _, fun _ _ e => .inl e⟩
  | p :: l, d, hn, hd, hp, S => by
    simp only [List.map_cons, List.nodup_cons] at hn
    obtain ⟨d', S', hs, hb⟩ := Sat.newL hn.2 (fun q hq => hd q (.tail _ hq)) (fun q hq => hp q (.tail _ hq)) S
    have hpn : d' p.1 = none := by
      cases q : d' p.1 with
      | none => rfl
      | some o =>
        rcases hb _ _ q with e | e
        · rw [hd p (.head _)] at e; cases e
        · exact absurd e.1 hn.1
    have hdis : Dis (one p.1 (h.get? p.1)) d' := fun b => by
      by_cases e : b = p.1
      · subst e; exact .inr hpn
      · exact .inl (by simp [one, e])
    refine ⟨uni (one p.1 (h.get? p.1)) d', S'.newsP hdis (hp p (.head _)), hs.trans (sub_uni_right hdis), fun b o e => ?_⟩
    by_cases q : b = p.1
    · subst q
      right
      refine ⟨List.mem_cons_self, ?_⟩
      simpa [uni, one, hpn] using e
    · have e' : d' b = some o := by simpa [uni, one, q] using e
      rcases hb b o e' with x | x
      · exact .inl x
      · exact .inr ⟨List.mem_cons_of_mem _ x.1, x.2⟩
theorem St.newL {c : Cx} {R : List HP} {s s' : Shared} (S : St c R s) (l : List (Addr × HP)) (hk : ∀ b o, s.heap.get? b = some o → s'.heap.get? b = some o) (hn : (l.map (·.1)).Nodup) (hf : ∀ p ∈ l, s.heap.objs.size ≤ p.1) (hp : ∀ p ∈ l, p.2 (one p.1 (s'.heap.get? p.1)))
    (ho : s'.os = s.os) (hg : s'.gens = s.gens) : St c (l.map (·.2) ++ R) s' := by
  have hz := c.size S.keep
  obtain ⟨d, h1, h2, h3, h4⟩ := S.own
  have hnone : ∀ (D : PH), Sub D s.heap.get? → ∀ p ∈ l, D p.1 = none := fun D hD p hp => by
    cases q : D p.1 with
    | none => rfl
    | some o => exact absurd (Heap.lt_size (hD _ o q)) (Nat.not_lt.mpr (hf p hp))
  obtain ⟨d', S', hs, hb⟩ := Sat.newL hn (hnone d h1) hp h4
  refine ⟨fun b o e => hk b o (S.keep b o e), ⟨d', fun b o e => ?_, fun b o e => ?_, fun b => ?_, S'⟩, ho.trans S.os, hg ▸ S.gens⟩
  · rcases hb b o e with x | x
    · exact hk b o (h1 b o x)
    · exact x.2
  · rcases hb b o e with x | x
    · exact h2 b o x
    · obtain ⟨p, hp, rfl⟩ := List.mem_map.mp x.1
      exact Nat.le_trans hz (hf p hp)
  · cases q : d' b with
    | none => exact .inr rfl
    | some o =>
      rcases hb b o q with x | x
      · rcases h3 b with y | y
        · exact .inl y
        · rw [y] at x; cases x
      · obtain ⟨p, hp, e⟩ := List.mem_map.mp x.1
        exact .inl (e ▸ hnone c.st S.keep p hp)

theorem lookup_mem {β : Type} {r : Str × β} : ∀ {cs : List (Str × β)}, r ∈ cs → (cs.map (·.1)).Nodup → cs.lookup r.1 = some r.2
  | [], hr, _ => by cases hr
  | (zn, zv) :: zs, hr, hnn => by
    simp only [List.map_cons, List.nodup_cons] at hnn
    rcases List.mem_cons.mp hr with rfl | hr
    · simp [List.lookup_cons]
    · have : (r.1 == zn) = false := by
        rw [beq_eq_false_iff_ne]
        intro e
        exact hnn.1 (e ▸ List.mem_map.mpr ⟨r, hr, rfl⟩)
      simp only [List.lookup_cons, this]
      exact lookup_mem hr hnn.2
theorem bindL_all (l : List (Str × Value)) : ∀ (m : Str → Option Value) (x : Str), bindL (fun _ => some .local) l m x = (l.reverse.lookup x).or (m x) := by
  induction l with
  | nil => intro m x; simp [bindL]
  | cons p r ih =>
    intro m x
    obtain ⟨n, v⟩ := p
    simp only [bindL, if_true]
    rw [ih, List.reverse_cons, List.lookup_append]
    cases h : r.reverse.lookup x with
    | some w => simp
    | none =>
      by_cases e : x = n
      · subst e; simp
      · have : (x == n) = false := beq_eq_false_iff_ne.mpr e
        simp [List.lookup_cons, this, e]
theorem bindL_filter (k : Str → Option NameKind) (l : List (Str × Value)) : ∀ m, bindL k l m = bindL (fun _ => some .local) (l.filter fun p => decide (k p.1 = some .local)) m := by
  induction l with
  | nil => intro m; rfl
  | cons p r ih =>
    intro m
    obtain ⟨n, v⟩ := p
    by_cases e : k n = some .local
    · simp only [bindL, e, List.filter_cons, decide_true, if_true]; exact ih _
    · simp only [bindL, e, List.filter_cons, decide_false, if_false]; exact ih _
theorem bindC_filter (k : Str → Option NameKind) (l : List (Str × Value)) : ∀ m, bindC k l m = bindL (fun _ => some .local) (l.filter fun p => !decide (k p.1 = some .local)) m := by
  induction l with
  | nil => intro m; rfl
  | cons p r ih =>
    intro m
    obtain ⟨n, v⟩ := p
    by_cases e : k n = some .local
    · simp only [bindC, e, List.filter_cons, decide_true, if_true, Bool.not_true, Bool.false_eq_true, if_false]; exact ih _
    · simp only [bindC, bindL, e, List.filter_cons, decide_false, if_false, Bool.not_false, if_true]; exact ih _

section
variable {c : Cx} {A : Around} {s : Shared} {P : List HP} {k : Nat} {f : Addr} {name qual : Str} {params : Arguments} {body : List Stmt} {scope : Scope} {dV kV doc pm cdv ct oc : Value} {an od : Option Addr} {osl : Array (Option Value)}
  {args : Args} {binds lb cb : List (Str × Value)} {oth : List (Str × Option Value)} {cl : Addr → List (Str × Addr)} {cv : Addr → List (Addr × Option Value)} {Rr : Result → Shared → Prop}
theorem call_CF (S : St c P s) (rm : Rm A (k + 1)) (ho : (hd.heap_39 c.w.params).lookup f = some ⟨oc, od, .func (fnX name qual params body scope [] dV kV doc pm an cdv ct), osl⟩) (hcd : codeIn (hd.heap_39 c.w.params) cdv qual = true)
    (hbind : BindsTo s (fnX name qual params body scope [] dV kV doc pm an cdv ct) args binds)
    (hlb : (binds.filter fun p => decide (scope.names.lookup p.1 = some .local)) = lb) (hcb : (binds.filter fun p => !decide (scope.names.lookup p.1 = some .local)) = cb)
    (hcl : ∀ n, cellsFrom (n + 1) scope.names [] = cl n) (hcv : ∀ n, (cl n).map (fun p => (p.2, look (boundF cb) p.1)) = cv n)
    (hkind : ∀ n, ∀ x ∈ binds, scope.names.lookup x.1 = some .local ∨ (scope.names.lookup x.1 = some .cell ∧ ((cellsFrom n scope.names []).lookup x.1).isSome = true))
    (hcn : ∀ n, nodupB ((cl n).map (·.1)) = true) (hcbn : nodupB (cb.map (·.1)) = true)
    (hoth : Oth (lb.map (·.1)) scope.names oth) (hnd : nodupB (lb.map (·.1) ++ oth.map (·.1)) = true)
    (h : ∀ B L s₁, Rm B k → B.handled = A.handled → B.frames = A.frames.map (fun l => envX qual scope L f cdv (cl L) :: l) → St c (frm L (boundF lb ++ oth) :: ((cv L).map (fun p => cel p.1 p.2) ++ P)) s₁ → (let env := envX qual scope L f cdv (cl L); wpAny c.M B (execs body env)
        (fun fl s' => Rr (.ok (.ret (match fl with | .ret v => v | _ => .none))) s') (fun _ _ => False) s₁))
    (hco : scope.isCoroutine = false := by rfl) (hgen : scope.isGenerator = false := by rfl) (hk : scope.kind = .function := by rfl) :
    codeAny c.M A (.call (.ref f) args) Rr s := by
  refine codeAny_call_function (fd := fnX name qual params body scope [] dV kV doc pm an cdv ct) (body := body) rm.depth (S.K _ _ ho) rfl hco hgen rfl (codeRec_of S.K hcd) (hbind _ _ _ _ ?_)
  refine wpAny_newFunctionEnv_cells hk (hkind _) fun env' he s' x => ?_
  subst he
  refine ⟨S.T.nolimit.keeps x.toInCall.keep, codeAny_func ?_⟩
  obtain ⟨h', tk, e, hkeep⟩ := x.done
  subst e
  have hloc : (boundF lb).map (·.1) = lb.map (·.1) := by simp only [boundF, List.map_map]; rfl
  have hnd' := nodupB_iff hnd
  have G : St c (frm s.heap.objs.size (boundF lb ++ oth) :: ((cv s.heap.objs.size).map (fun p => cel p.1 p.2) ++ P)) { s with heap := h', toks := tk } := by
    have hcl' := hcl s.heap.objs.size
    have hcv' := hcv s.heap.objs.size
    have xc := x.cell
    have xa := x.apart
    have xb := x.above
    have xn := x.toInCall.ns
    dsimp only [newEnv] at xc xa xb xn
    rw [hcl'] at xc xa xb
    have key := S.newL (s' := { s with heap := h', toks := tk }) ((s.heap.objs.size, frm s.heap.objs.size (boundF lb ++ oth)) :: (cv s.heap.objs.size).map fun p => (p.1, cel p.1 p.2)) hkeep ?_ ?_ ?_ rfl rfl
    · simpa [List.map_map, Function.comp_def] using key
    · simp only [List.map_cons, List.map_map, Function.comp_def]
      rw [← hcv', List.map_map, List.nodup_cons]
      refine ⟨fun hm => ?_, ?_⟩
      · obtain ⟨p, hp, e⟩ := List.mem_map.mp hm
        have := xb p.1 p.2 hp
        dsimp only [Function.comp_def] at e
        rw [e] at this
        exact absurd this (Nat.lt_irrefl _)
      · simp only [Function.comp_def]
        exact List.pairwise_map.mpr xa
    · intro p hp
      rcases List.mem_cons.mp hp with rfl | hp
      · exact Nat.le_refl _
      · obtain ⟨q, hq, rfl⟩ := List.mem_map.mp hp
        rw [← hcv'] at hq
        obtain ⟨r, hr, rfl⟩ := List.mem_map.mp hq
        exact Nat.le_of_lt (xb r.1 r.2 hr)
    · intro p hp
      rcases List.mem_cons.mp hp with rfl | hp
      · refine ⟨by rw [List.map_append, hloc]; exact hnd', ?_⟩
        obtain ⟨o, es, ep, h1, h2, h3, h4⟩ := xn
        refine ⟨o, es, ep, one_self.trans h1, h2, h3, fun y => ?_⟩
        rw [h4, bindL_filter]
        change bindL _ (List.filter (fun p => decide (scope.names.lookup p.1 = some .local)) binds) _ y = _
        rw [hlb, bindL_all, Option.or_none, look_append, hloc]
        split
        · rw [look_bound lb (List.nodup_append.mp hnd').1]
        · rename_i hx
          rw [hoth.look, List.lookup_eq_none_iff]
          intro p hp
          rw [bne_iff_ne]
          rintro rfl
          exact hx (List.mem_map.mpr ⟨p, List.mem_reverse.mp hp, rfl⟩)
      · obtain ⟨q, hq, rfl⟩ := List.mem_map.mp hp
        rw [← hcv'] at hq
        obtain ⟨r, hr, rfl⟩ := List.mem_map.mp hq
        have hlk : (cl s.heap.objs.size).lookup r.1 = some r.2 := lookup_mem hr (nodupB_iff (hcn s.heap.objs.size))
        obtain ⟨o, h1, h2⟩ := xc _ _ hlk
        refine ⟨o, one_self.trans h1, h2.trans ?_⟩
        rw [bindC_filter]
        refine congrArg Data.cell ?_
        change bindL _ (List.filter (fun p => !decide (scope.names.lookup p.1 = some .local)) binds) _ _ = _
        rw [hcb, bindL_all, Option.or_none, look_bound cb (nodupB_iff hcbn)]
  have hh := h (A.deeper (envX qual scope s.heap.objs.size f cdv (cl s.heap.objs.size))) s.heap.objs.size { s with heap := h', toks := tk } rm.deeper rfl rfl G
  rw [← hcl s.heap.objs.size] at hh
  exact wpAny_mono hh (fun _ _ x => x) fun _ _ x => x.elim
theorem call_C (S : St c P s) (rm : Rm A (k + 1)) (ho : (hd.heap_39 c.w.params).lookup f = some ⟨oc, od, .func (fnX name qual params body scope [] dV kV doc pm an cdv ct), osl⟩) (hcd : codeIn (hd.heap_39 c.w.params) cdv qual = true)
    (hbind : BindsTo s (fnX name qual params body scope [] dV kV doc pm an cdv ct) args binds)
    (hlb : (binds.filter fun p => decide (scope.names.lookup p.1 = some .local)) = lb) (hcb : (binds.filter fun p => !decide (scope.names.lookup p.1 = some .local)) = cb)
    (hcl : ∀ n, cellsFrom (n + 1) scope.names [] = cl n) (hcv : ∀ n, (cl n).map (fun p => (p.2, look (boundF cb) p.1)) = cv n)
    (hkind : ∀ n, ∀ x ∈ binds, scope.names.lookup x.1 = some .local ∨ (scope.names.lookup x.1 = some .cell ∧ ((cellsFrom n scope.names []).lookup x.1).isSome = true))
    (hcn : ∀ n, nodupB ((cl n).map (·.1)) = true) (hcbn : nodupB (cb.map (·.1)) = true)
    (hoth : Oth (lb.map (·.1)) scope.names oth) (hnd : nodupB (lb.map (·.1) ++ oth.map (·.1)) = true)
    (h : ∀ B L s₁, Rm B k → B.handled = A.handled → St c (frm L (boundF lb ++ oth) :: ((cv L).map (fun p => cel p.1 p.2) ++ P)) s₁ → (let env := envX qual scope L f cdv (cl L); wpAny c.M B (execs body env)
        (fun fl s' => Rr (.ok (.ret (match fl with | .ret v => v | _ => .none))) s') (fun _ _ => False) s₁))
    (hco : scope.isCoroutine = false := by rfl) (hgen : scope.isGenerator = false := by rfl) (hk : scope.kind = .function := by rfl) :
    codeAny c.M A (.call (.ref f) args) Rr s :=
  call_CF S rm ho hcd hbind hlb hcb hcl hcv hkind hcn hcbn hoth hnd (fun B L s₁ r x _ S₁ => h B L s₁ r x S₁) hco hgen hk
end

end Mine
namespace Mine
local macro_rules | `(tactic| wtm_at "oth") => `(tactic| repeat' (first | apply Oth.nil | (apply Oth.par; (exact rfl)) | apply Oth.new | apply Oth.skip))
local macro_rules | `(tactic| wtm_at "memf") => `(tactic| first | with_reducible assumption | exact mem_range (by assumption) | exact mem_range (by omega))
local macro_rules | `(tactic| wtm_at "take") => `(tactic| ((repeat (first | with_reducible exact Take.head | (refine' Take.famAt2 ?e ?h; (case e => with_reducible exact rfl); (case h => wtm_at "memf")) | apply Take.tail)); done))
local macro_rules | `(tactic| wtm_at "len") => `(tactic| first | (simp [idx_length]; done) | (simp [idx_length]; omega) | omega)
local macro_rules | `(tactic| wtm_at "takes") => `(tactic| first | exact Takes.nil | (refine' Takes.cons ?a ?b; (case a => wtm_at "take"); (case b => wtm_at "takes")))
local macro_rules | `(tactic| wtm_at "drop") => `(tactic| ((repeat (first | exact Drop.refl | apply Drop.skip)); done))
local macro_rules | `(tactic| wtm_at "cov") => `(tactic| first | (refine' Cov.cons ?a ?b; (case a => wtm_at "take"); (case b => wtm_at "cov")) | (refine Cov.nil ?_; wtm_at "drop"))
local macro_rules | `(tactic| wtm_at "fin") => `(tactic| (refine' St.cov (by assumption) ?a; (case a => wtm_at "cov")))
local macro_rules | `(tactic| wtm_at "mem") => `(tactic| ((repeat (first | with_reducible exact List.mem_cons_self | apply List.mem_cons_of_mem)); done))
local macro_rules | `(tactic| wtm_at "at") => `(tactic| first | with_reducible assumption | ((repeat (first | with_reducible exact At.here | (apply At.there; (exact rfl)))); done))
local macro_rules | `(tactic| wtm_at "putk") => `(tactic| ((repeat (first | exact PutK.nil | with_reducible exact PutK.here | (apply PutK.there; (exact rfl)))); done))
set_option hygiene false in
local macro_rules | `(tactic| wtm_at "sS") => `(tactic| (clear S; intro s S))
set_option hygiene false in
local macro_rules | `(tactic| wtm_at "saS") => `(tactic| (clear S; intro s nw S))
local macro_rules | `(tactic| wtm_at "ld") => `(tactic| first | (refine' ld (by assumption) ?t ?g ?_ rfl rfl (by decide); (case t => wtm_at "take"); (case g => wtm_at "mem")) | (refine' ldG (by assumption) ?e ?_ rfl rfl (by decide); (case e => wtm_at "gl")) | (refine' ldB (by assumption) ?e ?hv (by decide) ?_ rfl rfl (by decide); (case e => exact rfl); (case hv => wtm_at "bt")) | (refine' ldC (by assumption) ?q ?t ?_ rfl rfl (by decide); (case q => exact rfl); (case t => wtm_at "take")) | (refine' ldF (by assumption) ?q ?t ?_ rfl rfl (by decide) (by decide); (case q => exact rfl); (case t => wtm_at "take")))
local macro_rules | `(tactic| wtm_at "bt") => `(tactic| first | with_reducible exact bt_isinstance | with_reducible exact bt_iter | with_reducible exact bt_next | with_reducible exact bt_len | with_reducible exact bt_min | with_reducible exact bt_max | with_reducible exact bt_sum | with_reducible exact bt_callable | with_reducible exact bt_sorted | with_reducible exact bt_abs | with_reducible exact bt_getattr | with_reducible exact bt_list | with_reducible exact bt_range | with_reducible exact bt_float | with_reducible exact bt_int | with_reducible exact bt_bool | with_reducible exact bt_str | with_reducible exact bt_dict | with_reducible exact bt_tuple | with_reducible exact bt_super)
local macro_rules | `(tactic| wtm_at "gl") => `(tactic| first | with_reducible exact gl_Graph _ | with_reducible exact gl_EdgeView _ | with_reducible exact gl_DiGraph _ | with_reducible exact gl_CurrentEdge _ | with_reducible exact gl_build_residual_network _ | with_reducible exact gl__capacity_function _ | with_reducible exact gl_shortest_augmenting_path_impl _ | with_reducible exact gl_shortest_augmenting_path _ | with_reducible exact gl__law_cuts _ | with_reducible exact gl__law_spread _ | with_reducible exact gl_deque _)
local macro_rules | `(tactic| wtm_at "s") => `(tactic| first | ((with_reducible show wpAny _ _ (execs _ _) _ _ _); first | ((with_reducible show wpAny _ _ (execs (_ :: _) _) _ _ _); refine wpAny_execs_cons ?_) | ((with_reducible show wpAny _ _ (execs [] _) _ _ _); refine wpAny_execs_nil ?_)) | ((with_reducible show wpAny _ _ (exec _ _) _ _ _); first | ((with_reducible show wpAny _ _ (exec (Stmt.Assign [Expr.Attribute _ _ _] _ _) _) _ _ _); refine plainObj_wpAny_Assign_Attribute ?_) | ((with_reducible show wpAny _ _ (exec (Stmt.Expr _ _) _) _ _ _); refine wpAny_Expr ?_) | ((with_reducible show wpAny _ _ (exec (Stmt.If _ _ _ _) _) _ _ _); refine wpAny_If ?_)))
local macro_rules | `(tactic| wtm_at "e") => `(tactic| first | ((with_reducible show wpAny _ _ (eval _ _) _ _ _); first | ((with_reducible show wpAny _ _ (eval (Expr.Name _ _) _) _ _ _); wtm_at "ld") | ((with_reducible show wpAny _ _ (eval (Expr.Constant Const.none _ _) _) _ _ _); refine wpAny_Constant_none ?_) | ((with_reducible show wpAny _ _ (eval (Expr.Attribute (Expr.Name _ _) _ _) _) _ _ _); refine Attribute_name ?_) | ((with_reducible show wpAny _ _ (eval (Expr.Call (Expr.Attribute _ _ _) _ [] _) _) _ _ _); refine MethodCall_ ?_) | ((with_reducible show wpAny _ _ (eval (Expr.Call (Expr.Name _ _) _ [] _) _) _ _ _); refine Call_ ?_)) | ((with_reducible show wpAny _ _ (isTrue _ _ _) _ _ _); first | ((with_reducible show wpAny _ _ (isTrue (Expr.Compare _ [_] [_] _) _ _) _ _ _); refine wpAny_isTrue_Compare1 ?_) | ((with_reducible show wpAny _ _ (isTrue (Expr.Call _ _ _ _) _ _) _ _ _); refine wpAny_isTrue_value ?_)) | ((with_reducible show wpAny _ _ (spliced (backTo _ (starEach [] _))) _ _ _); refine args_nil ?_) | ((with_reducible show wpAny _ _ (spliced (backTo _ (starEach (_ :: _) _))) _ _ _); refine args_cons ?_))
local macro_rules | `(tactic| wtm_at "v") => `(tactic| first | ((with_reducible show wpAny _ _ (callWith _ (Value.builtin _) _ (backTo _ (starEach (_ :: _) _)) []) _ _ _); refine callB ?_) | ((with_reducible show wpAny _ _ (call _ _ _) _ _ _); first | ((with_reducible show wpAny _ _ (call _ ([] ++ _) _) _ _ _); refine call_app0 ?_) | ((with_reducible show wpAny _ _ (call _ ([_] ++ _) _) _ _ _); refine call_app1 ?_) | ((with_reducible show wpAny _ _ (call (Value.builtin "isinstance") [Value.none, Value.ref _]) _ _ _); (refine isi_none (by assumption) (by exact rfl) ?_; wtm_at "sS")) | ((with_reducible show wpAny _ _ (call (Value.builtin "dict.update") [Value.ref _, Value.ref _]) _ _ _); first | (refine' dS_update0 (by assumption) ?tt ?z ?_; (case tt => wtm_at "takes"); (case z => wtm_at "len"); wtm_at "sS") | (refine' dS_update1 (by assumption) ?tt ?z ?_; (case tt => wtm_at "takes"); (case z => wtm_at "len"); wtm_at "sS"))) | ((with_reducible show wpAny _ _ (getMethod (Value.ref _) "update" _) _ _ _); (refine' gm_update (by assumption) ?t ?_; (case t => wtm_at "take"))) | ((with_reducible show wpAny _ _ (truthy (Value.bool _)) _ _ _); refine wpAny_truthy_bool ?_) | ((with_reducible show wpAny _ _ (compareOp CmpOp.IsNot _ Value.none) _ _ _); refine isNot_none ?_) | ((with_reducible show wpAny _ _ (getAttr (Value.ref _) _ _) _ _ _); wtm_at "getA") | ((with_reducible show wpAny _ _ (setAttr (Value.ref _) _ _) _ _ _); (refine' setG' (by assumption) ?g ?t1 ?t2 ?p ?z ?_; (case g => first | with_reducible exact gset_adj | with_reducible exact gset_node | with_reducible exact gset_pred | with_reducible exact gset_graph); (case t1 => wtm_at "take"); (case t2 => wtm_at "take"); (case p => wtm_at "putk"); (case z => simp); wtm_at "sS")))
local macro_rules | `(tactic| wtm_at "getA") => `(tactic| (refine' getG2 (by assumption) ?g ?t1 ?t2 ?v ?d ?_; (case g => first | with_reducible exact gattr_adj | with_reducible exact gattr_node | with_reducible exact gattr_pred | with_reducible exact gattr_graph); (case t1 => wtm_at "take"); (case t2 => wtm_at "take"); (case v => wtm_at "at"); (case d => exact rfl); wtm_at "sS"))
local macro_rules | `(tactic| wtm_at "dI0") => `(tactic| (refine dictI0 (by assumption) ?_; wtm_at "saS"))
local macro_rules | `(tactic| wtm_at "dS0") => `(tactic| (refine dictS0 (by assumption) ?_; wtm_at "saS"))
local macro_rules | `(tactic| wtm_at "k") => `(tactic| ((with_reducible show (Frag.In _ _ ∧ wpAny _ _ _ _ _ _)); refine ⟨St.K (by assumption), ?_⟩))
local macro_rules | `(tactic| wtm_at "if") => `(tactic| ((with_reducible show ite _ _ _); first | refine ite_T (by decide) ?_ | refine ite_F (by decide) ?_ | refine ite_F (by exact Bool.false_ne_true) ?_ | refine ite_T (by exact rfl) ?_))
local macro_rules | `(tactic| wtm_at "w") => `(tactic| first | wtm_at "if" | wtm_at "k" | wtm_at "s" | wtm_at "e" | wtm_at "v")
local macro_rules | `(tactic| wtm_at "super") => `(tactic| (refine' super_node (by assumption) ?t ?t1 ?t2 (by exact rfl) rfl ?hv (by exact rfl) (by exact rfl) (by kernel_rfl) (by exact rfl) (by exact rfl) (by kernel_rfl) (by kernel_rfl) (by decide) (by rfl) (by rfl) (by rfl) (by rfl) (by kernel_rfl) ?_; (case t => wtm_at "take"); (case hv => wtm_at "mem"); (case t1 => wtm_at "take"); (case t2 => wtm_at "take"); wtm_at "soS"))
set_option hygiene false in
local macro_rules | `(tactic| wtm_at "soS") => `(tactic| (clear S; intro so s S))
local macro_rules | `(tactic| wtm_at "sattr") => `(tactic| (refine' super_attr (by assumption) ?t ?t1 ?t2 (by kernel_rfl) ?m ?ty (by rfl) ?_; (case t => wtm_at "take"); (case t1 => wtm_at "take"); (case t2 => wtm_at "take"); (case m => exact rfl); (case ty => exact rfl); wtm_at "soS"))
local macro_rules | `(tactic| wtm_at "ws") => `(tactic| repeat (wtm_at "w"))

theorem graph_init {c : Cx} {A : Around} {s : Shared} {P R : List HP} {k : Nat} {x dx pd : Addr} {Rr : Result → Shared → Prop} (S : St c P s) (rm : Rm A (k + 3)) (tk : Takes [pt x (instObj 420 dx), dS c dx [("_pred", .ref pd)]] P R)
  (h : ∀ s' gd nd ad, St c ([pt x (instObj 420 dx), dS c dx [("_pred", .ref pd), ("graph", .ref gd), ("_node", .ref nd), ("_adj", .ref ad)], dS c gd [], dI c nd [], dI c ad []] ++ R) s' → Rr (.ok (.ret .none)) s') :
    codeAny c.M A (.call (.ref 165) ⟨[.ref x, .none], []⟩) Rr s := by
  replace S := S.takes tk
  refine' call_kw (pre := [("self", .ref x), ("incoming_graph_data", .none)]) (kwn := "attr") (kw := []) S rm (by exact rfl) (by rfl) ?hb rfl ?oth ?nd ?_
  case hb =>
    intro A' E' Q hQ
    have hf : ∃ o, s.heap.get? 158 = some o ∧ ∃ n its, o.data = .seq its n ∧ its = #[.none] := by
      refine ⟨_, S.K _ _ (by exact rfl), _, _, rfl, rfl⟩
    obtain ⟨o, h1, n, its, h2, rfl⟩ := hf
    refine wpAny_bind (m := seqItems? (.ref 158)) (wpAny_seqItems h1 h2 ?_)
    show wpAny c.M A' (alloc { cls := .type "dict", data := .dict #[] } >>= fun d => pure ([(Str.ofString "self", Value.ref x), (Str.ofString "incoming_graph_data", Value.none)] ++ [(Str.ofString "attr", Value.ref d)])) Q E' s
    refine wpAny_bind (alloc_dS S fun s' d S' => ?_)
    exact wpAny_pure (hQ _ _ S')
  case oth => wtm_at "oth"
  case nd => exact rfl
  clear S; intro A L d s rm hh S env
  simp only [boundF, List.map_cons, List.map_nil, List.cons_append, List.nil_append, List.append_nil] at S
  refine wpAt_of_wpAny ?_
  wtm_at "ws"
  wtm_at "dS0"
  wtm_at "ws"
  wtm_at "dI0"
  wtm_at "ws"
  wtm_at "dI0"
  wtm_at "ws"
  refine' h _ _ _ _ ?z
  case z => wtm_at "fin"

theorem di_init {c : Cx} {A : Around} {s : Shared} {P R : List HP} {k : Nat} {x dx : Addr} {Rr : Result → Shared → Prop} (S : St c P s) (rm : Rm A (k + 6)) (tk : Takes [pt x (instObj 420 dx), dS c dx []] P R)
  (h : ∀ s' gd nd ad pd, St c ([pt x (instObj 420 dx), dS c dx [("_pred", .ref pd), ("graph", .ref gd), ("_node", .ref nd), ("_adj", .ref ad)], dS c gd [], dI c nd [], dI c ad [], dI c pd []] ++ R) s' → Rr (.ok (.ret .none)) s') :
    codeAny c.M A (.call (.ref 345) ⟨[.ref x], []⟩) Rr s := by
  replace S := S.takes tk
  refine' call_kw (pre := [("self", .ref x), ("incoming_graph_data", .none)]) (kwn := "attr") (kw := []) S rm (by exact rfl) (by rfl) ?hb rfl ?oth ?nd ?_
  case hb =>
    intro A' E' Q hQ
    have hf : ∃ o, s.heap.get? 337 = some o ∧ ∃ n its, o.data = .seq its n ∧ its = #[.none] := by
      refine ⟨_, S.K _ _ (by exact rfl), _, _, rfl, rfl⟩
    obtain ⟨o, h1, n, its, h2, rfl⟩ := hf
    refine wpAny_bind (m := seqItems? (.ref 337)) (wpAny_seqItems h1 h2 ?_)
    show wpAny c.M A' (alloc { cls := .type "dict", data := .dict #[] } >>= fun d => pure ([(Str.ofString "self", Value.ref x), (Str.ofString "incoming_graph_data", Value.none)] ++ [(Str.ofString "attr", Value.ref d)])) Q E' s
    refine wpAny_bind (alloc_dS S fun s' d S' => ?_)
    exact wpAny_pure (hQ _ _ S')
  case oth => wtm_at "oth"
  case nd => exact rfl
  clear S; intro A L d s rm hh S env
  simp only [boundF, List.map_cons, List.map_nil, List.cons_append, List.nil_append, List.append_nil] at S
  refine ks_wpAt_execs_cons (wpAt_of_wpAny ?_)
  wtm_at "ws"
  wtm_at "dI0"
  wtm_at "ws"
  dsimp only
  refine ks_wpAt_execs_cons (ks_wpAt_Expr_any (wpAt_MethodCallDD ?_))
  wtm_at "super"
  wtm_at "sattr"
  refine callWith_dd ?_
  wtm_at "ws"
  refine ⟨_, S, ?_⟩
  clear S; intro s d2 S
  refine wpAny_bind ?_
  wtm_at "ws"
  refine wpAny_bind (wpAny_standAt (wpAny_pure ?_))
  refine' dd_fin S ?u1 ?u2 ?u3 ?u4 ?u5
  case u1 => wtm_at "take"
  case u2 => wtm_at "take"
  case u3 => wtm_at "take"
  case u4 => exact rfl
  refine' graph_init (k := k + 1) S (rm.le (by omega)) ?u7 ?_
  case u7 => wtm_at "takes"
  clear S; intro s gd nd ad S
  simp only [List.cons_append, List.nil_append] at S
  dsimp only
  refine wpAt_of_wpAny ?_
  wtm_at "ws"
  dsimp only
  refine' h _ _ _ _ _ ?u8
  case u8 => wtm_at "fin"

/-! families of regions -/
def fam {ι : Type} (l : List ι) (f : ι → HP) : HP := all (l.map f)
theorem take_map {ι : Type} [DecidableEq ι] {f : ι → HP} {u : ι} : ∀ {l : List ι}, u ∈ l → Take (f u) (l.map f) ((l.erase u).map f)
  | x :: r, h => by
    by_cases e : x = u
    · subst e; rw [List.erase_cons_head]; exact .head
    · rw [List.erase_cons_tail (by simpa using e)]
      exact .tail (take_map ((List.mem_cons.mp h).resolve_left fun q => e q.symm))
theorem Take.famAt {ι : Type} [DecidableEq ι] {l : List ι} {f : ι → HP} {u : ι} {R : List HP} (hu : u ∈ l) : Take (f u) (Mine.fam l f :: R) (Mine.fam (l.erase u) f :: R) := Take.fam (take_map hu)
theorem Take.famAt2 {ι : Type} [DecidableEq ι] {l : List ι} {f : ι → HP} {u : ι} {R : List HP} {X : HP} (e : f u = X) (hu : u ∈ l) : Take X (Mine.fam l f :: R) (Mine.fam (l.erase u) f :: R) := e ▸ Take.famAt hu
theorem fam_congr {ι : Type} {l : List ι} {f g : ι → HP} (h : ∀ i ∈ l, f i = g i) : fam l f = fam l g := by unfold fam; rw [List.map_congr_left h]
theorem Sat.consFam {ι : Type} {l : List ι} {f : ι → HP} {u : ι} {R : List HP} {d : PH} (h : Sat (f u :: fam l f :: R) d) : Sat (fam (u :: l) f :: R) d :=
  Sat.unflat (l := (u :: l).map f) (Sat.cons_mono (fun _ k => Sat.flat k) h)
theorem Sat.permFam {ι : Type} {l l' : List ι} {f : ι → HP} {R : List HP} {d : PH} (p : l.Perm l') (h : Sat (fam l f :: R) d) : Sat (fam l' f :: R) d :=
  Sat.head_mono (fun _ k => Sat.perm (p.map f) k) h
section
variable {c : Cx} {s : Shared} {R : List HP} {ι : Type} {l : List ι} {f g : ι → HP} {u : ι} {X : HP}
theorem St.close [DecidableEq ι] (S : St c (X :: fam (l.erase u) f :: R) s) (hu : u ∈ l) (hn : l.Nodup) (hX : g u = X) (hg : ∀ i ∈ l, i ≠ u → g i = f i) : St c (fam l g :: R) s := by
  subst hX
  rw [fam_congr (l := l.erase u) (f := f) (g := g) (fun i hi => (hg i (List.mem_of_mem_erase hi) (fun e => by subst e; exact (List.Nodup.not_mem_erase hn) hi)).symm)] at S
  exact S.mono fun _ h => Sat.permFam (List.perm_cons_erase hu).symm (Sat.consFam h)
theorem St.grow (S : St c (X :: fam l f :: R) s) (hX : g u = X) (hg : ∀ i ∈ l, g i = f i) : St c (fam (l ++ [u]) g :: R) s := by
  subst hX
  rw [fam_congr (l := l) (f := f) (g := g) fun i hi => (hg i hi).symm] at S
  exact S.mono fun _ h => Sat.permFam (List.perm_append_comm (l₁ := [u])) (Sat.consFam h)
theorem St.congr (S : St c (fam l f :: R) s) (hg : ∀ i ∈ l, g i = f i) : St c (fam l g :: R) s := by
  rwa [fam_congr hg]
theorem St.back {Y : HP} (S : St c (X :: R) s) (p : ∀ d, X d → Y d) : St c (Y :: R) s := S.head_mono p
end
theorem mem_range {u n : Nat} (h : u < n) : u ∈ List.range n := List.mem_range.mpr h

structure GA where
  (g dx gd nd ad pd : Addr)
  (na aa pa : Nat → Addr)
  ea : Nat × Nat → Addr
structure GV where
  n : Nat
  el : List (Nat × Nat)
  gattr : List (Str × Value)
  nattr : Nat → List (Str × Value)
  eattr : Nat × Nat → List (Str × Value)
structure GV.Ok (V : GV) : Prop where
  nd : V.el.Nodup
  lt : ∀ e ∈ V.el, e.1 < V.n ∧ e.2 < V.n
  small : V.n ≤ 100
  few : V.el.length ≤ 1000
def succE (el : List (Nat × Nat)) (ea : Nat × Nat → Addr) (u : Nat) : List (Int × Value) := (el.filter (·.1 == u)).map fun e => ((e.2 : Int), Value.ref (ea e))
def predE (el : List (Nat × Nat)) (ea : Nat × Nat → Addr) (u : Nat) : List (Int × Value) := (el.filter (·.2 == u)).map fun e => ((e.1 : Int), Value.ref (ea e))
noncomputable abbrev graphR (c : Cx) (a : GA) (V : GV) : List HP :=
  [pt a.g (instObj 420 a.dx), dS c a.dx [("_pred", .ref a.pd), ("graph", .ref a.gd), ("_node", .ref a.nd), ("_adj", .ref a.ad)], dS c a.gd V.gattr,
   dI c a.nd (idx V.n a.na), dI c a.ad (idx V.n a.aa), dI c a.pd (idx V.n a.pa),
   fam (List.range V.n) fun i => dS c (a.na i) (V.nattr i), fam (List.range V.n) fun i => dI c (a.aa i) (succE V.el a.ea i),
   fam (List.range V.n) fun i => dI c (a.pa i) (predE V.el a.ea i), fam V.el fun e => dS c (a.ea e) (V.eattr e)]

theorem valueAt_idx {n u : Nat} {f : Nat → Addr} (h : u < n) : valueAt (idx n f) (u : Int) = some (.ref (f u)) := by
  induction n with
  | zero => omega
  | succ n ih =>
    unfold idx valueAt at *
    rw [List.range_succ, List.map_append, List.find?_append]
    by_cases e : u < n
    · have := ih e
      cases q : List.find? (fun kv => decide (kv.1 = (u : Int))) (List.map (fun (i : Nat) => ((i : Int), Value.ref (f i))) (List.range n)) with
      | none => rw [q] at this; cases this
      | some x => rw [q] at this; simpa using this
    · have : u = n := by omega
      subst this
      have : List.find? (fun kv => decide (kv.1 = (u : Int))) (List.map (fun (i : Nat) => ((i : Int), Value.ref (f i))) (List.range u)) = none := by
        rw [List.find?_eq_none]
        intro x hx
        obtain ⟨i, hi, rfl⟩ := List.mem_map.mp hx
        have := List.mem_range.mp hi
        simp; omega
      rw [this]; simp
theorem valueAt_idx_none {n u : Nat} {f : Nat → Addr} (h : n ≤ u) : valueAt (idx n f) (u : Int) = none := by
  unfold idx valueAt
  have : List.find? (fun kv => decide (kv.1 = (u : Int))) (List.map (fun (i : Nat) => ((i : Int), Value.ref (f i))) (List.range n)) = none := by
    rw [List.find?_eq_none]
    intro x hx
    obtain ⟨i, hi, rfl⟩ := List.mem_map.mp hx
    have := List.mem_range.mp hi
    simp; omega
  rw [this]; rfl
theorem stored_idx {n : Nat} {f : Nat → Addr} {x : Addr} : stored (idx n f) (n : Int) (.ref x) = idx (n + 1) (fun i => if i = n then x else f i) := by
  have h0 : ¬ ((idx n f).any fun kv => decide (kv.1 = (n : Int))) = true := by
    rw [List.any_eq_true]
    rintro ⟨y, hy, h⟩
    obtain ⟨i, hi, rfl⟩ := List.mem_map.mp hy
    have := List.mem_range.mp hi
    simp at h; omega
  unfold stored
  rw [if_neg h0]
  unfold idx
  rw [List.range_succ, List.map_append]
  simp only [List.map_cons, List.map_nil, if_true]
  rw [List.append_cancel_right_eq]
  refine List.map_congr_left fun i hi => ?_
  have := List.mem_range.mp hi
  rw [if_neg (by omega)]
theorem valueAt_map_of {α : Type} (l : List α) (k : α → Nat) (f : α → Addr) (v : Nat) : valueAt (l.map fun e => ((k e : Int), Value.ref (f e))) (v : Int) = (l.find? fun e => k e == v).map fun e => .ref (f e) := by
  unfold valueAt
  induction l with
  | nil => rfl
  | cons x r ih =>
    simp only [List.map_cons, List.find?_cons]
    by_cases e : k x = v
    · simp [e]
    · have h2 : ¬ (k x : Int) = v := by omega
      have h3 : (k x == v) = false := by simpa using e
      rw [h3, decide_eq_false h2]
      exact ih
theorem find_el {el : List (Nat × Nat)} {u v : Nat} : ((el.filter (·.1 == u)).find? fun e => e.2 == v) = if (u, v) ∈ el then some (u, v) else none := by
  rw [List.find?_filter]
  split
  · rename_i h
    induction el with
    | nil => cases h
    | cons x r ih =>
      obtain ⟨a, b⟩ := x
      by_cases e : a = u ∧ b = v
      · obtain ⟨rfl, rfl⟩ := e; simp
      · rw [List.find?_cons_of_neg (by simpa using e)]
        refine (ih ?_)
        rcases List.mem_cons.mp h with q | q
        · cases q; exact absurd ⟨rfl, rfl⟩ e
        · exact q
  · rename_i h
    rw [List.find?_eq_none]
    rintro ⟨a, b⟩ hx q
    simp at q
    obtain ⟨rfl, rfl⟩ := q
    exact h hx
theorem find_el2 {el : List (Nat × Nat)} {u v : Nat} : ((el.filter (·.2 == v)).find? fun e => e.1 == u) = if (u, v) ∈ el then some (u, v) else none := by
  rw [List.find?_filter]
  split
  · rename_i h
    induction el with
    | nil => cases h
    | cons x r ih =>
      obtain ⟨a, b⟩ := x
      by_cases e : b = v ∧ a = u
      · obtain ⟨rfl, rfl⟩ := e; simp
      · rw [List.find?_cons_of_neg (by simpa using e)]
        refine (ih ?_)
        rcases List.mem_cons.mp h with q | q
        · cases q; exact absurd ⟨rfl, rfl⟩ e
        · exact q
  · rename_i h
    rw [List.find?_eq_none]
    rintro ⟨a, b⟩ hx q
    simp at q
    obtain ⟨rfl, rfl⟩ := q
    exact h hx
theorem valueAt_succE {el : List (Nat × Nat)} {ea : Nat × Nat → Addr} {u v : Nat} : valueAt (succE el ea u) (v : Int) = if (u, v) ∈ el then some (.ref (ea (u, v))) else none := by
  unfold succE
  rw [valueAt_map_of, find_el]
  split <;> rfl
theorem valueAt_predE {el : List (Nat × Nat)} {ea : Nat × Nat → Addr} {u v : Nat} : valueAt (predE el ea v) (u : Int) = if (u, v) ∈ el then some (.ref (ea (u, v))) else none := by
  unfold predE
  rw [valueAt_map_of, find_el2]
  split <;> rfl
theorem stored_same {K : Type} [DecidableEq K] {kvs : List (K × Value)} {k : K} {v : Value} (hn : (kvs.map (·.1)).Nodup) (h : valueAt kvs k = some v) : stored kvs k v = kvs := by
  induction kvs with
  | nil => cases h
  | cons x r ih =>
    obtain ⟨y, w⟩ := x
    simp only [List.map_cons, List.nodup_cons] at hn
    by_cases e : y = k
    · subst e
      simp [valueAt] at h
      subst h
      simp only [stored, List.any_cons, decide_true, Bool.true_or, if_true, List.map_cons]
      rw [map_store_of_not_mem r y w hn.1]
    · have h' : valueAt r k = some v := by simpa [valueAt, List.find?_cons, e] using h
      have := ih hn.2 h'
      unfold stored at this ⊢
      have a : (r.any fun kv => decide (kv.1 = k)) = true := by
        rw [List.any_eq_true]
        obtain ⟨z, hz, _⟩ := Option.map_eq_some_iff.mp h'
        exact ⟨z, List.mem_of_find?_eq_some hz, by simpa using List.find?_some hz⟩
      rw [if_pos a] at this
      rw [if_pos (by simp [a])]
      simp only [List.map_cons, e, if_false]
      rw [this]
theorem stored_new {K : Type} [DecidableEq K] {kvs : List (K × Value)} {k : K} {v : Value} (h : valueAt kvs k = none) : stored kvs k v = kvs ++ [(k, v)] := by
  unfold stored
  rw [if_neg]
  intro a
  rw [List.any_eq_true] at a
  obtain ⟨x, hx, hk⟩ := a
  have : kvs.find? (fun kv => decide (kv.1 = k)) = none := by simpa [valueAt] using h
  rw [List.find?_eq_none] at this
  exact this x hx hk
theorem succE_append {el : List (Nat × Nat)} {ea : Nat × Nat → Addr} {u v i : Nat} {x : Addr} (h : (u, v) ∉ el) :
    succE (el ++ [(u, v)]) (fun e => if e = (u, v) then x else ea e) i = if i = u then succE el ea u ++ [((v : Int), .ref x)] else succE el ea i := by
  have key : ∀ j, ((el.filter (·.1 == j)).map fun e => ((e.2 : Int), Value.ref (if e = (u, v) then x else ea e))) = succE el ea j := by
    intro j
    unfold succE
    refine List.map_congr_left fun e he => ?_
    rw [if_neg]
    rintro rfl
    exact h (List.mem_filter.mp he).1
  unfold succE
  rw [List.filter_append, List.map_append, key]
  by_cases e : i = u
  · subst e; simp [succE]
  · have : (u == i) = false := by simp; omega
    simp [this, e, succE]
theorem predE_append {el : List (Nat × Nat)} {ea : Nat × Nat → Addr} {u v i : Nat} {x : Addr} (h : (u, v) ∉ el) :
    predE (el ++ [(u, v)]) (fun e => if e = (u, v) then x else ea e) i = if i = v then predE el ea v ++ [((u : Int), .ref x)] else predE el ea i := by
  have key : ∀ j, ((el.filter (·.2 == j)).map fun e => ((e.1 : Int), Value.ref (if e = (u, v) then x else ea e))) = predE el ea j := by
    intro j
    unfold predE
    refine List.map_congr_left fun e he => ?_
    rw [if_neg]
    rintro rfl
    exact h (List.mem_filter.mp he).1
  unfold predE
  rw [List.filter_append, List.map_append, key]
  by_cases e : i = v
  · subst e; simp [predE]
  · have : (v == i) = false := by simp; omega
    simp [this, e, predE]
theorem succE_length {el ea u} : (succE el ea u).length ≤ el.length := by unfold succE; rw [List.length_map]; exact List.length_filter_le _ _
theorem predE_length {el ea u} : (predE el ea u).length ≤ el.length := by unfold predE; rw [List.length_map]; exact List.length_filter_le _ _
section
variable {c : Cx} {s : Shared} {P P1 P2 : List HP} {ι : Type} [DecidableEq ι] {l : List ι} {f : ι → HP} {u : ι}
theorem St.shut (S : St c P s) (g : ι → HP) (t2 : Take (fam (l.erase u) f) P P1) (t1 : Take (g u) P1 P2) (hu : u ∈ l) (hn : l.Nodup) (hg : ∀ i ∈ l, i ≠ u → g i = f i) : St c (fam l g :: P2) s :=
  St.close (X := g u) (((S.takes (.cons t2 (.cons t1 .nil)))).mono fun _ => Sat.swap) hu hn rfl hg
theorem St.shut0 (S : St c P s) (t2 : Take (fam (l.erase u) f) P P1) (t1 : Take (f u) P1 P2) (hu : u ∈ l) (hn : l.Nodup) : St c (fam l f :: P2) s := S.shut f t2 t1 hu hn fun _ _ _ => rfl
end
theorem St.growP {c : Cx} {s : Shared} {P P1 P2 : List HP} {n : Nat} {f : Nat → HP} {X : HP} (S : St c P s) (t2 : Take (fam (List.range n) f) P P1) (t1 : Take X P1 P2) (g : Nat → HP) (hX : g n = X) (hg : ∀ i < n, g i = f i) : St c (fam (List.range (n + 1)) g :: P2) s := by
  rw [List.range_succ]
  exact St.grow (u := n) (((S.takes (.cons t2 (.cons t1 .nil)))).mono fun _ => Sat.swap) hX fun i hi => hg i (List.mem_range.mp hi)
theorem St.growE {c : Cx} {s : Shared} {P P1 P2 : List HP} {ι : Type} {l : List ι} {u : ι} {f : ι → HP} {X : HP} (S : St c P s) (t2 : Take (fam l f) P P1) (t1 : Take X P1 P2) (g : ι → HP) (hX : g u = X) (hg : ∀ i ∈ l, g i = f i) : St c (fam (l ++ [u]) g :: P2) s :=
  St.grow (u := u) (((S.takes (.cons t2 (.cons t1 .nil)))).mono fun _ => Sat.swap) hX hg
theorem succE_nil {el ea} {n : Nat} (h : ∀ e ∈ el, e.1 < n) : succE el ea n = [] := by
  unfold succE
  rw [List.filter_eq_nil_iff.mpr, List.map_nil]
  intro e he
  have := h e he
  simp; omega
theorem predE_nil {el ea} {n : Nat} (h : ∀ e ∈ el, e.2 < n) : predE el ea n = [] := by
  unfold predE
  rw [List.filter_eq_nil_iff.mpr, List.map_nil]
  intro e he
  have := h e he
  simp; omega
/-- a graph with one node more -/
def GA.more (a : GA) (n : Nat) (x1 x2 x3 : Addr) : GA := { a with na := fun i => if i = n then x1 else a.na i, aa := fun i => if i = n then x2 else a.aa i, pa := fun i => if i = n then x3 else a.pa i }
def GV.more (V : GV) : GV := { V with n := V.n + 1, nattr := fun i => if i = V.n then [] else V.nattr i }

end Mine
namespace Mine
local macro_rules | `(tactic| wtm_at "oth") => `(tactic| repeat' (first | apply Oth.nil | (apply Oth.par; (exact rfl)) | apply Oth.new | apply Oth.skip))
local macro_rules | `(tactic| wtm_at "memf") => `(tactic| first | with_reducible assumption | exact mem_range (by assumption) | exact mem_range (by omega))
local macro_rules | `(tactic| wtm_at "take") => `(tactic| ((repeat (first | with_reducible exact Take.head | (refine' Take.famAt2 ?e ?h; (case e => with_reducible exact rfl); (case h => wtm_at "memf")) | apply Take.tail)); done))
local macro_rules | `(tactic| wtm_at "vat") => `(tactic| first | with_reducible assumption | exact valueAt_idx (by first | assumption | omega) | exact (At.val (by wtm_at "at")))
local macro_rules | `(tactic| wtm_at "len") => `(tactic| first | (simp [idx_length]; done) | (simp [idx_length]; omega) | omega)
local macro_rules | `(tactic| wtm_at "takes") => `(tactic| first | exact Takes.nil | (refine' Takes.cons ?a ?b; (case a => wtm_at "take"); (case b => wtm_at "takes")))
local macro_rules | `(tactic| wtm_at "drop") => `(tactic| ((repeat (first | exact Drop.refl | apply Drop.skip)); done))
local macro_rules | `(tactic| wtm_at "cov") => `(tactic| first | (refine' Cov.cons ?a ?b; (case a => wtm_at "take"); (case b => wtm_at "cov")) | (refine Cov.nil ?_; wtm_at "drop"))
local macro_rules | `(tactic| wtm_at "fin") => `(tactic| (refine' St.cov (by assumption) ?a; (case a => wtm_at "cov")))
local macro_rules | `(tactic| wtm_at "mem") => `(tactic| ((repeat (first | with_reducible exact List.mem_cons_self | apply List.mem_cons_of_mem)); done))
local macro_rules | `(tactic| wtm_at "put") => `(tactic| ((repeat (first | with_reducible exact Put.here | apply Put.there)); done))
local macro_rules | `(tactic| wtm_at "at") => `(tactic| first | with_reducible assumption | ((repeat (first | with_reducible exact At.here | (apply At.there; (exact rfl)))); done))
local macro_rules | `(tactic| wtm_at "putk") => `(tactic| ((repeat (first | exact PutK.nil | with_reducible exact PutK.here | (apply PutK.there; (exact rfl)))); done))
set_option hygiene false in
local macro_rules | `(tactic| wtm_at "sS") => `(tactic| (clear S; intro s S))
set_option hygiene false in
local macro_rules | `(tactic| wtm_at "stS") => `(tactic| (clear S; intro s t S))
set_option hygiene false in
local macro_rules | `(tactic| wtm_at "saS") => `(tactic| (clear S; intro s nw S))
set_option hygiene false in
local macro_rules | `(tactic| wtm_at "svS") => `(tactic| (clear S; intro s vw S))
set_option hygiene false in
local macro_rules | `(tactic| wtm_at "sitS") => `(tactic| (clear S; intro s it S))
set_option hygiene false in
local macro_rules | `(tactic| wtm_at "siteS") => `(tactic| (clear S; intro s it ep S))
local macro_rules | `(tactic| wtm_at "ld") => `(tactic| first | (refine' ld (by assumption) ?t ?g ?_ rfl rfl (by decide); (case t => wtm_at "take"); (case g => wtm_at "mem")) | (refine' ldG (by assumption) ?e ?_ rfl rfl (by decide); (case e => wtm_at "gl")) | (refine' ldB (by assumption) ?e ?hv (by decide) ?_ rfl rfl (by decide); (case e => exact rfl); (case hv => wtm_at "bt")) | (refine' ldC (by assumption) ?q ?t ?_ rfl rfl (by decide); (case q => exact rfl); (case t => wtm_at "take")) | (refine' ldF (by assumption) ?q ?t ?_ rfl rfl (by decide) (by decide); (case q => exact rfl); (case t => wtm_at "take")))
local macro_rules | `(tactic| wtm_at "bt") => `(tactic| first | with_reducible exact bt_isinstance | with_reducible exact bt_iter | with_reducible exact bt_next | with_reducible exact bt_len | with_reducible exact bt_min | with_reducible exact bt_max | with_reducible exact bt_sum | with_reducible exact bt_callable | with_reducible exact bt_sorted | with_reducible exact bt_abs | with_reducible exact bt_getattr | with_reducible exact bt_list | with_reducible exact bt_range | with_reducible exact bt_float | with_reducible exact bt_int | with_reducible exact bt_bool | with_reducible exact bt_str | with_reducible exact bt_dict | with_reducible exact bt_tuple | with_reducible exact bt_super)
local macro_rules | `(tactic| wtm_at "gl") => `(tactic| first | with_reducible exact gl_Graph _ | with_reducible exact gl_EdgeView _ | with_reducible exact gl_DiGraph _ | with_reducible exact gl_CurrentEdge _ | with_reducible exact gl_build_residual_network _ | with_reducible exact gl__capacity_function _ | with_reducible exact gl_shortest_augmenting_path_impl _ | with_reducible exact gl_shortest_augmenting_path _ | with_reducible exact gl__law_cuts _ | with_reducible exact gl__law_spread _ | with_reducible exact gl_deque _)
local macro_rules | `(tactic| wtm_at "st") => `(tactic| first | (refine' st (by assumption) ?t ?p ?_ rfl rfl; (case t => wtm_at "take"); (case p => wtm_at "put"); wtm_at "sS") | (refine' stC (by assumption) ?q ?t ?_ rfl rfl; (case q => exact rfl); (case t => wtm_at "take"); wtm_at "sS"))
local macro_rules | `(tactic| wtm_at "s") => `(tactic| first | ((with_reducible show wpAny _ _ (execs _ _) _ _ _); first | ((with_reducible show wpAny _ _ (execs (_ :: _) _) _ _ _); refine wpAny_execs_cons ?_) | ((with_reducible show wpAny _ _ (execs [] _) _ _ _); refine wpAny_execs_nil ?_)) | ((with_reducible show wpAny _ _ (exec _ _) _ _ _); first | ((with_reducible show wpAny _ _ (exec (Stmt.Assign [Expr.Name _ _] _ _) _) _ _ _); refine wpAny_Assign_Name ?_) | ((with_reducible show wpAny _ _ (exec (Stmt.Assign [Expr.Attribute _ _ _] _ _) _) _ _ _); refine plainObj_wpAny_Assign_Attribute ?_) | ((with_reducible show wpAny _ _ (exec (Stmt.Assign [Expr.Subscript _ _ _] _ _) _) _ _ _); refine wpAny_Assign_Subscript ?_) | ((with_reducible show wpAny _ _ (exec (Stmt.Assign [Expr.Tuple _ _ _] _ _) _) _ _ _); first | refine Assign_Tuple ?_ | refine Assign_Tuple_swapped ?_ rfl rfl) | ((with_reducible show wpAny _ _ (exec (Stmt.Return (some _) _) _) _ _ _); refine wpAny_Return_some ?_) | ((with_reducible show wpAny _ _ (exec (Stmt.Expr _ _) _) _ _ _); refine wpAny_Expr ?_) | ((with_reducible show wpAny _ _ (exec (Stmt.If _ _ _ _) _) _ _ _); refine wpAny_If ?_) | ((with_reducible show wpAny _ _ (exec (Stmt.For _ _ _ _ _) _) _ _ _); refine wpAny_For ?_)))
local macro_rules | `(tactic| wtm_at "e") => `(tactic| first | ((with_reducible show wpAny _ _ (eval _ _) _ _ _); first | ((with_reducible show wpAny _ _ (eval (Expr.Name _ _) _) _ _ _); wtm_at "ld") | ((with_reducible show wpAny _ _ (eval (Expr.Constant (Const.int _) _ _) _) _ _ _); (refine cI (by assumption) ?_; wtm_at "stS")) | ((with_reducible show wpAny _ _ (eval (Expr.Constant (Const.str _) _ _) _) _ _ _); (refine cS (by assumption) ?_; wtm_at "stS")) | ((with_reducible show wpAny _ _ (eval (Expr.Constant (Const.bool _) _ _) _) _ _ _); refine wpAny_Constant_bool ?_) | ((with_reducible show wpAny _ _ (eval (Expr.Constant Const.none _ _) _) _ _ _); refine wpAny_Constant_none ?_) | ((with_reducible show wpAny _ _ (eval (Expr.Attribute (Expr.Name _ _) _ _) _) _ _ _); refine Attribute_name ?_) | ((with_reducible show wpAny _ _ (eval (Expr.Subscript _ _ _) _) _ _ _); refine Subscript_ ?_) | ((with_reducible show wpAny _ _ (eval (Expr.Compare _ [_] [_] _) _) _ _ _); refine wpAny_Compare1 ?_) | ((with_reducible show wpAny _ _ (eval (Expr.BoolOp BoolOp.And _ _) _) _ _ _); refine wpAny_And2 ?_) | ((with_reducible show wpAny _ _ (eval (Expr.IfExp _ _ _ _) _) _ _ _); refine wpAny_IfExp ?_) | ((with_reducible show wpAny _ _ (eval (Expr.Call (Expr.Attribute _ _ _) _ [] _) _) _ _ _); refine MethodCall_ ?_) | ((with_reducible show wpAny _ _ (eval (Expr.Call (Expr.Attribute _ _ _) _ (_ :: _) _) _) _ _ _); refine methodCall_KW ?_) | ((with_reducible show wpAny _ _ (eval (Expr.Call (Expr.Name _ _) _ [] _) _) _ _ _); refine Call_ ?_) | ((with_reducible show wpAny _ _ (eval (Expr.Tuple _ _ _) _) _ _ _); refine Tuple_ ?_) | ((with_reducible show wpAny _ _ (eval (Expr.List _ _) _) _ _ _); refine List_ ?_)) | ((with_reducible show wpAny _ _ (isTrue _ _ _) _ _ _); first | ((with_reducible show wpAny _ _ (isTrue (Expr.Compare _ [_] [_] _) _ _) _ _ _); refine wpAny_isTrue_Compare1 ?_) | ((with_reducible show wpAny _ _ (isTrue (Expr.UnaryOp UnaryOp.Not _ _) _ _) _ _ _); refine wpAny_isTrue_Not ?_) | ((with_reducible show wpAny _ _ (isTrue (Expr.Name _ _) _ _) _ _ _); refine wpAny_isTrue_value ?_) | ((with_reducible show wpAny _ _ (isTrue (Expr.Call _ _ _ _) _ _) _ _ _); refine wpAny_isTrue_value ?_)) | ((with_reducible show wpAny _ _ (spliced (backTo _ (starEach [] _))) _ _ _); refine args_nil ?_) | ((with_reducible show wpAny _ _ (spliced (backTo _ (starEach (_ :: _) _))) _ _ _); refine args_cons ?_))
local macro_rules | `(tactic| wtm_at "v") => `(tactic| first | ((with_reducible show wpAny _ _ (callWith _ _ _ _ _) _ _ _); first | ((with_reducible show wpAny _ _ (callWith _ (Value.builtin _) _ (backTo _ (starEach (_ :: _) _)) []) _ _ _); refine callB ?_) | ((with_reducible show wpAny _ _ (callWith _ (Value.builtin _) _ (backTo _ (starEach [] _)) []) _ _ _); refine callB0 ?_) | ((with_reducible show wpAny _ _ (callWith _ (Value.type _) _ (backTo _ (starEach (_ :: _) _)) []) _ _ _); refine PyProof.Rows.callWith_type1 ?_) | ((with_reducible show wpAny _ _ (callWith _ (Value.ref _) _ (backTo _ (starEach (_ :: _) _)) []) _ _ _); refine callF (by assumption) (by exact rfl) ?_) | ((with_reducible show wpAny _ _ (callWith _ (Value.ref _) _ (backTo _ (starEach (_ :: _) _)) (backToKw _ (keywordEach (_ :: _) _))) _ _ _); refine callFk (by assumption) (by exact rfl) ?_)) | ((with_reducible show wpAny _ _ (call _ _ _) _ _ _); first | ((with_reducible show wpAny _ _ (call _ ([] ++ _) _) _ _ _); refine call_app0 ?_) | ((with_reducible show wpAny _ _ (call _ ([_] ++ _) _) _ _ _); refine call_app1 ?_) | ((with_reducible show wpAny _ _ (call (Value.builtin "dict.update") [Value.ref _, Value.ref _]) _ _ _); first | (refine' dS_update0 (by assumption) ?tt ?z ?_; (case tt => wtm_at "takes"); (case z => wtm_at "len"); wtm_at "sS") | (refine' dS_update1 (by assumption) ?tt ?z ?_; (case tt => wtm_at "takes"); (case z => wtm_at "len"); wtm_at "sS")) | ((with_reducible show wpAny _ _ (call (Value.builtin "dict.get") [Value.ref _, Value.int _ _, _]) _ _ _); (refine' dI_get2 (by assumption) ?t ?_; (case t => wtm_at "take"); wtm_at "sS")) | ((with_reducible show wpAny _ _ (call (Value.builtin "dict.get") [Value.ref _, Value.str _ _, _]) _ _ _); (refine' dS_get2 (by assumption) ?t ?_; (case t => wtm_at "take"); wtm_at "sS")) | ((with_reducible show wpAny _ _ (call (Value.builtin "list.append") [Value.ref _, _]) _ _ _); (refine' l_append (by assumption) ?t ?z ?_; (case t => wtm_at "take"); (case z => wtm_at "len"); wtm_at "sS")) | ((with_reducible show wpAny _ _ (call (Value.builtin "dict.items") [Value.ref _]) _ _ _); (refine' d_items (by assumption) ?t ?_; (case t => wtm_at "take"); wtm_at "svS")) | ((with_reducible show wpAny _ _ (call (Value.builtin "iter") [_]) _ _ _); refine iter_of ?_)) | ((with_reducible show wpAny _ _ (unpackItems (Value.ref _) _ none) _ _ _); (refine' unp (by assumption) ?hA ?t ?n ?_; (case t => wtm_at "take"); (case n => exact rfl); (case hA => assumption); wtm_at "sS")) | ((with_reducible show wpAny _ _ (assignInOrder _ _) _ _ _); refine ain2 ?_) | ((with_reducible show wpAny _ _ (bindName _ _ _) _ _ _); refine wpAny_bindName ?_) | ((with_reducible show wpAny _ _ (evalAll (List.map _ (backToKw _ (keywordEach (_ :: _) _)))) _ _ _); refine kws_cons ?_) | ((with_reducible show wpAny _ _ (evalAll (List.map _ (backToKw _ (keywordEach [] _)))) _ _ _); refine kws_nil ?_) | ((with_reducible show wpAny _ _ (getMethod _ _ _) _ _ _); first | ((with_reducible show wpAny _ _ (getMethod (Value.ref _) "get" _) _ _ _); (refine' gm_get (by assumption) ?t ?_; (case t => wtm_at "take"))) | ((with_reducible show wpAny _ _ (getMethod (Value.ref _) "update" _) _ _ _); (refine' gm_update (by assumption) ?t ?_; (case t => wtm_at "take"))) | ((with_reducible show wpAny _ _ (getMethod (Value.ref _) "items" _) _ _ _); (refine' gm_items (by assumption) ?t ?_; (case t => wtm_at "take"))) | ((with_reducible show wpAny _ _ (getMethod (Value.ref _) "append" _) _ _ _); (refine' gm_append (by assumption) ?t ?_; (case t => wtm_at "take"))) | ((with_reducible show wpAny _ _ (getMethod (Value.ref _) _ _) _ _ _); (refine' getGM (by assumption) ?g ?t1 ?t2 ?z ?_; (case g => first | with_reducible exact gme_add_node | with_reducible exact gme_add_nodes_from | with_reducible exact gme_add_edge | with_reducible exact gme_remove_edge | with_reducible exact gme_has_edge | with_reducible exact gme_is_multigraph | with_reducible exact gme_is_directed | with_reducible exact gme_edge_rows); (case t1 => wtm_at "take"); (case t2 => wtm_at "take"); (case z => exact rfl)))) | ((with_reducible show wpAny _ _ (storeName _ _ _) _ _ _); wtm_at "st") | ((with_reducible show wpAny _ _ (assign _ _ _) _ _ _); first | ((with_reducible show wpAny _ _ (assign (Expr.Name _ _) _ _) _ _ _); refine assign_Name ?_) | ((with_reducible show wpAny _ _ (assign (Expr.Tuple [_, _] _ _) _ (Value.ref _)) _ _ _); (refine' asg2 (by assumption) ?hA ?t ?_; (case t => wtm_at "take"); (case hA => assumption); wtm_at "sS")) | ((with_reducible show wpAny _ _ (assign (Expr.Tuple [_, _, _] _ _) _ (Value.ref _)) _ _ _); (refine' asg3 (by assumption) ?hA ?t ?_; (case t => wtm_at "take"); (case hA => assumption); wtm_at "sS"))) | ((with_reducible show wpAny _ _ (pyIter (Value.ref _)) _ _ _); first | (refine' l_iter (by assumption) ?t ?_; (case t => wtm_at "take"); wtm_at "sitS") | (refine' i_iter (by assumption) ?tt ?_; (case tt => wtm_at "takes"); wtm_at "siteS") | (refine' v_iter (by assumption) ?tt ?_; (case tt => wtm_at "takes"); wtm_at "siteS")) | ((with_reducible show wpAny _ _ (truthy (Value.bool _)) _ _ _); refine wpAny_truthy_bool ?_) | ((with_reducible show wpAny _ _ (subscriptTail _ _ (Value.ref _) (Value.int _ _)) _ _ _); first | (refine' dI_sub (by assumption) ?t ?v ?_ (by with_unfolding_all rfl); (case t => wtm_at "take"); (case v => wtm_at "vat"); wtm_at "sS") | (refine' l_sub (by assumption) ?t ?h0 ?hz ?hx ?_ (by with_unfolding_all rfl); (case t => wtm_at "take"); rotate_left 3)) | ((with_reducible show wpAny _ _ (setItem _ _ _) _ _ _); first | ((with_reducible show wpAny _ _ (setItem (Value.ref _) (Value.int _ _) _) _ _ _); first | (refine' dI_set (by assumption) ?t ?z ?_; (case t => wtm_at "take"); (case z => wtm_at "len"); wtm_at "sS") | (refine' l_set (by assumption) ?t ?h0 ?hz ?hz2 ?_; (case t => wtm_at "take"); rotate_left 3; wtm_at "sS")) | ((with_reducible show wpAny _ _ (setItem (Value.ref _) (Value.str _ _) _) _ _ _); (refine' dS_set (by assumption) ?t ?z ?_; (case t => wtm_at "take"); (case z => wtm_at "len"); wtm_at "sS"))) | ((with_reducible show wpAny _ _ (compareOp _ _ _) _ _ _); first | ((with_reducible show wpAny _ _ (compareOp CmpOp.In (Value.int _ _) (Value.ref _)) _ _ _); (refine' dI_in (by assumption) ?t ?_; (case t => wtm_at "take"); wtm_at "sS")) | ((with_reducible show wpAny _ _ (compareOp CmpOp.NotIn (Value.int _ _) (Value.ref _)) _ _ _); (refine' dI_notin (by assumption) ?t ?_; (case t => wtm_at "take"); wtm_at "sS")) | ((with_reducible show wpAny _ _ (compareOp CmpOp.Is _ Value.none) _ _ _); refine is_none ?_)) | ((with_reducible show wpAny _ _ (newList _) _ _ _); (refine' l_new (by assumption) ?z ?_; (case z => (simp; done)); wtm_at "saS")) | ((with_reducible show wpAny _ _ (newTuple _) _ _ _); (refine' t_new (by assumption) ?z ?_; (case z => (simp; done)); wtm_at "saS")) | ((with_reducible show wpAny _ _ (getAttr (Value.ref _) _ _) _ _ _); wtm_at "getA") | ((with_reducible show wpAny _ _ (setAttr (Value.ref _) _ _) _ _ _); (refine' setG' (by assumption) ?g ?t1 ?t2 ?p ?z ?_; (case g => first | with_reducible exact gset_adj | with_reducible exact gset_node | with_reducible exact gset_pred | with_reducible exact gset_graph); (case t1 => wtm_at "take"); (case t2 => wtm_at "take"); (case p => wtm_at "putk"); (case z => simp); wtm_at "sS")))
local macro_rules | `(tactic| wtm_at "getA") => `(tactic| (refine' getG2 (by assumption) ?g ?t1 ?t2 ?v ?d ?_; (case g => first | with_reducible exact gattr_adj | with_reducible exact gattr_node | with_reducible exact gattr_pred | with_reducible exact gattr_graph); (case t1 => wtm_at "take"); (case t2 => wtm_at "take"); (case v => wtm_at "at"); (case d => exact rfl); wtm_at "sS"))
local macro_rules | `(tactic| wtm_at "dI0") => `(tactic| (refine dictI0 (by assumption) ?_; wtm_at "saS"))
local macro_rules | `(tactic| wtm_at "dS0") => `(tactic| (refine dictS0 (by assumption) ?_; wtm_at "saS"))
local macro_rules | `(tactic| wtm_at "k") => `(tactic| ((with_reducible show (Frag.In _ _ ∧ wpAny _ _ _ _ _ _)); refine ⟨St.K (by assumption), ?_⟩))
local macro_rules | `(tactic| wtm_at "if") => `(tactic| ((with_reducible show ite _ _ _); first | refine ite_T (by decide) ?_ | refine ite_F (by decide) ?_ | refine ite_F (by exact Bool.false_ne_true) ?_ | refine ite_T (by exact rfl) ?_))
local macro_rules | `(tactic| wtm_at "w") => `(tactic| first | wtm_at "if" | wtm_at "k" | wtm_at "s" | wtm_at "e" | wtm_at "v")
local macro_rules | `(tactic| wtm_at "super") => `(tactic| (refine' super_node (by assumption) ?t ?t1 ?t2 (by exact rfl) rfl ?hv (by exact rfl) (by exact rfl) (by kernel_rfl) (by exact rfl) (by exact rfl) (by kernel_rfl) (by kernel_rfl) (by decide) (by rfl) (by rfl) (by rfl) (by rfl) (by kernel_rfl) ?_; (case t => wtm_at "take"); (case hv => wtm_at "mem"); (case t1 => wtm_at "take"); (case t2 => wtm_at "take"); wtm_at "soS"))
set_option hygiene false in
local macro_rules | `(tactic| wtm_at "soS") => `(tactic| (clear S; intro so s S))
local macro_rules | `(tactic| wtm_at "sattr") => `(tactic| (refine' super_attr (by assumption) ?t ?t1 ?t2 (by kernel_rfl) ?m ?ty (by rfl) ?_; (case t => wtm_at "take"); (case t1 => wtm_at "take"); (case t2 => wtm_at "take"); (case m => exact rfl); (case ty => exact rfl); wtm_at "soS"))
local macro_rules | `(tactic| wtm_at "ws") => `(tactic| repeat (wtm_at "w"))
set_option hygiene false in
local macro_rules | `(tactic| wtm_at "hk") => `(tactic| (intro n x hx; (repeat (rcases List.mem_cons.mp hx with rfl | hx; focus (first | exact Or.inl rfl | exact Or.inr ⟨rfl, rfl⟩))); cases hx))
set_option hygiene false in
local macro_rules | `(tactic| wtm_at "centerC") => `(tactic| ((case oth => wtm_at "oth"); (case nd => exact rfl); (case hk => wtm_at "hk"); clear S; intro A L s rm hh S env; (first | replace hA := hh.trans hA | skip); simp only [boundF, List.map_cons, List.map_nil, List.cons_append, List.nil_append, List.append_nil] at S))
set_option hygiene false in
local macro_rules | `(tactic| wtm_at "kenter") => `(tactic| ((case oth => wtm_at "oth"); (case nd => exact rfl); clear S; intro A L d s rm hh S env; (first | replace hA := hh.trans hA | skip); simp only [boundF, List.map_cons, List.map_nil, List.cons_append, List.nil_append, List.append_nil] at S; refine wpAt_of_wpAny ?_))
set_option hygiene false in
local macro_rules | `(tactic| wtm_at "enter") => `(tactic| ((case oth => wtm_at "oth"); (case nd => exact rfl); clear S; intro A L s rm hh S env; (first | replace hA := hh.trans hA | skip); simp only [boundF, List.map_cons, List.map_nil, List.cons_append, List.nil_append, List.append_nil] at S))

theorem kwarg0 {c : Cx} {A' : Around} {E' : Value → Shared → Prop} {P : List HP} {s : Shared} {pre : List (Str × Value)} {n : Str} {Q : List (Str × Value) → Shared → Prop} (S : St c P s) (hQ : ∀ s' d, St c (dS c d [] :: P) s' → Q (pre ++ [(n, .ref d)]) s') :
    wpAny c.M A' (alloc { cls := .type "dict", data := .dict #[] } >>= fun d => pure (pre ++ [(n, Value.ref d)])) Q E' s :=
  wpAny_bind (alloc_dS S fun s' d S' => wpAny_pure (hQ _ _ S'))
theorem gadd_new {c : Cx} {A : Around} {s : Shared} {P R : List HP} {k n u : Nat} {t1 : Tok} {x dx nd ad : Addr} {kvs : List (Str × Value)} {na aa : Nat → Addr} {Rr : Result → Shared → Prop} (S : St c P s) (rm : Rm A (k + 3)) (hk : At kvs "_node" (.ref nd) ∧ At kvs "_adj" (.ref ad))
  (hn : n ≤ 100) (hu : u = n) (tk : Takes [pt x (instObj 420 dx), dS c dx kvs, dI c nd (idx n na), dI c ad (idx n aa)] P R)
  (h : ∀ s' x1 x2, St c ([pt x (instObj 420 dx), dS c dx kvs, dI c nd (idx (n + 1) fun i => if i = n then x1 else na i), dI c ad (idx (n + 1) fun i => if i = n then x2 else aa i), dS c x1 [], dI c x2 []] ++ R) s' → Rr (.ok (.ret .none)) s') :
    codeAny c.M A (.call (.ref 224) ⟨[.ref x, .int u t1], []⟩) Rr s := by
  obtain ⟨hk1, hk2⟩ := hk
  subst hu
  replace S := S.takes tk
  refine' call_kw (pre := [("self", .ref x), ("node_for_adding", .int u t1)]) (kwn := "attr") (kw := []) S rm (by exact rfl) (by rfl) ?hb rfl ?oth ?nd ?_
  case hb =>
    intro A' E' Q hQ
    exact kwarg0 S hQ
  case oth => wtm_at "oth"
  case nd => exact rfl
  clear S; intro A L d s rm hh S env
  simp only [boundF, List.map_cons, List.map_nil, List.cons_append, List.nil_append, List.append_nil] at S
  refine wpAt_of_wpAny ?_
  wtm_at "ws"
  refine ite_T (by rw [valueAt_idx_none (Nat.le_refl _)]; rfl) ?_
  wtm_at "ws"
  wtm_at "dI0"
  wtm_at "ws"
  wtm_at "dS0"
  wtm_at "ws"
  simp only [stored_idx] at S
  refine' dI_sub (by assumption) ?t1 ?v1 ?_ (by with_unfolding_all rfl)
  case t1 => wtm_at "take"
  case v1 => exact valueAt_idx (Nat.lt_succ_self _)
  simp only [if_true]
  wtm_at "sS"
  wtm_at "ws"
  refine' h _ _ _ ?z
  case z => wtm_at "fin"
theorem gadd_old {c : Cx} {A : Around} {s : Shared} {P R : List HP} {k n u : Nat} {t1 : Tok} {x dx nd : Addr} {kvs : List (Str × Value)} {na : Nat → Addr} {nv : Nat → List (Str × Value)} {Rr : Result → Shared → Prop} (S : St c P s) (rm : Rm A (k + 3)) (hk1 : At kvs "_node" (.ref nd))
  (hn : ∀ u < n, (nv u).length ≤ 100) (hu : u < n) (tk : Takes [pt x (instObj 420 dx), dS c dx kvs, dI c nd (idx n na), fam (List.range n) fun i => dS c (na i) (nv i)] P R)
  (h : ∀ s', St c ([pt x (instObj 420 dx), dS c dx kvs, dI c nd (idx n na), fam (List.range n) fun i => dS c (na i) (nv i)] ++ R) s' → Rr (.ok (.ret .none)) s') :
    codeAny c.M A (.call (.ref 224) ⟨[.ref x, .int u t1], []⟩) Rr s := by
  have hlen := hn u hu
  replace S := S.takes tk
  refine' call_kw (pre := [("self", .ref x), ("node_for_adding", .int u t1)]) (kwn := "attr") (kw := []) S rm (by exact rfl) (by rfl) ?hb rfl ?oth ?nd ?_
  case hb =>
    intro A' E' Q hQ
    exact kwarg0 S hQ
  case oth => wtm_at "oth"
  case nd => exact rfl
  clear S; intro A L d s rm hh S env
  simp only [boundF, List.map_cons, List.map_nil, List.cons_append, List.nil_append, List.append_nil] at S
  refine wpAt_of_wpAny ?_
  wtm_at "ws"
  refine ite_F (by rw [valueAt_idx hu]; simp) ?_
  wtm_at "ws"
  replace S := S.shut0 (l := List.range n) (f := fun i => dS c (na i) (nv i)) (u := u) (by wtm_at "take") (by wtm_at "take") (mem_range hu) List.nodup_range
  refine' h _ ?z
  case z => wtm_at "fin"

theorem di_add_new {c : Cx} {A : Around} {s : Shared} {P R : List HP} {k u : Nat} {t1 : Tok} {a : GA} {V : GV} {Rr : Result → Shared → Prop} (S : St c P s) (rm : Rm A (k + 6)) (ok : V.Ok) (hn : V.n < 100) (hu : u = V.n) (tk : Takes (graphR c a V) P R)
  (h : ∀ s' x1 x2 x3, St c (graphR c (a.more V.n x1 x2 x3) V.more ++ R) s' → Rr (.ok (.ret .none)) s') :
    codeAny c.M A (.call (.ref 377) ⟨[.ref a.g, .int u t1], []⟩) Rr s := by
  have hz1 := ok.small
  subst hu
  replace S := S.takes tk
  refine' call_kw (pre := [("self", .ref a.g), ("node_for_adding", .int V.n t1)]) (kwn := "attr") (kw := []) S rm (by exact rfl) (by rfl) ?hb rfl ?oth ?nd ?_
  case hb =>
    intro A' E' Q hQ
    exact kwarg0 S hQ
  case oth => wtm_at "oth"
  case nd => exact rfl
  clear S; intro A L d s rm hh S env
  simp only [boundF, List.map_cons, List.map_nil, List.cons_append, List.nil_append, List.append_nil] at S
  refine ks_wpAt_execs_cons (ks_wpAt_Expr_any (wpAt_MethodCallDD ?_))
  wtm_at "super"
  wtm_at "sattr"
  refine callWith_dd ?_
  wtm_at "ws"
  refine ⟨_, S, ?_⟩
  clear S; intro s d2 S
  refine wpAny_bind ?_
  wtm_at "ws"
  refine wpAny_bind (wpAny_standAt (wpAny_pure ?_))
  refine' dd_fin S ?u1 ?u2 ?u3 ?u4 ?u5
  case u1 => wtm_at "take"
  case u2 => wtm_at "take"
  case u3 => wtm_at "take"
  case u4 => exact rfl
  refine' gadd_new (k := k + 1) (kvs := [("_pred", .ref a.pd), ("graph", .ref a.gd), ("_node", .ref a.nd), ("_adj", .ref a.ad)]) (n := V.n) (nd := a.nd) (ad := a.ad) (na := a.na) (aa := a.aa) S (rm.le (by omega)) ⟨by wtm_at "at", by wtm_at "at"⟩ ok.small rfl ?u7 ?_
  case u7 => wtm_at "takes"
  clear S; intro s x1 x2 S
  simp only [List.cons_append, List.nil_append] at S
  dsimp only
  refine wpAt_of_wpAny ?_
  wtm_at "ws"
  refine ite_T (by rw [valueAt_idx_none (Nat.le_refl _)]; rfl) ?_
  wtm_at "ws"
  wtm_at "dI0"
  wtm_at "ws"
  simp only [stored_idx] at S
  have e1 := succE_nil (el := V.el) (ea := a.ea) (n := V.n) fun e he => (ok.lt e he).1
  have e2 := predE_nil (el := V.el) (ea := a.ea) (n := V.n) fun e he => (ok.lt e he).2
  replace S := S.growP (f := fun i => dS c (a.na i) (V.nattr i)) (X := dS c x1 []) (by wtm_at "take") (by wtm_at "take") (fun i => dS c ((a.more V.n x1 x2 nw).na i) (V.more.nattr i)) (by simp [GA.more, GV.more]) (fun i hi => by simp [GA.more, GV.more, Nat.ne_of_lt hi])
  replace S := S.growP (f := fun i => dI c (a.aa i) (succE V.el a.ea i)) (X := dI c x2 []) (by wtm_at "take") (by wtm_at "take") (fun i => dI c ((a.more V.n x1 x2 nw).aa i) (succE V.el a.ea i)) (by simp [GA.more, e1]) (fun i hi => by simp [GA.more, Nat.ne_of_lt hi])
  replace S := S.growP (f := fun i => dI c (a.pa i) (predE V.el a.ea i)) (X := dI c nw []) (by wtm_at "take") (by wtm_at "take") (fun i => dI c ((a.more V.n x1 x2 nw).pa i) (predE V.el a.ea i)) (by simp [GA.more, e2]) (fun i hi => by simp [GA.more, Nat.ne_of_lt hi])
  wtm_at "ws"
  refine' h _ x1 x2 nw ?z
  case z =>
    dsimp only [GA.more, GV.more] at S ⊢
    wtm_at "fin"
theorem di_add_old {c : Cx} {A : Around} {s : Shared} {P R : List HP} {k u : Nat} {t1 : Tok} {a : GA} {V : GV} {Rr : Result → Shared → Prop} (S : St c P s) (rm : Rm A (k + 6)) (ok : V.Ok) (hl : ∀ u < V.n, (V.nattr u).length ≤ 100) (hu : u < V.n) (tk : Takes (graphR c a V) P R)
  (h : ∀ s', St c (graphR c a V ++ R) s' → Rr (.ok (.ret .none)) s') :
    codeAny c.M A (.call (.ref 377) ⟨[.ref a.g, .int u t1], []⟩) Rr s := by
  have hz1 := ok.small
  replace S := S.takes tk
  refine' call_kw (pre := [("self", .ref a.g), ("node_for_adding", .int u t1)]) (kwn := "attr") (kw := []) S rm (by exact rfl) (by rfl) ?hb rfl ?oth ?nd ?_
  case hb =>
    intro A' E' Q hQ
    exact kwarg0 S hQ
  case oth => wtm_at "oth"
  case nd => exact rfl
  clear S; intro A L d s rm hh S env
  simp only [boundF, List.map_cons, List.map_nil, List.cons_append, List.nil_append, List.append_nil] at S
  refine ks_wpAt_execs_cons (ks_wpAt_Expr_any (wpAt_MethodCallDD ?_))
  wtm_at "super"
  wtm_at "sattr"
  refine callWith_dd ?_
  wtm_at "ws"
  refine ⟨_, S, ?_⟩
  clear S; intro s d2 S
  refine wpAny_bind ?_
  wtm_at "ws"
  refine wpAny_bind (wpAny_standAt (wpAny_pure ?_))
  refine' dd_fin S ?u1 ?u2 ?u3 ?u4 ?u5
  case u1 => wtm_at "take"
  case u2 => wtm_at "take"
  case u3 => wtm_at "take"
  case u4 => exact rfl
  refine' gadd_old (k := k + 1) (kvs := [("_pred", .ref a.pd), ("graph", .ref a.gd), ("_node", .ref a.nd), ("_adj", .ref a.ad)]) (n := V.n) (nd := a.nd) (na := a.na) (nv := V.nattr) S (rm.le (by omega)) (by wtm_at "at") hl hu ?u7 ?_
  case u7 => wtm_at "takes"
  clear S; intro s S
  simp only [List.cons_append, List.nil_append] at S
  dsimp only
  refine wpAt_of_wpAny ?_
  wtm_at "ws"
  refine ite_F (by rw [valueAt_idx hu]; simp) ?_
  wtm_at "ws"
  refine' h _ ?z
  case z => wtm_at "fin"

theorem MethodCallDD {M : Model} {A : Around} {E : Value → Shared → Prop} {s : Shared} {env : Env} {o : Expr} {name : Str} {apos pos : Pos} {args : List Expr} {kws : List Keyword} {Q : Value → Shared → Prop}
    (h : wpAny M A (eval o env) (fun ov s₁ => wpAny M A (getAttr ov name true) (fun f s₂ => wpAny M A (callWith pos f [] (backTo pos (starEach args env)) (backToKw pos (keywordEach kws env))) Q E s₂) E s₁) E s)
    (hf : methodCallForm (args.length + kws.length) (backTo pos (starEach args env)) (backToKw pos (keywordEach kws env)) = false := by rfl)
    (he : eval (.Call (.Attribute o name apos) args kws pos) env = (do
      let ov ← eval o env
      standAt apos.atName
      methodCall o name apos pos env ov (args.length + kws.length) (backTo pos (starEach args env)) (backToKw pos (keywordEach kws env))) := by rfl) :
    wpAny M A (eval (.Call (.Attribute o name apos) args kws pos) env) Q E s := by
  rw [he]
  refine wpAny_bind (wpAny_mono h (fun ov s₁ h₁ => wpAny_bind (wpAny_standAt ?_)) fun _ _ x => x)
  unfold methodCall calleeOf methodCallPos
  rw [hf]
  simp only [Bool.false_eq_true, if_false, Bool.not_false, Bool.true_or, if_true]
  refine wpAny_bind (wpAny_holding (wpAny_bind (wpAny_mono h₁ (fun f s₂ h₂ => wpAny_pure ?_) fun _ _ x => x)))
  exact wpAny_bind (wpAny_pure h₂)
def GBound (C : Addr) (name : Str) (f : Addr) : Prop := ∀ P : Params, hasDictIn (hd.heap_39 P) C = true ∧ plainGet (hd.heap_39 P) C name = true ∧ findIn (hd.heap_39 P) (.ref C) name = some (some (.ref f)) ∧ specialIn (hd.heap_39 P) (.ref f) "__get__" = some (some (.builtin "function.__get__")) ∧
  takesIn (hd.heap_39 P) (.ref f) = some false ∧ copiedNames.contains name = false ∧ typeIn (hd.heap_39 P) (.ref f) = some (.type "function")
theorem gb_add_node : GBound 420 "add_node" 377 := fun P => ⟨by kernel_rfl, by kernel_rfl, by kernel_rfl, by kernel_rfl, by kernel_rfl, by kernel_rfl, by kernel_rfl⟩
section
variable {c : Cx} {A : Around} {E : Value → Shared → Prop} {s : Shared} {P R R1 R2 : List HP} {x C dx f : Addr} {kvs : List (Str × Value)} {name : Str} {v : Value}
theorem getBM {expr : Bool} {Q : Value → Shared → Prop} (S : St c P s) (hg : GBound C name f) (t1 : Take (pt x (instObj C dx)) P R1) (t2 : Take (dS c dx kvs) P R2) (hl : valueAt kvs name = none)
    (h : ∀ q s', St c (metR q f x :: P) s' → Q (.ref q) s') : wpAny c.M A (getAttr (.ref x) name expr) Q E s := by
  obtain ⟨h1, h2, h3, h4, h5, h6, h7⟩ := hg c.w.params
  obtain ⟨od, I, hl'⟩ := inst_at S t1 t2
  refine get_bind S.K I (plainGet_of h2).1 (findObj_fn h1 h3 h4 h5 h6 (by rw [hl', hl])) (plainGet_of h2).2 (wpAny_call (fn_get (s := { s with toks := s.toks + 1 }) S.K h7 ?_))
  have S2 := St.alloc (o := methodObj (.ref f) (.ref x)) (X := metR s.heap.objs.size f x) (S.tok (t := s.toks + 1)) rfl one_self
  exact wpAny_pure (h _ _ S2)
end
structure Source (c : Cx) (v : Value) (n : Nat) (Src : List HP) : Prop where
  iter : ∀ (B : Around) (P : List HP) (s : Shared) (Q : Value → Shared → Prop), Rm B 4 → B.handled = none → St c (Src ++ P) s →
    (∀ s' it I Vp O Fin, Iter c B it n I Vp O Fin → (∀ i v, Vp i v → ∃ t, v = .int i t) → (∀ i v, O i v = I (i + 1)) → (∀ P d, Sat (Fin ++ P) d → Sat (Src ++ P) d) → St c (I 0 ++ P) s' → Q it s') → wpAny c.M B (pyIter v) Q NoE s

theorem add_nodes {c : Cx} {A : Around} {s : Shared} {P R Src : List HP} {k n : Nat} {v : Value} {a : GA} {V : GV} {Rr : Result → Shared → Prop} (S : St c P s) (rm : Rm A (k + 10)) (hh : A.handled = none) (tk : Takes (graphR c a V ++ [all Src]) P R) (X : Source c v n Src) (hV : V.n = 0) (hel : V.el = []) (hn : n ≤ 90)
  (h : ∀ s' a' V', a'.g = a.g → V'.n = n → V'.el = [] → V'.gattr = V.gattr → (∀ i < n, V'.nattr i = []) → St c (graphR c a' V' ++ (all Src :: R)) s' → Rr (.ok (.ret .none)) s') :
    codeAny c.M A (.call (.ref 231) ⟨[.ref a.g, v], []⟩) Rr s := by
  replace S := S.takes tk
  have hh0 := hh
  refine' call_kw (pre := [("self", .ref a.g), ("nodes_for_adding", v)]) (kwn := "attr") (kw := []) S rm (by exact rfl) (by rfl) ?hb rfl ?oth ?nd ?_
  case hb =>
    intro A' E' Q hQ
    exact kwarg0 S hQ
  case oth => wtm_at "oth"
  case nd => exact rfl
  clear S; intro A L d s rm hh S env
  rw [hh0] at hh
  simp only [boundF, List.map_cons, List.map_nil, List.cons_append, List.nil_append, List.append_nil] at S
  refine wpAt_of_wpAny ?_
  wtm_at "ws"
  have S2 : St c (Src ++ (frm L [("self", some (.ref a.g)), ("nodes_for_adding", some v), ("attr", some (.ref d)), ("n", none)] :: dS c d [] :: (graphR c a V ++ R))) s := by
    refine St.flat ?_
    refine' St.drops (R' := R) (R := R) (Xs := all Src :: frm L [("self", some (.ref a.g)), ("nodes_for_adding", some v), ("attr", some (.ref d)), ("n", none)] :: dS c d [] :: graphR c a V) S ?zz1 Drop.refl
    case zz1 => wtm_at "takes"
  refine X.iter _ _ _ _ (rm.le (by omega)) hh S2 fun s it I Vp O Fin Y hVp hO hFin S => ?_
  refine for_rule (Ex := fun _ _ => []) Y (fun i P' => ∃ a' V' nv, a'.g = a.g ∧ V'.n = i ∧ V'.el = [] ∧ V'.gattr = V.gattr ∧ (∀ i < V'.n, V'.nattr i = []) ∧
    P' = frm L [("self", some (.ref a.g)), ("nodes_for_adding", some v), ("attr", some (.ref d)), ("n", nv)] :: dS c d [] :: (graphR c a' V' ++ R)) S ⟨a, V, none, rfl, hV, hel, rfl, fun i hi => by omega, rfl⟩ ?_ ?_ ?_
  · intro i v P' s hv S Q hq
    exact own_name (hq _ (by rw [hO] at S; exact S))
  · rintro i hi _ s w ⟨a', V', nv, ha, hn', he, hg, hna, rfl⟩ hw S
    obtain ⟨t, rfl⟩ := hVp _ _ hw
    replace S := S.unflat
    simp only [List.cons_append, List.nil_append] at S
    rw [← ha] at S
    wtm_at "ws"
    refine MethodCallDD ?_
    wtm_at "ws"
    refine' getBM (by assumption) gb_add_node ?zz2 ?zz3 ?zzl ?_
    case zz2 => wtm_at "take"
    case zz3 => wtm_at "take"
    case zzl => exact rfl
    wtm_at "soS"
    wtm_at "ws"
    refine callWith_dd ?_
    wtm_at "ws"
    refine ⟨_, S, ?_⟩
    clear S; intro s d2 S
    refine wpAny_bind ?_
    wtm_at "ws"
    refine wpAny_bind (wpAny_standAt (wpAny_pure ?_))
    refine' dd_fin S ?zz4 ?zz5 ?zz6 ?zz7 ?zz8
    case zz4 => wtm_at "take"
    case zz5 => wtm_at "take"
    case zz6 => wtm_at "take"
    case zz7 => exact rfl
    refine' di_add_new (k := k + 1) (u := i) (a := a') (V := V') S (rm.le (by omega)) ?ok (by omega) hn'.symm ?zz9 ?_
    case ok => exact ⟨by rw [he]; exact List.nodup_nil, by rw [he]; simp, by omega, by rw [he]; simp⟩
    case zz9 => wtm_at "takes"
    clear S; intro s x1 x2 x3 S
    dsimp only
    wtm_at "ws"
    dsimp only
    refine ⟨_, ⟨a'.more V'.n x1 x2 x3, V'.more, some (.int i t), ha, by simp [GV.more, hn'], he, hg, ?_, rfl⟩, ?_⟩
    · intro i hi
      simp only [GV.more] at hi ⊢
      split
      · rfl
      · exact hna _ (by omega)
    · refine St.flat ?_
      simp only [List.cons_append, List.nil_append] at S ⊢
      rw [← ha]
      wtm_at "fin"
  · rintro _ s ⟨a', V', nv, ha, hn', he, hg, hna, rfl⟩ S
    have S3 := (S.mono (hFin _)).unflat
    simp only [List.cons_append, List.nil_append] at S3
    wtm_at "ws"
    refine' h _ a' V' ha hn' he hg (by rw [← hn']; exact hna) ?zza
    case zza => wtm_at "fin"

theorem kwarg1 {c : Cx} {A' : Around} {E' : Value → Shared → Prop} {P : List HP} {s : Shared} {pre : List (Str × Value)} {n key : Str} {w : Value} {Q : List (Str × Value) → Shared → Prop} (S : St c P s) (hQ : ∀ s' d, St c (dS c d [(key, w)] :: P) s' → Q (pre ++ [(n, .ref d)]) s') :
    wpAny c.M A' (alloc { cls := .type "dict", data := .dict #[] } >>= fun d => (forIn [(key, w)] PUnit.unit fun x _ => do nsSet d x.1 x.2; pure (ForInStep.yield PUnit.unit)) >>= fun _ => pure (pre ++ [(n, Value.ref d)])) Q E' s := by
  refine wpAny_bind (alloc_dS S fun s' d S' => ?_)
  refine wpAny_bind ?_
  rw [List.forIn_cons]
  refine wpAny_bind (wpAny_bind (nsSet_dS S' .head (by simp) fun s' S2 => ?_))
  refine wpAny_pure ?_
  simp only [List.forIn_nil]
  exact wpAny_pure (wpAny_pure (hQ _ _ S2))
theorem St.shutX {c : Cx} {s : Shared} {P P1 P2 : List HP} {ι : Type} [DecidableEq ι] {l : List ι} {f : ι → HP} {u : ι} {X : HP} (S : St c P s) (g : ι → HP) (t2 : Take (fam (l.erase u) f) P P1) (t1 : Take X P1 P2) (hX : g u = X) (hu : u ∈ l) (hn : l.Nodup) (hg : ∀ i ∈ l, i ≠ u → g i = f i) : St c (fam l g :: P2) s :=
  St.close (X := X) (((S.takes (.cons t2 (.cons t1 .nil)))).mono fun _ => Sat.swap) hu hn hX hg
/-- an edge is laid -/
def GA.edge (a : GA) (e : Nat × Nat) (x : Addr) : GA := { a with ea := fun i => if i = e then x else a.ea i }
def GV.put (V : GV) (e : Nat × Nat) (w : Value) : GV := { V with el := if e ∈ V.el then V.el else V.el ++ [e], eattr := fun i => if i = e then (if e ∈ V.el then stored (V.eattr e) "capacity" w else [("capacity", w)]) else V.eattr i }
theorem GA.edge_self (a : GA) (e : Nat × Nat) : a.edge e (a.ea e) = a := by
  unfold GA.edge
  cases a
  simp only [GA.mk.injEq, true_and]
  funext i
  split <;> simp_all
theorem di_add_edge {c : Cx} {A : Around} {s : Shared} {P R : List HP} {k u v : Nat} {t1 t2 : Tok} {w : Value} {a : GA} {V : GV} {Rr : Result → Shared → Prop} (S : St c P s) (rm : Rm A (k + 10)) (hA : A.handled = c.hx) (ok : V.Ok) (hl : ∀ u < V.n, (V.nattr u).length ≤ 100) (hl2 : ∀ e ∈ V.el, (V.eattr e).length ≤ 100)
  (hu : u < V.n) (hv : v < V.n) (tk : Takes (graphR c a V) P R)
  (h : ∀ s' x, St c (graphR c (a.edge (u, v) x) (V.put (u, v) w) ++ R) s' → Rr (.ok (.ret .none)) s') :
    codeAny c.M A (.call (.ref 384) ⟨[.ref a.g, .int u t1, .int v t2], [("capacity", w)]⟩) Rr s := by
  have hz1 := ok.small
  have hz2 := ok.few
  have hs1 : (succE V.el a.ea u).length ≤ 1000 := Nat.le_trans succE_length hz2
  have hs2 : (predE V.el a.ea v).length ≤ 1000 := Nat.le_trans predE_length hz2
  replace S := S.takes tk
  refine' call_kw (pre := [("self", .ref a.g), ("u_of_edge", .int u t1), ("v_of_edge", .int v t2)]) (kwn := "attr") (kw := [("capacity", w)]) S rm (by exact rfl) (by rfl) ?hb rfl ?oth ?nd ?_
  case hb =>
    intro A' E' Q hQ
    exact kwarg1 S hQ
  wtm_at "kenter"
  wtm_at "ws"
  refine' wpAny_call (di_add_old (k := k + 1) (a := a) (V := V) S (rm.le (by omega)) ok hl hu ?zz1 ?_)
  case zz1 => wtm_at "takes"
  clear S; intro s S
  simp only [graphR, List.cons_append, List.nil_append] at S
  dsimp only
  wtm_at "ws"
  refine' wpAny_call (di_add_old (k := k + 1) (a := a) (V := V) S (rm.le (by omega)) ok hl hv ?zz2 ?_)
  case zz2 => wtm_at "takes"
  clear S; intro s S
  simp only [graphR, List.cons_append, List.nil_append] at S
  dsimp only
  wtm_at "ws"
  wtm_at "dS0"
  have nd1 := dR_nodup (S.get (X := dI c (a.aa u) (succE V.el a.ea u)) (by wtm_at "take"))
  have nd2 := dR_nodup (S.get (X := dI c (a.pa v) (predE V.el a.ea v)) (by wtm_at "take"))
  by_cases he : (u, v) ∈ V.el
  · have hle := hl2 _ he
    have q1 : valueAt (succE V.el a.ea u) (v : Int) = some (.ref (a.ea (u, v))) := by rw [valueAt_succE, if_pos he]
    have q2 : valueAt (predE V.el a.ea v) (u : Int) = some (.ref (a.ea (u, v))) := by rw [valueAt_predE, if_pos he]
    wtm_at "ws"
    rw [q1] at S ⊢
    simp only [Option.getD_some] at S ⊢
    wtm_at "ws"
    rw [stored_same nd1 q1, stored_same nd2 q2] at S
    replace S := S.shut0 (l := List.range V.n) (f := fun i => dI c (a.aa i) (succE V.el a.ea i)) (u := u) (by wtm_at "take") (by wtm_at "take") (mem_range hu) List.nodup_range
    replace S := S.shut0 (l := List.range V.n) (f := fun i => dI c (a.pa i) (predE V.el a.ea i)) (u := v) (by wtm_at "take") (by wtm_at "take") (mem_range hv) List.nodup_range
    replace S := S.shutX (l := V.el) (f := fun e => dS c (a.ea e) (V.eattr e)) (u := (u, v)) (X := dS c (a.ea (u, v)) (stored (V.eattr (u, v)) "capacity" w)) (fun e => dS c (a.ea e) ((V.put (u, v) w).eattr e)) (by wtm_at "take") (by wtm_at "take") (by simp [GV.put, he]) he ok.nd (fun i _ hi => by simp [GV.put, hi])
    refine' h _ (a.ea (u, v)) ?zz3
    case zz3 =>
      rw [GA.edge_self]
      simp only [GV.put, if_pos he] at S ⊢
      wtm_at "fin"
  · have q1 : valueAt (succE V.el a.ea u) (v : Int) = none := by rw [valueAt_succE, if_neg he]
    have q2 : valueAt (predE V.el a.ea v) (u : Int) = none := by rw [valueAt_predE, if_neg he]
    wtm_at "ws"
    rw [q1] at S ⊢
    simp only [Option.getD_none] at S ⊢
    wtm_at "ws"
    rw [stored_new q1, stored_new q2] at S
    replace S := S.shutX (l := List.range V.n) (f := fun i => dI c (a.aa i) (succE V.el a.ea i)) (u := u) (X := dI c (a.aa u) (succE V.el a.ea u ++ [((v : Int), .ref nw)])) (fun i => dI c (a.aa i) (succE (V.el ++ [(u, v)]) (a.edge (u, v) nw).ea i)) (by wtm_at "take") (by wtm_at "take")
      (by simp only [GA.edge, succE_append he, if_true]) (mem_range hu) List.nodup_range (fun i _ hi => by simp only [GA.edge, succE_append he, if_neg hi])
    replace S := S.shutX (l := List.range V.n) (f := fun i => dI c (a.pa i) (predE V.el a.ea i)) (u := v) (X := dI c (a.pa v) (predE V.el a.ea v ++ [((u : Int), .ref nw)])) (fun i => dI c (a.pa i) (predE (V.el ++ [(u, v)]) (a.edge (u, v) nw).ea i)) (by wtm_at "take") (by wtm_at "take")
      (by simp only [GA.edge, predE_append he, if_true]) (mem_range hv) List.nodup_range (fun i _ hi => by simp only [GA.edge, predE_append he, if_neg hi])
    replace S := S.growE (l := V.el) (u := (u, v)) (f := fun e => dS c (a.ea e) (V.eattr e)) (X := dS c nw (stored [] "capacity" w)) (by wtm_at "take") (by wtm_at "take") (fun e => dS c ((a.edge (u, v) nw).ea e) ((V.put (u, v) w).eattr e)) (by simp [GA.edge, GV.put, he, stored])
      (fun i hi => by have : i ≠ (u, v) := fun z => he (z ▸ hi); simp [GA.edge, GV.put, this])
    refine' h _ nw ?zz4
    case zz4 =>
      simp only [GA.edge, GV.put, if_neg he] at S ⊢
      wtm_at "fin"

section
variable {c : Cx} {A : Around} {E : Value → Shared → Prop} {s : Shared} {P R R1 R2 : List HP} {x dx f : Addr} {kvs : List (Str × Value)} {v : Value}
theorem iter_of {Q : Value → Shared → Prop} (h : wpAny c.M A.in1 (pyIter v) Q E s) : wpAny c.M A (call (.builtin "iter") [v]) Q E s := by
  refine call_function_entry (by decide +kernel) (by decide +kernel) kdk_entry_iter (kdk_args_iter _) ?_
  unfold Builtin.«iter»
  refine wpAny_bind (m := someArgs "iter" 1 2 _) (wpAny_of_eq (a := [v]) (by first | rfl | kernel_rfl!) ?_)
  show wpAny _ _ (pyIter v >>= _) _ _ _
  exact wpAny_bind (wpAny_mono h (fun r s' h' => wpAny_pure ⟨_, rfl, h'⟩) fun _ _ x => x)
/-- reading a dict that is being walked -/
theorem dI_subAt {kvs : List (Int × Value)} {k : Int} {tk : Tok} {a : Addr} {ep : Nat} {v : Value} {value slice : Expr} {Q : Value → Shared → Prop} (S : St c P s) (t : Take (dAt c (intKind Pg c.w) a kvs ep) P R) (hv : valueAt kvs k = some v) (hq : ∀ s', St c P s' → Q v s')
    (hs : subscripted slice false (.ref a) (.int k tk) = operate [.ref a, .int k tk] (getItem (.ref a) (.int k tk)) := by with_unfolding_all rfl) : wpAny c.M A (subscriptTail value slice (.ref a) (.int k tk)) Q E s :=
  have hm := (dR_of (dAt_dR (S.get t))).mapOf
  tail_any hm.typeIs slot_dict_getitem.lookup (wpAny_getItem_of (isI c k tk) hm hv (hq _ S.tok)) hs
end
/-! the graph's small functions -/
section
variable {c : Cx} {A : Around} {s : Shared} {P R R1 R2 : List HP} {k : Nat} {x dx nd ad pd gd : Addr} {kvs : List (Str × Value)} {n u : Nat} {na aa : Nat → Addr} {t1 : Tok} {Rr : Result → Shared → Prop}
theorem g_is_multigraph (S : St c P s) (rm : Rm A (k + 1)) (h : ∀ s', St c P s' → Rr (.ok (.ret (.bool false))) s') : codeAny c.M A (.call (.ref 309) ⟨[.ref x], []⟩) Rr s := by
  refine' call_K (binds := [("self", .ref x)]) S rm (by exact rfl) (by rfl) (BindsTo.of_eq rfl) (locs rfl) ?oth ?nd ?_
  wtm_at "enter"
  wtm_at "ws"
  exact h _ S.drop
theorem g_is_directed (S : St c P s) (rm : Rm A (k + 1)) (h : ∀ s', St c P s' → Rr (.ok (.ret (.bool true))) s') : codeAny c.M A (.call (.ref 412) ⟨[.ref x], []⟩) Rr s := by
  refine' call_K (binds := [("self", .ref x)]) S rm (by exact rfl) (by rfl) (BindsTo.of_eq rfl) (locs rfl) ?oth ?nd ?_
  wtm_at "enter"
  wtm_at "ws"
  exact h _ S.drop
theorem g_nodes (S : St c P s) (rm : Rm A (k + 1)) (t1 : Take (pt x (instObj 420 dx)) P R1) (t2 : Take (dS c dx kvs) P R2) (hk : At kvs "_node" (.ref nd)) (h : ∀ s', St c P s' → Rr (.ok (.ret (.ref nd))) s') : codeAny c.M A (.call (.ref 180) ⟨[.ref x], []⟩) Rr s := by
  refine' call_K (binds := [("self", .ref x)]) S rm (by exact rfl) (by rfl) (BindsTo.of_eq rfl) (locs rfl) ?oth ?nd ?_
  wtm_at "enter"
  refine wpAny_execs_cons (wpAny_Return_some (Attribute_name ?_))
  wtm_at "w"
  exact getG2 S gattr_node (.tail t1) (.tail t2) hk rfl fun s' S => h _ S.drop
theorem g_succ (S : St c P s) (rm : Rm A (k + 1)) (t1 : Take (pt x (instObj 420 dx)) P R1) (t2 : Take (dS c dx kvs) P R2) (hk : At kvs "_adj" (.ref nd)) (h : ∀ s', St c P s' → Rr (.ok (.ret (.ref nd))) s') : codeAny c.M A (.call (.ref 360) ⟨[.ref x], []⟩) Rr s := by
  refine' call_K (binds := [("self", .ref x)]) S rm (by exact rfl) (by rfl) (BindsTo.of_eq rfl) (locs rfl) ?oth ?nd ?_
  wtm_at "enter"
  refine wpAny_execs_cons (wpAny_Return_some (Attribute_name ?_))
  wtm_at "w"
  exact getG2 S gattr_adj (.tail t1) (.tail t2) hk rfl fun s' S => h _ S.drop
theorem g_pred (S : St c P s) (rm : Rm A (k + 1)) (t1 : Take (pt x (instObj 420 dx)) P R1) (t2 : Take (dS c dx kvs) P R2) (hk : At kvs "_pred" (.ref nd)) (h : ∀ s', St c P s' → Rr (.ok (.ret (.ref nd))) s') : codeAny c.M A (.call (.ref 368) ⟨[.ref x], []⟩) Rr s := by
  refine' call_K (binds := [("self", .ref x)]) S rm (by exact rfl) (by rfl) (BindsTo.of_eq rfl) (locs rfl) ?oth ?nd ?_
  wtm_at "enter"
  refine wpAny_execs_cons (wpAny_Return_some (Attribute_name ?_))
  wtm_at "w"
  exact getG2 S gattr_pred (.tail t1) (.tail t2) hk rfl fun s' S => h _ S.drop
theorem g_contains (S : St c P s) (rm : Rm A (k + 1)) (tk : Takes [pt x (instObj 420 dx), dS c dx kvs, dI c nd (idx n na)] P R) (hk : At kvs "_node" (.ref nd)) (hu : u < n)
    (h : ∀ s', St c ([pt x (instObj 420 dx), dS c dx kvs, dI c nd (idx n na)] ++ R) s' → Rr (.ok (.ret (.bool true))) s') : codeAny c.M A (.call (.ref 203) ⟨[.ref x, .int u t1], []⟩) Rr s := by
  replace S := S.takes tk
  refine' call_K (binds := [("self", .ref x), ("n", .int u t1)]) S rm (by exact rfl) (by rfl) (BindsTo.of_eq rfl) (locs rfl) ?oth ?nd ?_
  wtm_at "enter"
  wtm_at "ws"
  rw [valueAt_idx hu]
  refine' h _ ?zz1
  case zz1 => wtm_at "fin"
theorem g_getitem (S : St c P s) (rm : Rm A (k + 1)) (tk : Takes [pt x (instObj 420 dx), dS c dx kvs, dI c ad (idx n aa)] P R) (hk : At kvs "_adj" (.ref ad)) (hu : u < n)
    (h : ∀ s', St c ([pt x (instObj 420 dx), dS c dx kvs, dI c ad (idx n aa)] ++ R) s' → Rr (.ok (.ret (.ref (aa u)))) s') : codeAny c.M A (.call (.ref 217) ⟨[.ref x, .int u t1], []⟩) Rr s := by
  replace S := S.takes tk
  refine' call_K (binds := [("self", .ref x), ("n", .int u t1)]) S rm (by exact rfl) (by rfl) (BindsTo.of_eq rfl) (locs rfl) ?oth ?nd ?_
  wtm_at "enter"
  wtm_at "ws"
  refine' h _ ?zz1
  case zz1 => wtm_at "fin"
theorem g_len (S : St c P s) (rm : Rm A (k + 1)) (tk : Takes [pt x (instObj 420 dx), dS c dx kvs, dI c nd (idx n na)] P R) (hk : At kvs "_node" (.ref nd)) (hn : n ≤ 1000)
    (h : ∀ s' t, St c ([pt x (instObj 420 dx), dS c dx kvs, dI c nd (idx n na)] ++ R) s' → Rr (.ok (.ret (.int n t))) s') : codeAny c.M A (.call (.ref 210) ⟨[.ref x], []⟩) Rr s := by
  replace S := S.takes tk
  refine' call_K (binds := [("self", .ref x)]) S rm (by exact rfl) (by rfl) (BindsTo.of_eq rfl) (locs rfl) ?oth ?nd ?_
  wtm_at "enter"
  wtm_at "ws"
  refine' d_len (knd := intKind Pg c.w) (kvs := idx n na) S ?zz2 ?zz3 ?_
  case zz2 => wtm_at "take"
  case zz3 => rw [idx_length]; omega
  clear S; intro s t S
  rw [idx_length]
  refine' h _ _ ?zz1
  case zz1 => wtm_at "fin"
theorem g_iter (S : St c P s) (rm : Rm A (k + 1)) (tk : Takes [pt x (instObj 420 dx), dS c dx kvs, dI c nd (idx n na)] P R) (hk : At kvs "_node" (.ref nd))
    (h : ∀ s' it ep, St c ([kIt it nd 0 n ep, dAt c (intKind Pg c.w) nd (idx n na) ep, pt x (instObj 420 dx), dS c dx kvs] ++ R) s' → Rr (.ok (.ret (.ref it))) s') : codeAny c.M A (.call (.ref 196) ⟨[.ref x], []⟩) Rr s := by
  replace S := S.takes tk
  refine' call_K (binds := [("self", .ref x)]) S rm (by exact rfl) (by rfl) (BindsTo.of_eq rfl) (locs rfl) ?oth ?nd ?_
  wtm_at "enter"
  wtm_at "ws"
  refine iter_of ?_
  refine' iter_keys (knd := intKind Pg c.w) (kvs := idx n na) S ?zz2 ?_
  case zz2 => wtm_at "take"
  clear S; intro s it ep S
  rw [idx_length] at S
  simp only [List.cons_append, List.nil_append] at S
  refine' h _ _ _ ?zz1
  case zz1 => wtm_at "fin"
end
section
variable {c : Cx} {A : Around} {s : Shared} {P R R1 R2 : List HP} {k : Nat} {u v : Nat} {a : GA} {V : GV} {t1 t2 : Tok} {Rr : Result → Shared → Prop}
theorem g_has_edge (S : St c P s) (rm : Rm A (k + 1)) (hu : u < V.n) (tk : Takes (graphR c a V) P R)
  (h : ∀ s', St c (graphR c a V ++ R) s' → Rr (.ok (.ret (.bool (decide ((u, v) ∈ V.el))))) s') : codeAny c.M A (.call (.ref 274) ⟨[.ref a.g, .int u t1, .int v t2], []⟩) Rr s := by
  replace S := S.takes tk
  refine' call_K (binds := [("self", .ref a.g), ("u", .int u t1), ("v", .int v t2)]) S rm (by exact rfl) (by rfl) (BindsTo.of_eq rfl) (locs rfl) ?oth ?nd ?_
  wtm_at "enter"
  wtm_at "ws"
  refine ite_T (by rw [valueAt_idx hu]; rfl) ?_
  wtm_at "ws"
  have e : (valueAt (succE V.el a.ea u) (v : Int)).isSome = decide ((u, v) ∈ V.el) := by
    rw [valueAt_succE]; by_cases q : (u, v) ∈ V.el <;> simp [q]
  rw [e]
  refine' h _ ?zz1
  case zz1 => wtm_at "fin"
end

theorem l_ofDict {c : Cx} {A : Around} {E : Value → Shared → Prop} {s : Shared} {P R : List HP} {K : Type} {dec : DecidableEq K} {knd : KeyKind Pg c.w K} {d : Addr} {kvs : List (K × Value)} {Q : Value → Shared → Prop} (S : St c P s) (hh : A.handled = none) (t : Take (dR c knd d kvs) P R) (hz : kvs.length ≤ 10000)
    (h : ∀ s' l vs, vs.length = kvs.length → (∀ (j : Nat) v, vs[j]? = some v → ∃ k x, kvs[j]? = some (k, x) ∧ knd.is k v = true) → St c (lst l vs :: dR c knd d kvs :: R) s' → Q (.ref l) s') : wpAny c.M A (call (.type "list") [.ref d]) Q E s := by
  have hs := S.notSys t dR_owns
  obtain ⟨ep, S'⟩ := S.fixEp t
  refine kdl_call (kdl_dict (knd := knd) (ep := ep) hs) hh (S'.get0 : dAt c knd d kvs ep s.heap.get?) (by rw [sizeLine_eq]; omega) fun h' tk acc' c' hk hD hacc => ?_
  refine h _ s.heap.objs.size acc'.toList (by rw [Array.length_toList]; exact hacc.1) (fun j v e => hacc.2 j v (by rw [← Array.getElem?_toList]; exact e)) ?_
  have S2 : St c (dR c knd d kvs :: R) s := S'.anyEp .head
  refine St.tok (s := { s with heap := h' }) (t := tk) (S2.new (s' := { s with heap := h' }) (a := s.heap.objs.size) hk (Nat.le_refl _) ⟨c', ?_⟩)
  refine one_self.trans ?_
  rw [Array.toArray_toList]; exact hD
def rowT (a : GA) (p : Addr × (Nat × Nat)) : HP := fun D => ∃ t1 t2, tup p.1 [.int p.2.1 t1, .int p.2.2 t2, .ref (a.ea p.2)] D
def rowsTo (V : GV) (i : Nat) : List (Nat × Nat) := (List.range i).flatMap fun u => V.el.filter (·.1 == u)
theorem rowsTo_succ (V : GV) (i : Nat) : rowsTo V (i + 1) = rowsTo V i ++ V.el.filter (·.1 == i) := by simp [rowsTo, List.range_succ]
/-- the graph, the rows of some nodes apart -/
noncomputable abbrev graphX (c : Cx) (a : GA) (V : GV) (l : List Nat) : List HP :=
  [pt a.g (instObj 420 a.dx), dS c a.dx [("_pred", .ref a.pd), ("graph", .ref a.gd), ("_node", .ref a.nd), ("_adj", .ref a.ad)], dS c a.gd V.gattr,
   dI c a.nd (idx V.n a.na), dI c a.ad (idx V.n a.aa), dI c a.pd (idx V.n a.pa),
   fam (List.range V.n) fun i => dS c (a.na i) (V.nattr i), fam l fun i => dI c (a.aa i) (succE V.el a.ea i),
   fam (List.range V.n) fun i => dI c (a.pa i) (predE V.el a.ea i), fam V.el fun e => dS c (a.ea e) (V.eattr e)]
theorem rowsTo_len (V : GV) : ∀ i, (rowsTo V i).length ≤ i * V.el.length
  | 0 => by simp [rowsTo]
  | i + 1 => by
    have h1 := rowsTo_len V i
    have h2 : (V.el.filter (·.1 == i)).length ≤ V.el.length := List.length_filter_le _ _
    have h3 : (i + 1) * V.el.length = i * V.el.length + V.el.length := Nat.succ_mul _ _
    rw [rowsTo_succ, List.length_append, h3]
    exact Nat.add_le_add h1 h2
theorem rowsTo_small {V : GV} (ok : V.Ok) {i : Nat} (hi : i ≤ V.n) : (rowsTo V i).length ≤ 100000 := by
  have h1 := ok.small
  have := Nat.mul_le_mul (Nat.le_trans hi h1) ok.few
  exact Nat.le_trans (rowsTo_len V i) this
theorem idx_get {n : Nat} {f : Nat → Addr} {j : Nat} {k : Int} {x : Value} (h : (idx n f)[j]? = some (k, x)) : k = j ∧ j < n := by
  unfold idx at h
  rw [List.getElem?_map] at h
  obtain ⟨i, hi, e⟩ := Option.map_eq_some_iff.mp h
  obtain ⟨h1, h2⟩ := List.getElem?_eq_some_iff.mp hi
  rw [List.getElem_range] at h2
  rw [List.length_range] at h1
  cases e
  exact ⟨by rw [← h2], h1⟩
theorem isI_shape {c : Cx} {k : Int} {v : Value} (h : (intKind Pg c.w).is k v = true) : ∃ t, v = .int k t := PySem.Value.isInt_shape h
theorem succE_get {el : List (Nat × Nat)} {ea : Nat × Nat → Addr} {u j : Nat} {k : Int} {x : Value} (h : (succE el ea u)[j]? = some (k, x)) : ∃ v, (el.filter (·.1 == u))[j]? = some (u, v) ∧ k = v ∧ x = .ref (ea (u, v)) ∧ (u, v) ∈ el := by
  unfold succE at h
  rw [List.getElem?_map] at h
  obtain ⟨⟨u', v⟩, hi, e⟩ := Option.map_eq_some_iff.mp h
  have hm := List.mem_filter.mp (List.mem_of_getElem? hi)
  have : u' = u := by simpa using hm.2
  subst this
  cases e
  exact ⟨v, hi, rfl, rfl, hm.1⟩
theorem St.emp {c : Cx} {P : List HP} {s : Shared} (S : St c P s) {ι : Type} (f : ι → HP) : St c (fam [] f :: P) s := S.mono fun _ h => Sat.unflat (l := []) h
theorem zip_snoc {α β : Type} {l : List α} {m : List β} {a : α} {b : β} (h : l.length = m.length) : (l ++ [a]).zip (m ++ [b]) = l.zip m ++ [(a, b)] := by
  rw [List.zip_append h]; rfl
theorem g_edge_rows {c : Cx} {A : Around} {s : Shared} {P R : List HP} {k : Nat} {a : GA} {V : GV} {Rr : Result → Shared → Prop} (S : St c P s) (rm : Rm A (k + 4)) (hA : A.handled = c.hx) (hx : c.hx = none) (ok : V.Ok) (tk : Takes (graphR c a V) P R)
  (h : ∀ s' r (ts : List Addr), ts.length = (rowsTo V V.n).length → St c (lst r (ts.map Value.ref) :: fam (ts.zip (rowsTo V V.n)) (rowT a) :: (graphR c a V ++ R)) s' → Rr (.ok (.ret (.ref r))) s') : codeAny c.M A (.call (.ref 417) ⟨[.ref a.g, .none], []⟩) Rr s := by
  have hz1 := ok.small
  have hz2 := ok.few
  replace S := S.takes tk
  refine' call_C (binds := [("self", .ref a.g), ("nbunch", .none)]) (lb := [("nbunch", .none)]) (cb := [("self", .ref a.g)]) (cl := fun L => [("self", L + 1)]) (cv := fun L => [(L + 1, some (.ref a.g))]) S rm (by exact rfl) (by rfl) (BindsTo.of_eq rfl) rfl rfl (fun _ => rfl) (fun _ => rfl) ?hk (fun _ => rfl) rfl ?oth ?nd ?_
  wtm_at "centerC"
  have hh := hA.trans hx
  wtm_at "ws"
  refine' l_ofDict (knd := intKind Pg c.w) (kvs := idx V.n a.aa) S hh ?zz1 (by rw [idx_length]; omega) ?_
  case zz1 => wtm_at "take"
  clear S; intro s l vs hvl hvs S
  rw [idx_length] at hvl
  wtm_at "ws"
  replace S := S.emp (rowT a)
  revert it S
  intro it0 S
  refine' for_rule (Ex := fun _ _ => []) (l_walk (l := l) (vs := vs) hh) (fun i P' => ∃ (ts : List Addr) (vn vb vd : Option Value), ts.length = (rowsTo V i).length ∧
    P' = frm L [("nbunch", some .none), ("n", vn), ("nodes", some (.ref l)), ("rows", some (.ref nw)), ("nbr", vb), ("d", vd)] :: lst nw (ts.map Value.ref) :: fam (ts.zip (rowsTo V i)) (rowT a) :: cel (L + 1) (some (.ref a.g)) :: (graphR c a V ++ R))
    (S.cov ?zz2) ⟨[], none, none, none, rfl, rfl⟩ ?_ ?_ ?_
  case zz2 =>
    simp only [List.map_nil, List.zip_nil_left]
    wtm_at "cov"
  · intro i v P' s hv S Q hq
    exact own_name (hq _ S)
  · rintro i hi _ s w ⟨ts, vn, vb, vd, hts, rfl⟩ hw S
    rw [hvl] at hi
    obtain ⟨k0, x0, h1, h2⟩ := hvs _ _ hw
    obtain ⟨rfl, -⟩ := idx_get h1
    obtain ⟨t0, rfl⟩ := isI_shape h2
    simp only [List.cons_append, List.nil_append] at S
    wtm_at "ws"
    have hn0 : (succE V.el a.ea i).length = (V.el.filter (·.1 == i)).length := by simp [succE]
    refine' for_rule (i_walk (it := it) (d := a.aa i) (kvs := succE V.el a.ea i) (ep := ep) (knd := intKind Pg c.w) hh) (Ex := fun j v => [iTup c (intKind Pg c.w) (succE V.el a.ea i) j v]) (fun j P' => ∃ (ts : List Addr) (vb vd : Option Value), ts.length = (rowsTo V i ++ (V.el.filter (·.1 == i)).take j).length ∧
      P' = frm L [("nbunch", some .none), ("n", some (.int i t0)), ("nodes", some (.ref l)), ("rows", some (.ref nw)), ("nbr", vb), ("d", vd)] :: lst nw (ts.map Value.ref) :: fam (ts.zip (rowsTo V i ++ (V.el.filter (·.1 == i)).take j)) (rowT a) :: cel (L + 1) (some (.ref a.g)) ::
        (graphX c a V ((List.range V.n).erase i) ++ (lIt it0 l (i + 1) :: lst l vs :: R)))
      (S.cov ?zz3) ⟨ts, vb, vd, by simpa using hts, rfl⟩ ?_ ?_ ?_
    case zz3 =>
      simp only [List.take_zero, List.append_nil]
      wtm_at "cov"
    · exact fun j w P' s _ S Q hq => i_own S fun s' S' => hq _ S'
    · rintro j hj _ s w ⟨ts, vb, vd, hts, rfl⟩ - S
      simp only [List.cons_append, List.nil_append] at S
      obtain ⟨tu, k, key, w2, rfl, hk, his, S⟩ := S.openTup (knd := intKind Pg c.w) (kvs := succE V.el a.ea i) (i := j) (by wtm_at "take")
      obtain ⟨v, hv, rfl, rfl, hin⟩ := succE_get hk
      obtain ⟨tv, rfl⟩ := isI_shape his
      have hb1 := rowsTo_small ok (Nat.le_of_lt hi)
      have hb2 : ((V.el.filter (·.1 == i)).take j).length ≤ 1000 := Nat.le_trans (by rw [List.length_take]; exact Nat.min_le_right _ _) (Nat.le_trans (List.length_filter_le _ _) hz2)
      have hb : ts.length ≤ 200000 := by rw [hts, List.length_append]; omega
      wtm_at "ws"
      dsimp only
      have htk : (V.el.filter (·.1 == i)).take (j + 1) = (V.el.filter (·.1 == i)).take j ++ [(i, v)] := by rw [List.take_add_one, hv]; rfl
      have hrw : rowsTo V i ++ (V.el.filter (·.1 == i)).take (j + 1) = (rowsTo V i ++ (V.el.filter (·.1 == i)).take j) ++ [(i, v)] := by rw [htk, List.append_assoc]
      refine ⟨_, ⟨ts ++ [nw], some (.int v tv), some (.ref (a.ea (i, v))), ?_, rfl⟩, ?_⟩
      · rw [hrw, List.length_append, List.length_append (bs := [(i, v)]), hts]; rfl
      · have S2 := (S.take (X := tup nw [.int i t0, .int v tv, .ref (a.ea (i, v))]) (by wtm_at "take")).head_mono (X' := rowT a (nw, (i, v))) fun d h => ⟨t0, tv, h⟩
        have S3 := S2.growE (l := ts.zip (rowsTo V i ++ (V.el.filter (·.1 == i)).take j)) (u := (nw, (i, v))) (f := rowT a) (X := rowT a (nw, (i, v))) (by wtm_at "take") (by wtm_at "take") (rowT a) rfl (fun _ _ => rfl)
        rw [← zip_snoc hts, ← hrw] at S3
        rw [List.map_append, List.map_cons, List.map_nil]
        clear S S2
        wtm_at "fin"
    · rintro _ s ⟨ts, vb, vd, hts, rfl⟩ S
      rw [hn0, List.take_length, ← rowsTo_succ] at hts
      rw [hn0, List.take_length, ← rowsTo_succ] at S
      simp only [List.cons_append, List.nil_append] at S
      have S2 := S.shut0 (l := List.range V.n) (f := fun i => dI c (a.aa i) (succE V.el a.ea i)) (u := i) (by wtm_at "take") (by wtm_at "take") (mem_range hi) List.nodup_range
      clear S
      dsimp only
      wtm_at "ws"
      dsimp only
      refine ⟨_, ⟨ts, some (.int i t0), vb, vd, hts, rfl⟩, ?_⟩
      wtm_at "fin"
  · rintro _ s ⟨ts, vn, vb, vd, hts, rfl⟩ S
    rw [hvl] at hts S
    simp only [List.cons_append, List.nil_append] at S
    dsimp only
    wtm_at "ws"
    refine' h _ _ ts hts ?zz9
    case zz9 => wtm_at "fin"

def CAttr (C : Addr) (name : Str) : Prop := ∀ P : Params, plainGet (hd.heap_39 P) C name = true ∧ hasDictIn (hd.heap_39 P) C = true ∧ findIn (hd.heap_39 P) (.ref C) name = some none
def CSet (C : Addr) (name : Str) : Prop := ∀ P : Params, findIn (hd.heap_39 P) (.ref C) "__setattr__" = some (some (.builtin "object.__setattr__")) ∧ plainOver (hd.heap_39 P) C = true ∧ takerIn (hd.heap_39 P) C name = some none ∧ hasDictIn (hd.heap_39 P) C = true
theorem ca_ev : CAttr 146 "_graph" := fun P => ⟨by kernel_rfl, by kernel_rfl, by kernel_rfl⟩
theorem cs_ev : CSet 146 "_graph" := fun P => ⟨by kernel_rfl, by kernel_rfl, by kernel_rfl, by kernel_rfl⟩
theorem ev_init {c : Cx} {A : Around} {s : Shared} {P R : List HP} {k : Nat} {x dx g : Addr} {Rr : Result → Shared → Prop} (S : St c P s) (rm : Rm A (k + 1)) (tk : Takes [pt x (instObj 146 dx), dS c dx []] P R)
  (h : ∀ s', St c ([pt x (instObj 146 dx), dS c dx [("_graph", .ref g)]] ++ R) s' → Rr (.ok (.ret .none)) s') : codeAny c.M A (.call (.ref 109) ⟨[.ref x, .ref g], []⟩) Rr s := by
  replace S := S.takes tk
  refine' call_K (binds := [("self", .ref x), ("G", .ref g)]) S rm (by exact rfl) (by rfl) (BindsTo.of_eq rfl) (locs rfl) ?oth ?nd ?_
  wtm_at "enter"
  wtm_at "ws"
  refine' setA S ?zz1 ?zz2 (cs_ev _).1 (cs_ev _).2.1 (cs_ev _).2.2.1 (cs_ev _).2.2.2 ?zz3 ?_
  case zz1 => wtm_at "take"
  case zz2 => wtm_at "take"
  case zz3 => simp
  clear S; intro s S
  wtm_at "ws"
  rw [stored_nil] at S
  refine' h _ ?zz4
  case zz4 => wtm_at "fin"
theorem g_edges {c : Cx} {A : Around} {s : Shared} {P : List HP} {k : Nat} {g : Addr} {Rr : Result → Shared → Prop} (S : St c P s) (rm : Rm A (k + 6))
  (h : ∀ s' x dx, St c (pt x (instObj 146 dx) :: dS c dx [("_graph", .ref g)] :: P) s' → Rr (.ok (.ret (.ref x))) s') : codeAny c.M A (.call (.ref 188) ⟨[.ref g], []⟩) Rr s := by
  refine' call_K (binds := [("self", .ref g)]) S rm (by exact rfl) (by rfl) (BindsTo.of_eq rfl) (locs rfl) ?oth ?nd ?_
  wtm_at "enter"
  wtm_at "ws"
  refine wpAny_call (call_cls (fI := 109) (k := k + 1) S (rm.le (by omega)) (by exact rfl) (by kernel_rfl) (by kernel_rfl) ?_)
  clear S; intro A s x dx rm hh S
  refine' ev_init S rm ?zz1 ?_
  case zz1 => wtm_at "takes"
  clear S; intro s S
  refine ⟨rfl, ?_⟩
  simp only [List.cons_append, List.nil_append] at S
  refine' h _ _ _ ?zz2
  case zz2 => wtm_at "fin"
theorem bool_bool' {c : Cx} {A : Around} {E : Value → Shared → Prop} {s : Shared} {b : Bool} {Q : Value → Shared → Prop} (h : Q (.bool true) s) : wpAny c.M A (call (.builtin "isinstance") [.bool b, .type "bool"]) Q E s := IsiPair.bool_bool h
theorem ev_call {c : Cx} {A : Around} {s : Shared} {P R : List HP} {k : Nat} {x dx : Addr} {a : GA} {V : GV} {Rr : Result → Shared → Prop} (S : St c P s) (rm : Rm A (k + 6)) (hA : A.handled = c.hx) (hx : c.hx = none) (ok : V.Ok) (tk : Takes (pt x (instObj 146 dx) :: dS c dx [("_graph", .ref a.g)] :: graphR c a V) P R)
  (h : ∀ s' r (ts : List Addr), ts.length = (rowsTo V V.n).length → St c (lst r (ts.map Value.ref) :: fam (ts.zip (rowsTo V V.n)) (rowT a) :: (graphR c a V ++ R)) s' → Rr (.ok (.ret (.ref r))) s') : codeAny c.M A (.call (.ref 143) ⟨[.ref x], [("data", .bool true)]⟩) Rr s := by
  replace S := S.takes tk
  refine' call_C (binds := [("self", .ref x), ("nbunch", .none), ("data", .bool true), ("default", .none)]) (lb := [("self", .ref x), ("nbunch", .none)]) (cb := [("data", .bool true), ("default", .none)]) (cl := fun L => [("default", L + 2), ("data", L + 1)]) (cv := fun L => [(L + 2, some .none), (L + 1, some (.bool true))]) S rm (by exact rfl) (by rfl) (binds_K S.K rfl (by exact rfl) rfl rfl rfl) rfl rfl (fun _ => rfl) (fun _ => rfl) ?hk (fun _ => rfl) rfl ?oth ?nd ?_
  wtm_at "centerC"
  wtm_at "ws"
  refine' getA S ?zz1 ?zz2 (v := .ref a.g) ?zz3 (ca_ev _).1 (ca_ev _).2.1 (ca_ev _).2.2 rfl rfl ?_
  case zz1 => wtm_at "take"
  case zz2 => wtm_at "take"
  case zz3 => rfl
  clear S; intro s S
  wtm_at "ws"
  refine' wpAny_call (g_edge_rows (k := k + 1) (a := a) (V := V) S (rm.le (by omega)) hA hx ok ?zz4 ?_)
  case zz4 => wtm_at "takes"
  clear S; intro s r ts hts S
  simp only [graphR, List.cons_append, List.nil_append] at S
  dsimp only
  wtm_at "ws"
  refine bool_bool' ?_
  wtm_at "ws"
  refine' h _ _ ts hts ?zz5
  case zz5 => wtm_at "fin"
theorem meth_prop {c : Cx} {A : Around} {E : Value → Shared → Prop} {s : Shared} {P R1 R2 : List HP} {x dx f : Addr} {kvs : List (Str × Value)} {name : Str} {pl : Sem Bool} {Q : Value × List Value → Shared → Prop} (S : St c P s) (hg : GProp name f) (t1 : Take (pt x (instObj 420 dx)) P R1) (t2 : Take (dS c dx kvs) P R2)
    (ht : (findIn c.F (.ref 420) name).any (fun r => r.all fun a => (typeIn c.F a).any fun t => t != .type "function" && t != .type "method_descriptor" && t != .type "wrapper_descriptor") = true)
    (h : ∀ s', St c P s' → codeAny c.M A.in1 (.call (.ref f) ⟨[.ref x], []⟩) (fun r s' => match r with | .ok (.ret v) => handedIn v = true ∧ Q (v, []) s' | _ => False) s') : wpAny c.M A (getMethod (.ref x) name pl) Q E s := by
  obtain ⟨p, rest, h1, h2, h3, h4, h5, h6⟩ := hg c.w.params
  obtain ⟨od, I, hl⟩ := inst_at S t1 t2
  have ht' : (some (Value.ref p)).all (fun a => (typeIn c.F a).any fun t => t != .type "function" && t != .type "method_descriptor" && t != .type "wrapper_descriptor") = true := by
    have e : findIn c.F (.ref 420) name = some (some (.ref p)) := h3
    rw [e] at ht
    exact ht
  exact method_usual S.K I (plainGet_of h1).1 (plainGet_of h1).2 h3 ht' (getGP S hg t1 t2 h)
/-- an edge view is called -/
theorem ev_at {c : Cx} {A : Around} {E : Value → Shared → Prop} {s : Shared} {P R1 R2 : List HP} {k : Nat} {x dx : Addr} {kvs : List (Str × Value)} {env : Env} {pos : Pos} {kws : List Keyword} {Q : Value → Shared → Prop} (S : St c P s) (t1 : Take (pt x (instObj 146 dx)) P R1) (t2 : Take (dS c dx kvs) P R2)
    (hp : ((backToKw pos (keywordEach kws env)).any (·.1.isNone)) = false)
    (h : wpAny c.M A (evalArgs (.ref x) true [] (backToKw pos (keywordEach kws env))) (fun a s₁ => ∃ P1 R1 R2 kvs, St c P1 s₁ ∧ Take (pt x (instObj 146 dx)) P1 R1 ∧ Take (dS c dx kvs) P1 R2 ∧
      codeAny c.M A (.call (.ref 143) ⟨.ref x :: a.pos, a.kw⟩) (fun r s' => match r with | .ok (.ret v) => Q v s' | _ => False) s₁) E s) :
    wpAny c.M A (callWith pos (.ref x) [] (backTo pos (starEach [] env)) (backToKw pos (keywordEach kws env))) Q E s := by
  obtain ⟨od, I, hl⟩ := inst_at S t1 t2
  have e0 : backTo pos (starEach [] env) = [] := rfl
  rw [e0]
  unfold callWith
  refine wpAny_bind (wpAny_holding (wpAny_mono h (fun a s₁ h₁ => wpAny_bind (wpAny_standAt ?_)) fun _ _ y => y))
  obtain ⟨P1, R1, R2, kvs, S1, t1, t2, hc⟩ := h₁
  obtain ⟨od1, I1, hl1⟩ := inst_at S1 t1 t2
  have L := kco_keeper (M := c.M) I1 rfl
  simp only [hp, List.any_nil, Bool.or_self]
  refine wpAny_bind (L.here ?_)
  have tail : ∀ {t : Sem Value}, wpAny c.M A t Q E s₁ → wpAny c.M A (t >>= fun r => holding [r] point >>= fun _ => pure r) Q E s₁ :=
    fun ht => wpAny_bind (wpAny_mono ht (fun r s₂ hr => wpAny_bind (wpAny_holding (wpAny_point (wpAny_pure hr)))) fun _ _ y => y)
  refine tail (wpAny_operateT (wpAny_call ?_))
  refine kco_code (f := 143) S1.K I1 rfl (by exact rfl) (by exact rfl) (by exact rfl) (codeAny_mono hc fun r s' z => ?_)
  rcases r with e | (_ | _ | _ | v) <;> first | exact z.elim | exact z

/-! functions made in a function: the table of code records -/
def code (a : Addr) (q : Str) : HP := fun D => ∃ oc vs t, D a = some oc ∧ oc.data = .fields vs ∧ vs[1]? = some (.str q t)
instance {a q} : Up (code a q) := ⟨fun _ _ s ⟨oc, vs, t, h, r⟩ => ⟨oc, vs, t, s _ _ h, r⟩⟩
structure Ent where
  pos : Pos
  q : Str
  c : Addr
def enc : List Ent → List Value
  | [] => []
  | e :: r => rawInt e.pos.line :: rawInt e.pos.col :: .ref e.c :: enc r
theorem enc_append (l : List Ent) (e : Ent) : enc (l ++ [e]) = enc l ++ [rawInt e.pos.line, rawInt e.pos.col, .ref e.c] := by
  induction l with
  | nil => rfl
  | cons x r ih => simp [enc, ih]
theorem enc_ok : ∀ l : List Ent, TriplesOk (enc l)
  | [] => trivial
  | _ :: r => enc_ok r
theorem enc_among (pos : Pos) : ∀ l : List Ent, codeAmong pos (enc l) = (l.find? fun e => (e.pos.line : Int) == (pos.line : Int) && (e.pos.col : Int) == (pos.col : Int)).map fun e => .ref e.c
  | [] => rfl
  | e :: r => by
    show (if ((e.pos.line : Int) == pos.line && (e.pos.col : Int) == pos.col) = true then some (Value.ref e.c) else codeAmong pos (enc r)) = _
    rw [List.find?_cons]
    split
    · rename_i h; rw [h]; rfl
    · rename_i h
      rw [Bool.not_eq_true] at h
      rw [h]; exact enc_among pos r
def tabR (P : Addr) (l : List Ent) : HP := all (pt P (tabObj (enc l).toArray) :: l.map fun e : Ent => code e.c e.q)
def tabX (P : Addr) (qs : List (Pos × Str)) (ks : List (Addr × Str)) : HP := fun D => ∃ l : List Ent, (∀ e ∈ l, (e.pos, e.q) ∈ qs) ∧ (∀ k ∈ ks, ∃ e ∈ l, e.c = k.1 ∧ e.q = k.2) ∧ tabR P l D
theorem tabX_weak {P qs ks ks'} (h : ∀ k ∈ ks', k ∈ ks) (D : PH) : tabX P qs ks D → tabX P qs ks' D := fun ⟨l, a, b, r⟩ => ⟨l, a, fun k hk => b k (h k hk), r⟩
theorem St.ofHead {c : Cx} {s : Shared} {R : List HP} {X : HP} {α : Type} {f : α → HP} (S : St c (X :: R) s) (h : ∀ D, X D → ∃ a, f a D) : ∃ a, St c (f a :: R) s := by
  obtain ⟨d, h1, h2, h3, d1, d2, g1, g2, g3, g4, g5⟩ := S.own
  obtain ⟨a, q⟩ := h _ g4
  exact ⟨a, S.keep, ⟨d, h1, h2, h3, d1, d2, g1, g2, g3, q, g5⟩, S.os, S.gens⟩
theorem tabX_rec {c : Cx} {s : Shared} {P R : List HP} {T : Addr} {qs ks} {c' : Addr} {q : Str} (S : St c P s) (t : Take (tabX T qs ks) P R) (hk : (c', q) ∈ ks) : s.heap.CodeRec (.ref c') q := by
  obtain ⟨d, h1, h2, h3, d1, d2, g1, g2, g3, ⟨l, a, b, r⟩, g5⟩ := (S.take t).own
  obtain ⟨e, he, rfl, rfl⟩ := b _ hk
  have r' : Sat (pt T (tabObj (enc l).toArray) :: l.map fun e : Ent => code e.c e.q) s.heap.get? := Sat.mono (g2.trans h1) r
  have r2 := r'.drop
  have : ∀ (l : List Ent) (D : PH), e ∈ l → Sat (l.map fun e : Ent => code e.c e.q) D → code e.c e.q D := by
    intro l
    induction l with
    | nil => intro D he; cases he
    | cons x xs ih =>
      intro D he h
      rcases List.mem_cons.mp he with rfl | he
      · exact h.get
      · exact ih D he h.drop
  obtain ⟨oc, vs, t, y1, y2, y3⟩ := this l _ he r2
  exact ⟨_, oc, vs, t, rfl, y1, y2, y3⟩
theorem St.notSt {c : Cx} {s : Shared} {P R : List HP} {X : HP} {a : Addr} (S : St c P s) (t : Take X P R) (ho : Owns a X) : c.st a = none := by
  obtain ⟨d, h1, h2, h3, d1, d2, g1, g2, g3, g4, g5⟩ := (S.take t).own
  obtain ⟨o, q⟩ := ho _ g4
  rcases h3 a with y | y
  · exact y
  · rw [g2 _ _ q] at y; cases y

section
variable {c : Cx} {A : Around} {E : Value → Shared → Prop} {s : Shared} {P R : List HP} {T cd a L : Addr} {qs : List (Pos × Str)} {ks : List (Addr × Str)} {name qual cn : Str} {params : Arguments} {scope cs : Scope} {cl clos : List (Str × Addr)} {pos : Pos} {firstLine : Nat} {Q : Value → Shared → Prop}
theorem mk_prep (S : St c P s) (t : Take (tabX T qs ks) P R) : ∃ l : List Ent, (∀ e ∈ l, (e.pos, e.q) ∈ qs) ∧ (∀ k ∈ ks, ∃ e ∈ l, e.c = k.1 ∧ e.q = k.2) ∧ St c (pt T (tabObj (enc l).toArray) :: ((l.map fun e : Ent => code e.c e.q) ++ R)) s ∧ mainGlobals ≠ T ∧ s.heap.BuiltinsAt c.mg T := by
  obtain ⟨d, h1, h2, h3, d1, d2, g1, g2, g3, ⟨l, a, b, r⟩, g5⟩ := (S.take t).own
  have S2 : St c (tabR T l :: R) s := ⟨S.keep, ⟨d, h1, h2, h3, d1, d2, g1, g2, g3, r, g5⟩, S.os, S.gens⟩
  have S3 : St c (pt T (tabObj (enc l).toArray) :: ((l.map fun e : Ent => code e.c e.q) ++ R)) s := S2.flat
  have hn : c.st T = none := S3.notSt .head pt_owns
  refine ⟨l, a, b, S3, ?_, ?_⟩
  · rintro rfl
    obtain ⟨o, es, ep, e, _⟩ := c.T.g
    rw [show c.st mainGlobals = some o from sub_uni_left c.h₀.get? c.more _ _ e] at hn
    cases hn
  · obtain ⟨bm, ob, b1, b2, b3, b4, b5, b6, b7⟩ := c.bm
    refine ⟨bm, ob, b1, b2, b3, ?_, S.keep _ _ (sub_uni_left _ _ _ _ b4), b5, b6, b7⟩
    rintro rfl
    rw [show c.st bm = some ob from sub_uni_left c.h₀.get? c.more _ _ b4] at hn
    cases hn
theorem mk_fn {body : List Stmt} (S : St c P s) (t : Take (tabX T qs ks) P R) (C : CodeHd c.h₀ cd T) (hqs : (pos, qual) ∈ qs) (hqd : ∀ p ∈ qs, ((p.1.line : Int) == (pos.line : Int) && (p.1.col : Int) == (pos.col : Int)) = true → p.2 = qual)
    (hcl : closureFor scope (envX cn cs L a (.ref cd) cl) = pure clos)
    (h : ∀ s' f c' ctv doc pm, St c (pt f (fnMade name qual params body scope clos doc pm c' ctv) :: tabX T qs ((c', qual) :: ks) :: R) s' → Q (.ref f) s') :
    wpAny c.M A (makeFunction name qual params (.stmts body) scope (envX cn cs L a (.ref cd) cl) [] [] [] pos firstLine) Q E s := by
  obtain ⟨l, ha, hb, S1, hgT, hbT⟩ := mk_prep S t
  have hP : s.heap.get? T = some (tabObj (enc l).toArray) := S1.get (X := pt T (tabObj (enc l).toArray)) .head
  have Ck : CodeHd s.heap cd T := C.keeps ((sub_uni_left _ _).trans S.keep)
  cases hf : l.find? fun e => (e.pos.line : Int) == (pos.line : Int) && (e.pos.col : Int) == (pos.col : Int) with
  | some e =>
    have hm := List.mem_of_find?_eq_some hf
    have hq : e.q = qual := hqd _ (ha e hm) (by have := List.find?_some hf; exact this)
    refine makeFunction_hit (mg := c.mg) hcl rfl S.T.g rfl Ck hP (by simpa using enc_ok l) (cv := .ref e.c) (by rw [List.toList_toArray, enc_among, hf]; rfl) hbT fun ctv doc h' tk hk hsz => ?_
    have S2 : St c (pt T (tabObj (enc l).toArray) :: ((l.map fun e : Ent => code e.c e.q) ++ R)) { s with heap := h' } := S1.ext hk
    have S3 := (S2.alloc (o := fnMade name qual params body scope clos doc ((c.mg "__name__").getD .none) e.c ctv) (X := pt h'.objs.size (fnMade name qual params body scope clos doc ((c.mg "__name__").getD .none) e.c ctv)) rfl one_self).tok (t := tk)
    refine h _ _ e.c ctv doc ((c.mg "__name__").getD .none) (S3.mono fun d hd => Sat.cons_mono (fun d hd => Sat.head_mono (fun d hd => ⟨l, ha, fun k hk => ?_, hd⟩) (Sat.unflat (l := pt T (tabObj (enc l).toArray) :: l.map fun e : Ent => code e.c e.q) hd)) hd)
    rcases List.mem_cons.mp hk with rfl | hk
    · exact ⟨e, hm, rfl, hq⟩
    · exact hb k hk
  | none =>
    refine makeFunction_K (mg := c.mg) hcl rfl S.T.g rfl Ck hP (by simpa using enc_ok l) (by rw [List.toList_toArray, enc_among, hf]; rfl) hgT hbT fun c' ctv doc h' tk hx hge hlt hrec htb => ?_
    obtain ⟨c₂, oc, vs, tq, e2, hoc, hd, hv⟩ := hrec
    cases e2
    have htb' : h'.get? T = some (tabObj (enc (l ++ [(⟨pos, qual, c'⟩ : Ent)])).toArray) := by
      rw [htb, enc_append]; simp
    have S2 := S1.updNew (h' := h') (X1 := pt T (tabObj (enc (l ++ [(⟨pos, qual, c'⟩ : Ent)])).toArray)) (X2 := code c' qual) (n := c') pt_owns (fun b o hb e => hx b o hb e) (one_self.trans htb') ⟨oc, vs, tq, one_self.trans hoc, hd, hv⟩ hge
    have S3 := (S2.alloc (o := fnMade name qual params body scope clos doc ((c.mg "__name__").getD .none) c' ctv) (X := pt h'.objs.size (fnMade name qual params body scope clos doc ((c.mg "__name__").getD .none) c' ctv)) rfl one_self).tok (t := tk)
    refine h _ _ c' ctv doc ((c.mg "__name__").getD .none) (S3.mono fun d hd => Sat.cons_mono (fun d hd => Sat.head_mono (fun d hd => ⟨l ++ [(⟨pos, qual, c'⟩ : Ent)], fun e he => ?_, fun k hk => ?_, hd⟩)
      (Sat.unflat (l := pt T (tabObj (enc (l ++ [(⟨pos, qual, c'⟩ : Ent)])).toArray) :: (l ++ [(⟨pos, qual, c'⟩ : Ent)]).map fun e : Ent => code e.c e.q) (Sat.cons_mono (fun d hd => ?_) hd))) hd)
    · rcases List.mem_append.mp he with he | he
      · exact ha e he
      · rw [List.mem_singleton.mp he]; exact hqs
    · rcases List.mem_cons.mp hk with rfl | hk
      · exact ⟨_, List.mem_append_right _ (.head _), rfl, rfl⟩
      · obtain ⟨e, he, r⟩ := hb k hk
        exact ⟨e, List.mem_append_left _ he, r⟩
    · have p : (code c' qual :: ((l.map fun e : Ent => code e.c e.q) ++ R)).Perm (((l ++ [(⟨pos, qual, c'⟩ : Ent)]).map fun e : Ent => code e.c e.q) ++ R) := by
        rw [List.map_append, List.append_assoc]
        exact List.perm_middle.symm
      exact Sat.perm p hd
theorem mk_lam {body : Expr} (S : St c P s) (t : Take (tabX T qs ks) P R) (C : CodeHd c.h₀ cd T) (hqs : (pos, qual) ∈ qs) (hqd : ∀ p ∈ qs, ((p.1.line : Int) == (pos.line : Int) && (p.1.col : Int) == (pos.col : Int)) = true → p.2 = qual)
    (hcl : closureFor scope (envX cn cs L a (.ref cd) cl) = pure clos)
    (h : ∀ s' f c' ctv pm, St c (pt f (kla_obj name qual params body scope clos pm c' ctv) :: tabX T qs ((c', qual) :: ks) :: R) s' → Q (.ref f) s') :
    wpAny c.M A (makeFunction name qual params (.expr body) scope (envX cn cs L a (.ref cd) cl) [] [] [] pos firstLine) Q E s := by
  obtain ⟨l, ha, hb, S1, hgT, hbT⟩ := mk_prep S t
  have hP : s.heap.get? T = some (tabObj (enc l).toArray) := S1.get (X := pt T (tabObj (enc l).toArray)) .head
  have Ck : CodeHd s.heap cd T := C.keeps ((sub_uni_left _ _).trans S.keep)
  cases hf : l.find? fun e => (e.pos.line : Int) == (pos.line : Int) && (e.pos.col : Int) == (pos.col : Int) with
  | some e =>
    have hm := List.mem_of_find?_eq_some hf
    have hq : e.q = qual := hqd _ (ha e hm) (by have := List.find?_some hf; exact this)
    refine kla_makeFunctionHit (mg := c.mg) hcl rfl S.T.g rfl Ck hP (by simpa using enc_ok l) (cv := .ref e.c) (by rw [List.toList_toArray, enc_among, hf]; rfl) hbT fun ctv h' tk hk hsz => ?_
    have S2 : St c (pt T (tabObj (enc l).toArray) :: ((l.map fun e : Ent => code e.c e.q) ++ R)) { s with heap := h' } := S1.ext hk
    have S3 := (S2.alloc (o := kla_obj name qual params body scope clos ((c.mg "__name__").getD .none) e.c ctv) (X := pt h'.objs.size (kla_obj name qual params body scope clos ((c.mg "__name__").getD .none) e.c ctv)) rfl one_self).tok (t := tk)
    refine h _ _ e.c ctv ((c.mg "__name__").getD .none) (S3.mono fun d hd => Sat.cons_mono (fun d hd => Sat.head_mono (fun d hd => ⟨l, ha, fun k hk => ?_, hd⟩) (Sat.unflat (l := pt T (tabObj (enc l).toArray) :: l.map fun e : Ent => code e.c e.q) hd)) hd)
    rcases List.mem_cons.mp hk with rfl | hk
    · exact ⟨e, hm, rfl, hq⟩
    · exact hb k hk
  | none =>
    refine kla_makeFunction (mg := c.mg) hcl rfl S.T.g rfl Ck hP (by simpa using enc_ok l) (by rw [List.toList_toArray, enc_among, hf]; rfl) hgT hbT fun c' ctv h' tk hx hge hlt hrec htb => ?_
    obtain ⟨c₂, oc, vs, tq, e2, hoc, hd, hv⟩ := hrec
    cases e2
    have htb' : h'.get? T = some (tabObj (enc (l ++ [(⟨pos, qual, c'⟩ : Ent)])).toArray) := by
      rw [htb, enc_append]; simp
    have S2 := S1.updNew (h' := h') (X1 := pt T (tabObj (enc (l ++ [(⟨pos, qual, c'⟩ : Ent)])).toArray)) (X2 := code c' qual) (n := c') pt_owns (fun b o hb e => hx b o hb e) (one_self.trans htb') ⟨oc, vs, tq, one_self.trans hoc, hd, hv⟩ hge
    have S3 := (S2.alloc (o := kla_obj name qual params body scope clos ((c.mg "__name__").getD .none) c' ctv) (X := pt h'.objs.size (kla_obj name qual params body scope clos ((c.mg "__name__").getD .none) c' ctv)) rfl one_self).tok (t := tk)
    refine h _ _ c' ctv ((c.mg "__name__").getD .none) (S3.mono fun d hd => Sat.cons_mono (fun d hd => Sat.head_mono (fun d hd => ⟨l ++ [(⟨pos, qual, c'⟩ : Ent)], fun e he => ?_, fun k hk => ?_, hd⟩)
      (Sat.unflat (l := pt T (tabObj (enc (l ++ [(⟨pos, qual, c'⟩ : Ent)])).toArray) :: (l ++ [(⟨pos, qual, c'⟩ : Ent)]).map fun e : Ent => code e.c e.q) (Sat.cons_mono (fun d hd => ?_) hd))) hd)
    · rcases List.mem_append.mp he with he | he
      · exact ha e he
      · rw [List.mem_singleton.mp he]; exact hqs
    · rcases List.mem_cons.mp hk with rfl | hk
      · exact ⟨_, List.mem_append_right _ (.head _), rfl, rfl⟩
      · obtain ⟨e, he, r⟩ := hb k hk
        exact ⟨e, List.mem_append_left _ he, r⟩
    · have p : (code c' qual :: ((l.map fun e : Ent => code e.c e.q) ++ R)).Perm (((l ++ [(⟨pos, qual, c'⟩ : Ent)]).map fun e : Ent => code e.c e.q) ++ R) := by
        rw [List.map_append, List.append_assoc]
        exact List.perm_middle.symm
      exact Sat.perm p hd
end

section
variable {c : Cx} {A : Around} {s : Shared} {P R : List HP} {k : Nat} {f : Addr} {name qual : Str} {params : Arguments} {scope : Scope} {cl : List (Str × Addr)} {pm doc ct : Value} {c' : Addr}
  {args : Args} {binds : List (Str × Value)} {oth : List (Str × Option Value)} {Rr : Result → Shared → Prop}
/-- a function made in a function is called -/
theorem call_H {body : List Stmt} (S : St c P s) (rm : Rm A (k + 1)) (t : Take (pt f (fnMade name qual params body scope cl doc pm c' ct)) P R) (hcd : s.heap.CodeRec (.ref c') qual)
    (hbind : BindsTo s (fnX name qual params body scope cl .none .none doc pm none (.ref c') ct) args binds) (hloc : ∀ y ∈ binds, scope.names.lookup y.1 = some .local)
    (hoth : Oth (binds.map (·.1)) scope.names oth) (hnd : nodupB (binds.map (·.1) ++ oth.map (·.1)) = true)
    (h : ∀ B L s₁, Rm B k → B.handled = A.handled → St c (frm L (boundF binds ++ oth) :: P) s₁ → (let env := envX qual scope L f (.ref c') cl; wpAny c.M B (execs body env)
        (fun fl s' => Rr (.ok (.ret (match fl with | .ret v => v | _ => .none))) s') (fun _ _ => False) s₁))
    (hco : scope.isCoroutine = false := by rfl) (hgen : scope.isGenerator = false := by rfl) (hk : scope.kind = .function := by rfl) (hcell : ∀ x ∈ scope.names, x.2 ≠ .cell := by decide) :
    codeAny c.M A (.call (.ref f) args) Rr s :=
  call_at S rm (S.get t) rfl hcd hbind hloc hoth hnd (fun L s₁ S₁ => wpAny_mono (h _ L s₁ rm.deeper rfl S₁) (fun _ _ x => x) fun _ _ x => x.elim) hco hgen hk hcell
theorem call_lam {body : Expr} (S : St c P s) (rm : Rm A (k + 1)) (t : Take (pt f (kla_obj name qual params body scope cl pm c' ct)) P R) (hcd : s.heap.CodeRec (.ref c') qual)
    (hbind : bindArgs (kla_fn name qual params body scope cl pm (.ref c') ct) args = pure binds) (hloc : ∀ y ∈ binds, scope.names.lookup y.1 = some .local)
    (hoth : Oth (binds.map (·.1)) scope.names oth) (hnd : nodupB (binds.map (·.1) ++ oth.map (·.1)) = true)
    (h : ∀ B L s₁, Rm B k → B.handled = A.handled → St c (frm L (boundF binds ++ oth) :: P) s₁ → (let env := envX qual scope L f (.ref c') cl; wpAny c.M B (eval body env)
        (fun v s' => Rr (.ok (.ret v)) s') (fun _ _ => False) s₁))
    (hco : scope.isCoroutine = false := by rfl) (hgen : scope.isGenerator = false := by rfl) (hk : scope.kind = .function := by rfl) (hcell : ∀ x ∈ scope.names, x.2 ≠ .cell := by decide) :
    codeAny c.M A (.call (.ref f) args) Rr s := by
  refine kla_callFunE rm.depth (S.get t) rfl hco hgen rfl hcd ?_
  rw [hbind]
  refine wpAny_pure (wpAny_newFunctionEnv hcell hloc (fun h₁ hns hsb => ⟨S.T.nolimit.fresh _ hsb, ?_⟩) hk)
  have hk₁ : ∀ b o, s.heap.get? b = some o → h₁.get? b = some o := fun b o e => hsb.extBut b o (Nat.ne_of_lt (Heap.lt_size e)) (Heap.get?_push_of_some _ e)
  have hb : (boundF binds).map (·.1) = binds.map (·.1) := by simp only [boundF, List.map_map]; rfl
  refine kla_codeExpr (env := envX qual scope s.heap.objs.size f (.ref c') cl) (wpAny_mono (h _ s.heap.objs.size _ rm.deeper rfl (S.new (a := s.heap.objs.size) hk₁ (Nat.le_refl _) ⟨by rw [List.map_append, hb]; exact nodupB_iff hnd, ?_⟩)) (fun _ _ x => x) fun _ _ x => x.elim)
  obtain ⟨o, es, ep, h1, h2, h3, h4⟩ := hns
  refine ⟨o, es, ep, by show one _ (h₁.get? _) _ = some o; simp [one, h1], h2, h3, fun x => ?_⟩
  rw [h4, look_append, hb]
  split
  · rw [look_bound binds (List.nodup_append.mp (nodupB_iff hnd)).1]
  · rename_i hx
    rw [hoth.look, List.lookup_eq_none_iff]
    intro p hp
    rw [bne_iff_ne]
    rintro rfl
    exact hx (List.mem_map.mpr ⟨p, List.mem_reverse.mp hp, rfl⟩)
end
theorem entry_callable : entryFor table "callable" = some Builtin.«callable» := entryFor_of_tree (by kernel_rfl)
theorem args_callable (a : Value) : argsOk "callable" ⟨[a], []⟩ := by unfold argsOk; kernel_rfl
theorem str_nocall : typeLookup (.type "str") "__call__" = pure none := by rw [typeLookup_type, builtinLookup_eq_fast]; kernel_rfl
section
variable {c : Cx} {A : Around} {E : Value → Shared → Prop} {s : Shared} {P R : List HP} {x : Str} {t : Tok} {Q : Value → Shared → Prop}
theorem callable_str (h : Q (.bool false) s) : wpAny c.M A (call (.builtin "callable") [.str x t]) Q E s := by
  refine call_function_entry (by decide +kernel) (by decide +kernel) entry_callable (args_callable _) ?_
  unfold Builtin.«callable»
  refine wpAny_bind (m := oneArg "callable" _) (wpAny_pure ?_)
  refine wpAny_bind (wpAny_specialOf (typeIs_str s x t) str_nocall ?_)
  exact wpAny_pure ⟨_, rfl, h⟩
def infB : UInt64 := 0x7FF0000000000000
theorem inf_parse : (Num.parseText? "inf") = some infB := by decide +kernel
theorem float_inf (S : St c P s) (hh : A.handled = none) (h : ∀ s' t, St c P s' → Q (.float infB t) s') : wpAny c.M A (call (.type "float") [.str "inf" t]) Q E s := by
  refine Flt.call_float_str hh (by decide +kernel) (fun e => ?_) (fun _ => ?_)
  · rw [inf_parse] at e; cases e
  · rw [inf_parse]; exact h _ _ S.tok
end

theorem ch_cap (P : Params) {h : Heap} (K : (hd.heap_39 P).In h) : CodeHd h 485 481 := ⟨_, _, _, _, _, _, _, _, _, K _ _ (by exact rfl), rfl, rfl, rfl, rfl, rfl, rfl, rfl, rfl, by decide⟩
theorem ch_sap (P : Params) {h : Heap} (K : (hd.heap_39 P).In h) : CodeHd h 492 488 := ⟨_, _, _, _, _, _, _, _, _, K _ _ (by exact rfl), rfl, rfl, rfl, rfl, rfl, rfl, rfl, rfl, by decide⟩
def capQ : List (Pos × Str) := [({ line := 343, col := 11, endLine := 343, endCol := 53 }, "_capacity_function.<locals>.<lambda>")]
/-- what the capacity function, once made, does -/
def LamOk (c : Cx) (X : HP) (ks : List (Addr × Str)) (f : Addr) : Prop := ∀ (A : Around) (s : Shared) (P R R1 R2 : List HP) (k : Nat) (d : Addr) (kvs : List (Str × Value)) (u v : Value) (Rr : Result → Shared → Prop), St c P s → Rm A (k + 2) → Take X P R → Take (tabX 481 capQ ks) R R1 → Take (dS c d kvs) R1 R2 →
  (∀ s' t, St c (X :: tabX 481 capQ ks :: dS c d kvs :: R2) s' → Rr (.ok (.ret ((valueAt kvs "capacity").getD (.float infB t)))) s') → codeAny c.M A (.call (.ref f) ⟨[u, v, .ref d], []⟩) Rr s
theorem cap_fn {c : Cx} {A : Around} {s : Shared} {P R : List HP} {k : Nat} {G : Value} {t1 : Tok} {Rr : Result → Shared → Prop} (S : St c P s) (rm : Rm A (k + 4)) (hA : A.handled = c.hx) (hx : c.hx = none) (tk : Take (tabX 481 capQ []) P R)
    (h : ∀ s' f X ks, LamOk c X ks f → (∀ s P R, St c P s → Take X P R → FnAt f s.heap) → St c (X :: tabX 481 capQ ks :: R) s' → Rr (.ok (.ret (.ref f))) s') : codeAny c.M A (.call (.ref 486) ⟨[G, .str "capacity" t1], []⟩) Rr s := by
  replace S := S.take tk
  refine' call_C (binds := [("G", G), ("capacity", .str "capacity" t1)]) (lb := [("G", G)]) (cb := [("capacity", .str "capacity" t1)]) (cl := fun L => [("inf", L + 2), ("capacity", L + 1)]) (cv := fun L => [(L + 2, none), (L + 1, some (.str "capacity" t1))]) S rm (by exact rfl) (by rfl) (BindsTo.of_eq rfl) rfl rfl (fun _ => rfl) (fun _ => rfl) ?hk (fun _ => rfl) rfl ?oth ?nd ?_
  wtm_at "centerC"
  have hh := hA.trans hx
  wtm_at "ws"
  refine float_inf (by assumption) hh ?_
  wtm_at "stS"
  wtm_at "ws"
  refine callable_str ?_
  wtm_at "ws"
  refine kla_eval (by rfl) ?_
  refine' mk_lam (T := 481) (qs := capQ) (ks := []) S ?zz1 (ch_cap _ c.K) (by exact .head _) ?zz2 (by rfl) ?_
  case zz1 => wtm_at "take"
  case zz2 =>
    intro p hp _
    rcases List.mem_cons.mp hp with rfl | hp
    · rfl
    · cases hp
  intro s' f c' ctv pm S2
  have eq : env.qual ++ Str.ofString "<lambda>" = "_capacity_function.<locals>.<lambda>" := by rfl
  rw [eq] at S2
  dsimp only
  refine' h _ f (all [pt f _, cel (L + 2) (some (.float infB t)), cel (L + 1) (some (.str "capacity" t1))]) [(c', "_capacity_function.<locals>.<lambda>")] ?zz3 ?zz4 ?zz5
  case zz5 =>
    refine St.unflat ?_
    simp only [List.cons_append, List.nil_append]
    refine' S2.cov ?zz6
    case zz6 => wtm_at "cov"
  case zz4 =>
    intro s P R S t
    exact ⟨_, _, _, _, ((S.take t).flat).get (X := pt f _) .head⟩
  case zz3 =>
    intro A s P R R1 R2 k d kvs u v Rr S rm tX tT tD hq
    have hrec := tabX_rec (S.take tX) (.tail tT) (c' := c') (q := "_capacity_function.<locals>.<lambda>") (.head _)
    have S := (((S.take tX).flat).takes (.cons .head (.cons .head (.cons .head (.cons tT (.cons tD .nil))))))
    simp only [List.cons_append, List.nil_append] at S
    refine' call_lam (binds := [("u", u), ("v", v), ("data", .ref d)]) S rm .head hrec (by rfl) (locs rfl) ?oth ?nd ?_
    wtm_at "enter"
    wtm_at "ws"
    refine hq _ _ ?_
    refine St.unflat ?_
    simp only [List.cons_append, List.nil_append]
    refine' S.cov ?zz7
    case zz7 => wtm_at "cov"

/-! list comprehensions -/
theorem comp_loop {c : Cx} {A : Around} {it acc : Value} {n : Nat} {I : Nat → List HP} {V : Nat → Value → Prop} {O Ex : Nat → Value → List HP} {Fin : List HP} {target elt iter : Expr} {ifs : List Expr} {scope : Scope} {pos : Pos} {cenv : Env} {P0 : List HP} {s : Shared} {R : Result → Shared → Prop}
    (X : Iter c A it n I V O Fin) (J : Nat → List HP → Prop) (S : St c (I 0 ++ P0) s) (j0 : J 0 P0)
    (own : ∀ i v P s, V i v → St c (O i v ++ P) s → ∀ (Q : Unit → Shared → Prop), (∀ s', St c (I (i + 1) ++ (Ex i v ++ P)) s' → Q () s') → wpAny c.M A (letOwnedTupleGo target it v) Q NoE s)
    (turn : ∀ i, i < n → ∀ P s v, J i P → V i v → St c (I (i + 1) ++ (Ex i v ++ P)) s → wpAny c.M A (assign target cenv v) (fun _ s₂ =>
      wpAny c.M A (forIn ifs true fun c r => if r = true then do let ok ← isTrue c cenv (eval c cenv); pure (ForInStep.yield ok) else pure (ForInStep.yield r)) (fun ok s₃ =>
        if ok = true then wpAny c.M A (eval elt cenv) (fun x s₄ => wpAny c.M A (call (.builtin "list.append") [acc, x]) (fun _ s₅ => ∃ P', J (i + 1) P' ∧ St c (I (i + 1) ++ P') s₅) NoE s₄) NoE s₃
        else ∃ P', J (i + 1) P' ∧ St c (I (i + 1) ++ P') s₃) NoE s₂) NoE s)
    (fin : ∀ P s, J n P → St c (Fin ++ P) s → R (.ok .next) s) : codeAny c.M A (.compLoop (.ListComp elt [⟨target, iter, ifs, 0⟩] scope pos) 0 it acc cenv) R s := by
  have no : ∀ {α : Type} {t : Sem α} {Q : α → Shared → Prop} {E : Value → Shared → Prop} {s : Shared}, wpAny c.M A t Q NoE s → wpAny c.M A t Q E s := fun h => wpAny_mono h (fun _ _ x => x) fun _ _ x => x.elim
  refine codeAny_loop rfl (fun m s' => ∃ i P, i ≤ n ∧ m = n - i ∧ J i P ∧ St c (I i ++ P) s') ?_ n ⟨0, P0, Nat.zero_le _, rfl, j0, S⟩
  rintro m s' ⟨i, P, hi, rfl, hJ, hS⟩
  show wpAny _ A ((compTurn (.ListComp elt [⟨target, iter, ifs, 0⟩] scope pos) 0 it acc cenv).onRaise (fun x => do noteFrame x cenv; theTreesLotGoes x)) _ _ s'
  refine wpAny_noted ?_
  rw [compTurn_list]
  by_cases hn : i < n
  · refine wpAny_bind (wpAny_standAt (wpAny_bind (X.next i hn P s' _ _ hS fun s₁ v hV h₁ => ?_)))
    refine wpAny_bind (no (own i v P s₁ hV h₁ _ fun s₂ h₂ => wpAny_bind (no (wpAny_mono (turn i hn P s₂ v hJ hV h₂) (fun _ s₃ h₃ => wpAny_bind (no (wpAny_mono h₃ (fun ok s₄ h₄ => ?_) fun _ _ x => x))) fun _ _ x => x))))
    cases ok with
    | true =>
      simp only [if_true] at h₄ ⊢
      refine wpAny_bind (wpAny_bind (no (wpAny_mono h₄ (fun x s₅ h₅ => wpAny_bind (no (wpAny_mono h₅ (fun _ s₆ h₆ => ?_) fun _ _ x => x))) fun _ _ x => x)))
      obtain ⟨P', a, b⟩ := h₆
      exact wpAny_pure (wpAny_pure ⟨rfl, n - (i + 1), by omega, i + 1, P', by omega, rfl, a, b⟩)
    | false =>
      simp only [Bool.false_eq_true, if_false] at h₄ ⊢
      obtain ⟨P', a, b⟩ := h₄
      exact wpAny_pure ⟨rfl, n - (i + 1), by omega, i + 1, P', by omega, rfl, a, b⟩
  · have : i = n := by omega
    subst this
    exact wpAny_bind (wpAny_standAt (wpAny_bind (X.stop P s' _ _ hS fun s₁ h₁ => wpAny_pure (fin P s₁ hJ h₁))))
theorem comp_env {c : Cx} {A : Around} {E : Value → Shared → Prop} {it acc : Value} {elt target iter : Expr} {ifs : List Expr} {scope : Scope} {pos : Pos} {env : Env} {cl : List (Str × Addr)} {P : List HP} {s : Shared} {oth : List (Str × Option Value)} {Q : Value → Shared → Prop}
    (S : St c P s) (hcell : ∀ x ∈ scope.names, x.2 ≠ .cell) (hkind : scope.kind = .function) (hoth : Oth [] scope.names oth) (hnd : nodupB (oth.map (·.1)) = true)
    (hself : ∀ s' C, St c (frm C oth :: P) s' → ∀ (Q : Value → Shared → Prop) E, Q it s' → wpAny c.M A (pyIter it) Q E s')
    (h : ∀ s' C, St c (frm C oth :: P) s' → codeAny c.M A (.compLoop (.ListComp elt [⟨target, iter, ifs, 0⟩] scope pos) 0 it acc (compEnvC scope cl C env)) (fun r s'' => r = .ok .next ∧ ∃ P2 R2 l2, St c P2 s'' ∧ Take (frm C l2) P2 R2 ∧ (∀ s3, St c R2 s3 → Q acc s3)) s') :
    wpAny c.M A (newFunctionEnv scope env.globals cl [] env.qual none .none (some env)) (fun cenv s₄ => codeAny c.M A (.compStart (.ListComp elt [⟨target, iter, ifs, 0⟩] scope pos) 0 it acc { cenv with scope := relabel scope env }) (compPost c.M A E none Q acc cenv.locals) s₄) E s := by
  refine wpAny_newFunctionEnv hcell (by intro y hy; simp at hy) (fun h₁ hns hsb => ?_) hkind
  have hk₁ : ∀ b o, s.heap.get? b = some o → h₁.get? b = some o := fun b o e => hsb.extBut b o (Nat.ne_of_lt (Heap.lt_size e)) (Heap.get?_push_of_some _ e)
  have S1 : St c (frm s.heap.objs.size oth :: P) { s with heap := h₁, toks := s.toks + ([] : List (Str × Value)).length } := by
    refine S.new (s' := { s with heap := h₁, toks := s.toks + ([] : List (Str × Value)).length }) (a := s.heap.objs.size) hk₁ (Nat.le_refl _) ⟨nodupB_iff hnd, ?_⟩
    obtain ⟨o, es, ep, h1, h2, h3, h4⟩ := hns
    refine ⟨o, es, ep, one_self.trans h1, h2, h3, fun x => ?_⟩
    rw [h4, hoth.look]
    rfl
  have loop := codeAny_mono (h _ _ S1) (R' := compPost c.M A E none Q acc s.heap.objs.size) fun r s' z => by
    obtain ⟨rfl, P2, R2, l2, S2, t2, hq⟩ := z
    have S3 := S2.take t2
    refine ⟨look l2, frm_ns S3.get0, fun h' hs => hq _ (Sat.extBut S3 frm_owns hs.extBut)⟩
  exact codeAny_compStart_list loop (hself _ _ S1 _ _ loop)
theorem ListComp_ {c : Cx} {A : Around} {E : Value → Shared → Prop} {elt target iter : Expr} {ifs : List Expr} {scope : Scope} {pos : Pos} {env : Env} {cl : List (Str × Addr)} {s : Shared} {Q : Value → Shared → Prop}
    (h : wpAny c.M A (eval iter env) (fun x s₁ => wpAny c.M A (pyIter x) (fun it s₂ => wpAny c.M A (newList []) (fun acc s₃ =>
      wpAny c.M A (newFunctionEnv scope env.globals cl [] env.qual none .none (some env)) (fun cenv s₄ =>
        codeAny c.M A (.compStart (.ListComp elt [⟨target, iter, ifs, 0⟩] scope pos) 0 it acc { cenv with scope := relabel scope env }) (compPost c.M A E none Q acc cenv.locals) s₄) E s₃) E s₂) E s₁) E s)
    (hclos : closureFor scope env = pure cl) (hkind : scope.kind = .function := by rfl) (hnames : ∀ x ∈ scope.names, x.2 = .local → scope.names.lookup x.1 = some .local := by decide) (hs : ∀ x, foldedSetIterable iter env x = pure x := by intro _; rfl) :
    wpAny c.M A (eval (.ListComp elt [⟨target, iter, ifs, 0⟩] scope pos) env) Q E s := by
  rw [eval_ListComp]; exact wpAny_comprehension_free rfl hs hclos hkind hnames h
section
variable {c : Cx} {A : Around} {E : Value → Shared → Prop} {s : Shared} {P R : List HP} {cn : Str} {cs : Scope} {L a : Addr} {cd : Value} {ccl : List (Str × Addr)} {C : Addr} {scope : Scope} {cl : List (Str × Addr)} {l l' : List (Str × Option Value)} {x : Str} {pos : Pos} {v : Value} {q : Addr} {v0 : Option Value}
abbrev cE (scope : Scope) (cl : List (Str × Addr)) (C : Addr) (env : Env) : Env := compEnvC scope cl C env
variable {env : Env}
theorem cld {Q : Value → Shared → Prop} (S : St c P s) (t : Take (frm C l) P R) (g : (x, some v) ∈ l) (k : Q v s)
    (hk : (compEnvC scope cl C env).scope.kind = .function := by rfl) (hx : (compEnvC scope cl C env).kindOf x = some .local := by rfl) (hd : (x == ("__debug__" : Str)) = false := by decide) :
    wpAny c.M A (eval (.Name x pos) (compEnvC scope cl C env)) Q E s :=
  have f := S.get t
  wpAny_Name (wpAny_loadName_local hk hx (frm_ns f) (look_mem f.1 g) k) hd
theorem cldC {Q : Value → Shared → Prop} (S : St c P s) (hc : cl.lookup x = some q) (t : Take (cel q (some v)) P R) (k : Q v s)
    (hk : (compEnvC scope cl C env).scope.kind = .function := by rfl) (hx : (compEnvC scope cl C env).kindOf x = some .cell := by rfl) (hd : (x == ("__debug__" : Str)) = false := by decide) :
    wpAny c.M A (eval (.Name x pos) (compEnvC scope cl C env)) Q E s := wpAny_Name (wpAny_loadName_cell hk hx hc (S.get t) k) hd
theorem cst {Q : Unit → Shared → Prop} (S : St c P s) (t : Take (frm C l) P R) (p : Put l x v l') (k : ∀ s', St c (frm C l' :: R) s' → Q () s')
    (hk : (compEnvC scope cl C env).scope.kind = .function := by rfl) (hx : (compEnvC scope cl C env).kindOf x = some .local := by rfl) : wpAny c.M A (storeName (compEnvC scope cl C env) x v) Q E s := by
  have S' := S.take t
  have f := S'.get0
  refine wpAny_storeName_local hx (frm_ns f) (fun h' hn hs => k _ ?_) (by rw [hk]; rfl)
  refine S'.upd frm_owns (fun b hb => hs.2 b hb) ⟨p.keys ▸ f.1, ?_⟩
  obtain ⟨o, es, ep, h1, h2, h3, h4⟩ := hn
  exact ⟨o, es, ep, one_self.trans h1, h2, h3, fun y => by rw [h4, p.look f.1]⟩
theorem cstC {Q : Unit → Shared → Prop} (S : St c P s) (hc : cl.lookup x = some q) (t : Take (cel q v0) P R) (k : ∀ s', St c (cel q (some v) :: R) s' → Q () s')
    (hk : (compEnvC scope cl C env).scope.kind = .function := by rfl) (hx : (compEnvC scope cl C env).kindOf x = some .cell := by rfl) : wpAny c.M A (storeName (compEnvC scope cl C env) x v) Q E s := by
  have S' := S.take t
  refine wpAny_storeName_cell hk hx hc S'.get0 fun h' hv hs => k _ (S'.upd cel_owns (fun b hb => hs.2 b hb) ?_)
  obtain ⟨o, h1, h2⟩ := hv
  exact ⟨o, one_self.trans h1, h2⟩
end
theorem l_self {c : Cx} {A : Around} {it l : Addr} {i : Nat} {s : Shared} {P R : List HP} (S : St c P s) (t : Take (lIt it l i) P R) (Q : Value → Shared → Prop) (E : Value → Shared → Prop) (q : Q (.ref it) s) : wpAny c.M A (pyIter (.ref it)) Q E s :=
  wpAny_pyIter_listiter (S.get t : lIt it l i s.heap.get?) q

/-! a generator over rows of three -/
section
variable {prog : Program} {w : World} {A : Around}
structure Quiet3 (prog : Program) (w : World) (cenv : Env) (xa xb xc : Str) (ifs : List Expr) (elt : Expr) (fp wr : List Addr) (Pt : Nat → Array Value → Prop) (pz : Nat → Bool) (F : Nat → Value → Prop) (href : Heap) : Prop where
  tests : ∀ (A' : Around) E' i va vb vc (s₂ : Shared) m₂, A'.handled = none → Pt i #[va, vb, vc] → s₂.heap.Ns cenv.locals m₂ → m₂ xa = some va → m₂ xb = some vb → m₂ xc = some vc → (∀ b ∈ fp, b ∉ wr → ∀ o, href.get? b = some o → s₂.heap.get? b = some o) →
    wpAny (model prog w) A' (forIn ifs true fun c r => if r = true then do let ok ← isTrue c cenv (eval c cenv); pure (ForInStep.yield ok) else pure (ForInStep.yield r)) (fun ok s₃ => ok = pz i ∧ Keeps s₂ s₃) E' s₂
  elt : ∀ (A' : Around) E' i va vb vc (s₂ : Shared) m₂, A'.handled = none → Pt i #[va, vb, vc] → pz i = true → s₂.heap.Ns cenv.locals m₂ → m₂ xa = some va → m₂ xb = some vb → m₂ xc = some vc → (∀ b ∈ fp, b ∉ wr → ∀ o, href.get? b = some o → s₂.heap.get? b = some o) →
    wpAny (model prog w) A' (eval elt cenv) (fun y s₃ => F i y ∧ Keeps s₂ s₃) E' s₂

theorem gen3_loop {elt iter : Expr} {xa xb xc : Str} {pa pb pc pt : Pos} {kt : Nat} {ifs : List Expr} {scope : Scope} {pos : Pos} {I : Addr} {fp wr : List Addr} {n₀ : Nat} {Pt : Nat → Array Value → Prop} {St₀ : Nat → Heap → Prop} {Mid : Nat → Addr → Heap → Prop} {cenv : Env}
    (hh : A.handled = none) (W₀ : ∀ A' : Around, A'.handled = none → WalksU prog w A' I fp wr n₀ Pt St₀ Mid) (hsz : ∀ i vals, Pt i vals → ∃ va vb vc, vals = #[va, vb, vc]) (hab : xa ≠ xb) (hac : xa ≠ xc) (hbc : xb ≠ xc) (pz : Nat → Bool) (F : Nat → Value → Prop) (href : Heap)
    (hxa : cenv.kindOf xa = some .local) (hxb : cenv.kindOf xb = some .local) (hxc : cenv.kindOf xc = some .local) (hp : (cenv.scope.kind == .class || (cenv.scope.kind == .module && cenv.locals != cenv.globals)) = false)
    (hco : cenv.scope.isCoroutine = false) (hCf : cenv.locals ∉ fp) (hq : Quiet3 prog w cenv xa xb xc ifs elt fp wr Pt pz F href) :
    ∀ (k i : Nat) (s₀ s : Shared) (m : Str → Option Value), n₀ - i = k → i ≤ n₀ → St₀ i s.heap → s.heap.Ns cenv.locals m → GenSince cenv.locals wr s₀ s →
      (∀ b ∈ fp, b ∉ wr → ∀ o, href.get? b = some o → s.heap.get? b = some o) →
      Seg (model prog w) A (fun n s₀ r s₁ => r = .ok .next ∧ (n = 0 ∧ GenSince cenv.locals wr s₀ s₁)) (genProto cenv.locals fp wr pz n₀ F) (passing pz n₀ i).length s₀
        (.compLoop (.GeneratorExp elt [⟨.Tuple [.Name xa pa, .Name xb pb, .Name xc pc] kt pt, iter, ifs, 0⟩] scope pos) 0 (.ref I) .none cenv)
        ((model prog w).den (.compLoop (.GeneratorExp elt [⟨.Tuple [.Name xa pa, .Name xb pb, .Name xc pc] kt pt, iter, ifs, 0⟩] scope pos) 0 (.ref I) .none cenv)) [] s := by
  have hh' : (A.over (.compLoop (.GeneratorExp elt [⟨.Tuple [.Name xa pa, .Name xb pb, .Name xc pc] kt pt, iter, ifs, 0⟩] scope pos) 0 (.ref I) .none cenv) []).handled = none := hh
  have hCw : cenv.locals ∉ wr := fun h => hCf ((W₀ A hh).sub _ h)
  intro k
  induction k with
  | zero =>
    intro i s₀ s m hk hi hst hn hsince hkp
    have hin : i = n₀ := by omega
    subst hin
    show Seg _ A _ _ _ s₀ _ ((compTurn (.GeneratorExp elt [⟨.Tuple [.Name xa pa, .Name xb pb, .Name xc pc] kt pt, iter, ifs, 0⟩] scope pos) 0 (.ref I) .none cenv).onRaise (leaving cenv)) [] s
    rw [compTurn_gen, Sem.onRaise_eq_wrap]
    refine seg_bind_wrap (wpAny_standAt ?_)
    refine seg_bind_wrap ((W₀ _ hh').done s _ _ hst fun h' tk hk' => ?_)
    exact seg_end (.ok .next) ⟨rfl, by rw [passing_end]; rfl, hsince.step fun b o _ hw e => hk' b o hw e⟩
  | succ k ih =>
    intro i s₀ s m hk hi hst hn hsince hkp
    have hlt : i < n₀ := by omega
    show Seg _ A _ _ _ s₀ _ ((compTurn (.GeneratorExp elt [⟨.Tuple [.Name xa pa, .Name xb pb, .Name xc pc] kt pt, iter, ifs, 0⟩] scope pos) 0 (.ref I) .none cenv).onRaise (leaving cenv)) [] s
    rw [compTurn_gen, Sem.onRaise_eq_wrap]
    refine seg_bind_wrap (wpAny_standAt ?_)
    refine seg_bind_wrap ((W₀ _ hh').item i s _ _ hlt hst fun T vals h₁ tk₁ hPv hT₁ hmid hk₁ => ?_)
    obtain ⟨va, vb, vc, rfl⟩ := hsz i vals hPv
    refine seg_bind_wrap ((W₀ _ hh').go _ _ _ i T _ _ _ hmid fun h₁' hst₁ hk₁' => ?_)
    have hT₁' : h₁'.IsTuple T #[va, vb, vc] := let ⟨o, e, r⟩ := hT₁; ⟨o, hk₁' _ o ((W₀ _ hh').apart i T _ hmid) e, r⟩
    refine seg_bind_wrap (wpAny_assign_Tuple hh' hT₁' rfl rfl fun h₁'' hx₁ => ?_)
    replace hx₁ : Heap.ExtBut h₁'.objs.size h₁' h₁'' := hx₁
    have old₁ : ∀ b o, h₁'.get? b = some o → h₁''.get? b = some o := fun b o e => hx₁ b o (Nat.ne_of_lt (Heap.lt_size e)) e
    show wpAny _ _ (do holding [vb, vc] (assign (.Name xa pa) cenv va); do holding [vc] (assign (.Name xb pb) cenv vb); do holding [] (assign (.Name xc pc) cenv vc); pure ()) _ _ _
    refine wpAny_bind (wpAny_holding (wpAny_assign_Name (wpAny_storeName_local hxa (hn.at' fun o e => old₁ _ o (hk₁' _ o hCw (hk₁ _ o hCw e))) (fun h₂a hn₂a hs₂a => ?_) hp)))
    replace hs₂a : Heap.SameBut cenv.locals h₁'' h₂a := hs₂a
    refine wpAny_bind (wpAny_holding (wpAny_assign_Name (wpAny_storeName_local hxb hn₂a (fun h₂b hn₂b hs₂b => ?_) hp)))
    replace hs₂b : Heap.SameBut cenv.locals h₂a h₂b := hs₂b
    refine wpAny_bind (wpAny_holding (wpAny_assign_Name (wpAny_storeName_local hxc hn₂b (fun h₂ hn₂ hs₂ => wpAny_pure ?_) hp)))
    replace hs₂ : Heap.SameBut cenv.locals h₂b h₂ := hs₂
    have up₂ : ∀ b o, b ≠ cenv.locals → b ∉ wr → s.heap.get? b = some o → h₂.get? b = some o := fun b o hbC hbw e => hs₂.extBut b o hbC (hs₂b.extBut b o hbC (hs₂a.extBut b o hbC (old₁ b o (hk₁' b o hbw (hk₁ b o hbw e)))))
    have hst₂ : St₀ (i + 1) h₂ := (W₀ A hh).frame _ _ _ hst₁ fun b hb o e => hs₂.extBut b o (fun h => hCf (h ▸ hb)) (hs₂b.extBut b o (fun h => hCf (h ▸ hb)) (hs₂a.extBut b o (fun h => hCf (h ▸ hb)) (old₁ b o e)))
    have hkp₂ : ∀ b ∈ fp, b ∉ wr → ∀ o, href.get? b = some o → h₂.get? b = some o := fun b hb hbw o e => up₂ b o (fun h => hCf (h ▸ hb)) hbw (hkp b hb hbw o e)
    refine seg_bind_wrap (wpAny_mono (hq.tests _ _ i va vb vc _ _ hh' hPv hn₂ (by simp [hab, hac]) (by simp [hbc]) (by simp) hkp₂) (fun ok s₃ h₃ => ?_) fun _ _ e => e)
    obtain ⟨rfl, h₃, tk₃, rfl, hk₃⟩ := h₃
    have hst₃ : St₀ (i + 1) h₃ := (W₀ A hh).frame _ _ _ hst₂ fun b _ o e => hk₃ b o e
    have hn₃ := hn₂.keeps hk₃
    have hsince₃ : GenSince cenv.locals wr s₀ { s with heap := h₃, toks := tk₃ } := hsince.step fun b o hbC hbw e => hk₃ b o (up₂ b o hbC hbw e)
    cases hpz : pz i with
    | false =>
      rw [passing_false hlt hpz]
      simp only [Bool.false_eq_true, if_false]
      exact seg_again rfl (ih (i + 1) s₀ _ _ (by omega) hlt hst₃ hn₃ hsince₃ fun b hb hbw o e => hk₃ b o (hkp₂ b hb hbw o e))
    | true =>
      rw [passing_true hlt hpz, List.length_cons]
      simp only [if_true]
      have hy : ∀ v, yieldOut cenv v = yieldValue v := fun v => by simp only [yieldOut, hco, Bool.false_eq_true, if_false]
      simp only [hy]
      rw [Sem.bind_eq_wrap', Sem.bind_eq_wrap', Sem.wrap_wrap, Sem.wrap_wrap]
      refine seg_wrap (wpAny_mono (hq.elt _ _ i va vb vc _ _ hh' hPv hpz hn₃ (by simp [hab, hac]) (by simp [hbc]) (by simp) fun b hb hbw o e => hk₃ b o (hkp₂ b hb hbw o e)) (fun y s₄ h₄ => ?_) fun _ _ e => e)
      obtain ⟨hFy, h₄, tk₄, rfl, hk₄⟩ := h₄
      refine seg_at (seg_yield rfl rfl rfl ⟨⟨i, passing_here hlt hpz, hFy⟩, hsince₃.step fun b o _ _ e => hk₄ b o e, fun s'' hal => ?_⟩)
      refine seg_again rfl (ih (i + 1) s'' s'' _ (by omega) hlt ((W₀ A hh).frame _ _ _ hst₃ fun b hb o e => hal b (List.mem_cons_of_mem _ hb) o (hk₄ b o e))
        ((hn₃.keeps hk₄).at' fun o e => hal _ (List.mem_cons_self ..) o e) (GenSince.refl _ _ _) fun b hb hbw o e => hal b (List.mem_cons_of_mem _ hb) o (hk₄ b o (hk₃ b o (hkp₂ b hb hbw o e))))

theorem gen3_start {elt iter : Expr} {xa xb xc : Str} {pa pb pc pt : Pos} {kt : Nat} {ifs : List Expr} {scope : Scope} {pos : Pos} {I : Addr} {fp wr : List Addr} {n₀ : Nat} {Pt : Nat → Array Value → Prop} {St₀ : Nat → Heap → Prop} {Mid : Nat → Addr → Heap → Prop} {cenv : Env}
    (hh : A.handled = none) (W₀ : ∀ A' : Around, A'.handled = none → WalksU prog w A' I fp wr n₀ Pt St₀ Mid) (hsz : ∀ i vals, Pt i vals → ∃ va vb vc, vals = #[va, vb, vc]) (hab : xa ≠ xb) (hac : xa ≠ xc) (hbc : xb ≠ xc) (pz : Nat → Bool) (F : Nat → Value → Prop) (href : Heap)
    (hxa : cenv.kindOf xa = some .local) (hxb : cenv.kindOf xb = some .local) (hxc : cenv.kindOf xc = some .local) (hp : (cenv.scope.kind == .class || (cenv.scope.kind == .module && cenv.locals != cenv.globals)) = false)
    (hco : cenv.scope.isCoroutine = false) (hCf : cenv.locals ∉ fp) (hq : Quiet3 prog w cenv xa xb xc ifs elt fp wr Pt pz F href)
    (s₀ s : Shared) (m : Str → Option Value) (hst : St₀ 0 s.heap) (hn : s.heap.Ns cenv.locals m) (hsince : GenSince cenv.locals wr s₀ s)
    (hkp : ∀ b ∈ fp, b ∉ wr → ∀ o, href.get? b = some o → s.heap.get? b = some o) :
    Seg (model prog w) A (fun n s₀ r s₁ => r = .ok .next ∧ (n = 0 ∧ GenSince cenv.locals wr s₀ s₁)) (genProto cenv.locals fp wr pz n₀ F) (passing pz n₀ 0).length s₀
      (.compStart (.GeneratorExp elt [⟨.Tuple [.Name xa pa, .Name xb pb, .Name xc pc] kt pt, iter, ifs, 0⟩] scope pos) 0 (.ref I) .none cenv)
      ((model prog w).den (.compStart (.GeneratorExp elt [⟨.Tuple [.Name xa pa, .Name xb pb, .Name xc pc] kt pt, iter, ifs, 0⟩] scope pos) 0 (.ref I) .none cenv)) [] s := by
  have hh' : (A.over (.compStart (.GeneratorExp elt [⟨.Tuple [.Name xa pa, .Name xb pb, .Name xc pc] kt pt, iter, ifs, 0⟩] scope pos) 0 (.ref I) .none cenv) []).handled = none := hh
  have loop := gen3_loop (iter := iter) (pa := pa) (pb := pb) (pc := pc) (pt := pt) (kt := kt) (scope := scope) (pos := pos) hh W₀ hsz hab hac hbc pz F href hxa hxb hxc hp hco hCf hq n₀ 0 s₀ s m (Nat.sub_zero _) (Nat.zero_le _) hst hn hsince hkp
  show Seg _ A _ _ _ s₀ _ ((compStart (.GeneratorExp elt [⟨.Tuple [.Name xa pa, .Name xb pb, .Name xc pc] kt pt, iter, ifs, 0⟩] scope pos) 0 (.ref I) .none cenv).onRaise (leaving cenv)) [] s
  unfold compStart
  rw [Sem.onRaise_eq_wrap]
  show Seg _ A _ _ _ s₀ _ ((ask >>= _).wrap _ _ _ _) [] s
  refine seg_bind_wrap (wpAny_askSetting ?_)
  split
  · exact seg_again rfl loop
  · first
      | exact seg_bind_wrap (wpAny_rule (seg_bind_wrap (wpAny_standAt (seg_bind_wrap ((W₀ _ hh').self 0 s _ _ hst (seg_again rfl loop))))))
      | (refine seg_bind_wrap (wpAny_rule ?_); show Seg _ A _ _ _ s₀ _ ((standAt iter.pos >>= _).wrap _ _ _ _) [] s; exact seg_bind_wrap (wpAny_standAt (seg_bind_wrap ((W₀ _ hh').self 0 s _ _ hst (seg_again rfl loop)))))
end
section
variable {prog : Program} {w : World} {A : Around} {E : Value → Shared → Prop} {s : Shared}
theorem gen3 {env : Env} {elt iter : Expr} {xa xb xc : Str} {pa pb pc pt : Pos} {kt : Nat} {ifs : List Expr} {scope : Scope} {cl : List (Str × Addr)} {pos : Pos} {Q : Value → Shared → Prop}
    (hh : A.handled = none) (hco : scope.isCoroutine = false) (hclos : closureFor scope env = pure cl) (hcell : ∀ y ∈ scope.names, y.2 ≠ .cell) (h0 : scope.names.lookup (".0" : Str) = some NameKind.local)
    (hxa : scope.names.lookup xa = some .local) (hxb : scope.names.lookup xb = some .local) (hxc : scope.names.lookup xc = some .local) (hab : xa ≠ xb) (hac : xa ≠ xc) (hbc : xb ≠ xc) (hkind : scope.kind = .function) (hroom : A.depth < recursionLimit)
    (h : wpAny (model prog w) A (eval iter env) (fun xv s₁ => wpAny (model prog w) A (pyIter xv) (fun it s₂ => s₂.heap.NoLimit ∧
      wpAny (model prog w) A (genexprCode env pos (env.qual ++ "<genexpr>") scope) (fun code s₃ => wpAny (model prog w) A (builtinsFor env.globals env.builtins) (fun bi s₄ =>
        ∃ I fp wr n₀ Pt St₀ Mid pz F, it = .ref I ∧ (∀ A' : Around, A'.handled = none → WalksU prog w A' I fp wr n₀ Pt St₀ Mid) ∧ (∀ i vals, Pt i vals → ∃ va vb vc, vals = #[va, vb, vc]) ∧ St₀ 0 s₄.heap ∧ (∀ b ∈ fp, b < s₄.heap.objs.size) ∧ s₄.heap.NoLimit ∧ cStatics ∉ wr ∧
          (∀ href : Heap, (∀ b o, s₄.heap.get? b = some o → href.get? b = some o) →
            Quiet3 prog w (genEnv scope cl s₄.heap.objs.size code bi env) xa xb xc ifs elt (List.range s₄.heap.objs.size) wr Pt pz F href) ∧
          (∀ a h₅ tk gs, gs.bare = true → s₄.heap.objs.size < a → h₅.objs.size = a + 1 → (∀ b o, s₄.heap.get? b = some o → h₅.get? b = some o) →
            WalksS prog w A.in4 a (a :: s₄.heap.objs.size :: List.range s₄.heap.objs.size) (s₄.heap.objs.size :: wr) (GenOnlyQ s₄.gens.size) (passing pz n₀ 0).length
              (fun j y => ∃ i, (passing pz n₀ 0)[j]? = some i ∧ F i y) (GenAt prog w A.in4 a s₄.gens.size s₄.heap.objs.size (List.range s₄.heap.objs.size) wr pz n₀ F) →
            GenAt prog w A.in4 a s₄.gens.size s₄.heap.objs.size (List.range s₄.heap.objs.size) wr pz n₀ F 0 { s₄ with gens := s₄.gens.push gs, toks := tk, heap := h₅ } →
            Q (.ref a) { s₄ with gens := s₄.gens.push gs, toks := tk, heap := h₅ })) E s₃) E s₂) E s₁) E s)
    (hs : ∀ x, genFold iter env x = pure x) :
    wpAny (model prog w) A (eval (.GeneratorExp elt [⟨.Tuple [.Name xa pa, .Name xb pb, .Name xc pc] kt pt, iter, ifs, 0⟩] scope pos) env) Q E s := by
  refine wpAny_GeneratorExp_make hco hclos hcell h0 hkind hroom (wpAny_mono h (fun xv s₁ h₁ => wpAny_mono h₁ (fun it s₂ h₂ => ⟨h₂.1, wpAny_mono h₂.2 (fun code s₃ h₃ => wpAny_mono h₃ (fun bi s₄ h₄ => ?_)
    fun _ _ e => e) fun _ _ e => e⟩) fun _ _ e => e) fun _ _ e => e) hs
  obtain ⟨I, fp, wr, n₀, Pt, St₀, Mid, pz, F, rfl, W₀, hsz2, hst, hfp, hl₄, hcw, hq, hQ⟩ := h₄
  have hclt : cStatics < s₄.heap.objs.size := let ⟨_, hn, _⟩ := hl₄; hn.lt
  intro h' hn' hs'
  have hsz : h'.objs.size = s₄.heap.objs.size + 1 := by rw [hs'.1, Heap.size_push]
  have keep' : ∀ b o, s₄.heap.get? b = some o → h'.get? b = some o := fun b o e => hs'.extBut b o (Nat.ne_of_lt (Heap.lt_size e)) (Heap.get?_push_of_some _ e)
  have hsub : ∀ b ∈ wr, b ∈ List.range s₄.heap.objs.size := fun b hb => List.mem_range.mpr (hfp b ((W₀ A hh).sub b hb))
  have haC : h'.objs.size ≠ s₄.heap.objs.size := by rw [hsz]; exact Nat.succ_ne_self _
  have haf : h'.objs.size ∉ List.range s₄.heap.objs.size := fun hm => by have := List.mem_range.mp hm; omega
  have keep₅ : ∀ b o, s₄.heap.get? b = some o → (h'.push { cls := .type "generator", data := .fields #[.int s₄.gens.size 0, .str "<genexpr>" (s₄.toks + 1), .str (env.qual ++ "<genexpr>") (s₄.toks + 1 + 1)] }).get? b = some o :=
    fun b o e => Heap.get?_push_of_some _ (keep' b o e)
  refine hQ _ _ _ _ rfl (by omega) (by rw [Heap.size_push]) keep₅ (WalksS.genexpQ (A := A.in4) hh _ _ _ _ wr pz n₀ F haC haf hsub hroom (List.mem_range.mpr hclt) (Nat.ne_of_lt hclt) hcw) ?_
  have hk : (genEnv scope cl s₄.heap.objs.size code bi env).scope.kind = .function := hkind
  refine ⟨⟨_, _, _, Heap.get?_push_size _ rfl, rfl, rfl, rfl⟩, hl₄.keeps keep₅, _, Array.getElem?_push_size .., fun s'' hal => ⟨rfl, gen3_start (A := A.in4.in1) (cenv := genEnv scope cl s₄.heap.objs.size code bi env) hh
    (fun A' hA => (W₀ A' hA).mono_fp fun b hb => List.mem_range.mpr (hfp b hb)) hsz2 hab hac hbc pz F _ hxa hxb hxc (by rw [hk]; rfl) hco (fun hm => Nat.lt_irrefl _ (List.mem_range.mp hm)) (hq _ keep₅) s'' s''
    (fun y => if y = ".0" then some (.ref I) else none) ?_ ?_ (GenSince.refl _ _ _) fun b hb _ o e => hal b (List.mem_cons_of_mem _ hb) o e⟩⟩
  · exact (W₀ A hh).frame _ _ _ hst fun b hb o e => hal b (List.mem_cons_of_mem _ (List.mem_range.mpr (hfp b hb))) o (keep₅ b o e)
  · exact (hn'.push _).at' fun o e => hal _ (List.mem_cons_self ..) o e
end

theorem cmp_inf (n : Int) : Float64.cmpInt infB n = some Ordering.gt := by
  unfold Float64.cmpInt
  rw [show Float64.decode infB = .inf false by kernel_rfl]
  rfl
section
variable {c : Cx} {A : Around} {E : Value → Shared → Prop} {s : Shared} {P R : List HP} {T cd a L : Addr} {qs : List (Pos × Str)} {ks : List (Addr × Str)} {qual cn : Str} {scope cs : Scope} {cl : List (Str × Addr)} {pos : Pos} {Q : Value → Shared → Prop}
theorem mk_gx (S : St c P s) (t : Take (tabX T qs ks) P R) (C : CodeHd c.h₀ cd T) (hqs : (pos, qual) ∈ qs) (hqd : ∀ p ∈ qs, ((p.1.line : Int) == (pos.line : Int) && (p.1.col : Int) == (pos.col : Int)) = true → p.2 = qual)
    (h : ∀ s' c', St c (tabX T qs ((c', qual) :: ks) :: R) s' → Q (.ref c') s') :
    wpAny c.M A (genexprCode (envX cn cs L a (.ref cd) cl) pos qual scope) Q E s := by
  obtain ⟨l, ha, hb, S1, hgT, hbT⟩ := mk_prep S t
  have hP : s.heap.get? T = some (tabObj (enc l).toArray) := S1.get (X := pt T (tabObj (enc l).toArray)) .head
  have Ck : CodeHd s.heap cd T := C.keeps ((sub_uni_left _ _).trans S.keep)
  cases hf : l.find? fun e => (e.pos.line : Int) == (pos.line : Int) && (e.pos.col : Int) == (pos.col : Int) with
  | some e =>
    have hm := List.mem_of_find?_eq_some hf
    have hq : e.q = qual := hqd _ (ha e hm) (by have := List.find?_some hf; exact this)
    refine wpAny_genexprCode_hit rfl (Ck.code hP (by simpa using enc_ok l)) (c' := .ref e.c) (by rw [List.toList_toArray, enc_among, hf]; rfl) ?_
    refine h _ e.c (S1.mono fun d hd => Sat.head_mono (fun d hd => ⟨l, ha, fun k hk => ?_, hd⟩) (Sat.unflat (l := pt T (tabObj (enc l).toArray) :: l.map fun e : Ent => code e.c e.q) hd))
    rcases List.mem_cons.mp hk with rfl | hk
    · exact ⟨e, hm, rfl, hq⟩
    · exact hb k hk
  | none =>
    refine wpAny_genexprCodeX rfl (Ck.code hP (by simpa using enc_ok l)) (Ck.tab hP) (by rw [List.toList_toArray, enc_among, hf]; rfl) fun c' h' tk hx hge hlt _ hrec htb _ => ?_
    obtain ⟨c₂, oc, vs, tq, e2, hoc, hd, hv⟩ := hrec
    cases e2
    have htb' : h'.get? T = some (tabObj (enc (l ++ [(⟨pos, qual, c'⟩ : Ent)])).toArray) := by
      rw [htb.2, enc_append]; simp
    have S2 := (S1.updNew (h' := h') (X1 := pt T (tabObj (enc (l ++ [(⟨pos, qual, c'⟩ : Ent)])).toArray)) (X2 := code c' qual) (n := c') pt_owns (fun b o hb e => hx b o hb e) (one_self.trans htb') ⟨oc, vs, tq, one_self.trans hoc, hd, hv⟩ hge).tok (t := tk)
    refine h _ c' (S2.mono fun d hd => Sat.head_mono (fun d hd => ⟨l ++ [(⟨pos, qual, c'⟩ : Ent)], fun e he => ?_, fun k hk => ?_, hd⟩)
      (Sat.unflat (l := pt T (tabObj (enc (l ++ [(⟨pos, qual, c'⟩ : Ent)])).toArray) :: (l ++ [(⟨pos, qual, c'⟩ : Ent)]).map fun e : Ent => code e.c e.q) (Sat.cons_mono (fun d hd => ?_) hd)))
    · rcases List.mem_append.mp he with he | he
      · exact ha e he
      · rw [List.mem_singleton.mp he]; exact hqs
    · rcases List.mem_cons.mp hk with rfl | hk
      · exact ⟨_, List.mem_append_right _ (.head _), rfl, rfl⟩
      · obtain ⟨e, he, r⟩ := hb k hk
        exact ⟨e, List.mem_append_left _ he, r⟩
    · have p : (code c' qual :: ((l.map fun e : Ent => code e.c e.q) ++ R)).Perm (((l ++ [(⟨pos, qual, c'⟩ : Ent)]).map fun e : Ent => code e.c e.q) ++ R) := by
        rw [List.map_append, List.append_assoc]
        exact List.perm_middle.symm
      exact Sat.perm p hd
end
theorem gen_sum {c : Cx} {A : Around} {E : Value → Shared → Prop} {s : Shared} {P R0 R1 R2 : List HP} {T cd a L el q : Addr} {qs : List (Pos × Str)} {ks : List (Addr × Str)} {cn xa xb xc y : Str} {scope cs : Scope} {cl ccl : List (Str × Addr)} {pos pa pb pc pt pe p1 p2 p3 : Pos} {kt : Nat} {iter : Expr} {ts : List Addr} {vals : List Int} {ti : Tok} {Q : Value → Shared → Prop}
    (S : St c P s) (hh : A.handled = none) (hroom : A.depth < recursionLimit) (tT : Take (tabX T qs ks) P R0) (C : CodeHd c.h₀ cd T) (hqs : (pos, (envX cn cs L a (.ref cd) ccl).qual ++ "<genexpr>") ∈ qs)
    (hqd : ∀ p ∈ qs, ((p.1.line : Int) == (pos.line : Int) && (p.1.col : Int) == (pos.col : Int)) = true → p.2 = (envX cn cs L a (.ref cd) ccl).qual ++ "<genexpr>")
    (hit : ∀ (Q : Value → Shared → Prop), Q (.ref el) s → wpAny c.M A (eval iter (envX cn cs L a (.ref cd) ccl)) Q E s)
    (t1 : Take (lst el (ts.map Value.ref)) R0 R1) (hlen : vals.length = ts.length)
    (hT : ∀ s', St c R0 s' → ∀ j, j < ts.length → ∃ va vb tk, s'.heap.IsTuple (ts.getD j 0) #[va, vb, .int (vals.getD j 0) tk])
    (tc : Take (cel q (some (.float infB ti))) R0 R2) (hcl : cl.lookup y = some q)
    (hco : scope.isCoroutine = false) (hclos : closureFor scope (envX cn cs L a (.ref cd) ccl) = pure cl) (hcell : ∀ y ∈ scope.names, y.2 ≠ .cell) (h0 : scope.names.lookup (".0" : Str) = some NameKind.local)
    (hxa : scope.names.lookup xa = some .local) (hxb : scope.names.lookup xb = some .local) (hxc : scope.names.lookup xc = some .local) (hy : scope.names.lookup y = some .free) (hab : xa ≠ xb) (hac : xa ≠ xc) (hbc : xb ≠ xc) (hkind : scope.kind = .function)
    (hd1 : (xc == ("__debug__" : Str)) = false) (hd2 : (y == ("__debug__" : Str)) = false) (hd3 : (y == ("__classdict__" : Str)) = false)
    (h : ∀ s5 ag, (∀ (E' : Value → Shared → Prop) (Q' : Value → Shared → Prop), (∀ s' t, St c (tabX T qs ks :: R0) s' → Q' (.int vals.sum t) s') → wpAny c.M A (call (.builtin "sum") [.ref ag]) Q' E' s5) → Q (.ref ag) s5)
    (hs : ∀ x, genFold iter (envX cn cs L a (.ref cd) ccl) x = pure x) :
    wpAny c.M A (eval (.GeneratorExp (.Name xc pe) [⟨.Tuple [.Name xa pa, .Name xb pb, .Name xc pc] kt pt, iter, [.Compare (.Name xc p1) [.NotEq] [.Name y p2] p3], 0⟩] scope pos) (envX cn cs L a (.ref cd) ccl)) Q E s := by
  refine gen3 hh hco hclos hcell h0 hxa hxb hxc hab hac hbc hkind hroom (hit _ ?_) hs
  have t1' : Take (lst el (ts.map Value.ref)) (tabX T qs ks :: R0) (tabX T qs ks :: R1) := .tail t1
  have S0 := S.take tT
  refine wpAny_pyIter_list (lst_isList (S0.get t1')) ?_
  have S1 := S0.alloc (o := { cls := .type "list_iterator", data := .fields #[.ref el, .int 0 0] }) (X := lIt s.heap.objs.size el 0) rfl ⟨_, one_self, rfl, rfl⟩
  refine ⟨S1.T.nolimit, mk_gx S1 (.tail .head) C hqs hqd fun s₄ c' S4 => ?_⟩
  obtain ⟨bm, ob, b1, b2, b3, b4, b5, b6, b7⟩ := c.bm
  refine wpAny_builtinsFor S4.T.g b1 b2 (S4.keep _ _ (sub_uni_left _ _ _ _ b4)) b5 b6 b7 ?_
  have hTs := hT s₄ S4.drop.drop
  have hitr : s₄.heap.IsListIter s.heap.objs.size el 0 := S4.drop.get0
  have hls : s₄.heap.IsList el (ts.map Value.ref).toArray := lst_isList (S4.drop.drop.get t1)
  have hne : el ≠ s.heap.objs.size := by
    obtain ⟨n, hl⟩ := S0.get t1'
    exact Nat.ne_of_lt (Heap.lt_size hl)
  obtain ⟨vf, hvf⟩ := Classical.axiomOfChoice (r := fun (j : Nat) (v : Array Value) => j < ts.length → s₄.heap.IsTuple (ts.getD j 0) v ∧ ∃ va vb tk, v = #[va, vb, .int (vals.getD j 0) tk]) fun j => by
    by_cases hj : j < ts.length
    · obtain ⟨va, vb, tk, hx⟩ := hTs j hj
      exact ⟨_, fun _ => ⟨hx, va, vb, tk, rfl⟩⟩
    · exact ⟨#[], fun e => absurd e hj⟩
  have hsz0 : (ts.map Value.ref).toArray.size = ts.length := by simp
  have hTI : ∀ j, j < ts.length → ts.getD j 0 ≠ s.heap.objs.size := by
    intro j hj e
    obtain ⟨va, vb, tk, o, ho, hc, n, hd⟩ := hTs j hj
    rw [e] at ho
    obtain ⟨o', ho', hc', _⟩ := hitr
    rw [ho] at ho'
    cases ho'
    rw [hc] at hc'
    exact absurd hc' (by decide)
  have hcell4 : s₄.heap.IsCell q (some (.float infB ti)) := S4.drop.drop.get tc
  have hqlt : q < s₄.heap.objs.size := let ⟨o, ho, _⟩ := hcell4; Heap.lt_size ho
  have hqne : q ≠ s.heap.objs.size := by
    rintro rfl
    obtain ⟨o, ho, hd⟩ := hcell4
    obtain ⟨o', ho', _, hd'⟩ := hitr
    rw [ho] at ho'
    cases ho'
    rw [hd] at hd'
    cases hd'
  refine ⟨s.heap.objs.size, s.heap.objs.size :: el :: (List.range (ts.map Value.ref).toArray.size).map (fun j => ts.getD j 0), [s.heap.objs.size], (ts.map Value.ref).toArray.size, fun i v => i < (ts.map Value.ref).toArray.size ∧ v = vf i,
    fun j h => h.IsListIter s.heap.objs.size el j ∧ h.IsList el (ts.map Value.ref).toArray ∧ ∀ k, k < (ts.map Value.ref).toArray.size → h.IsTuple (ts.getD k 0) (vf k), _, fun _ => true, fun i v => ∃ tk, v = .int (vals.getD i 0) tk, rfl,
    fun A' hA => (WalksU.listOfTuples hA s.heap.objs.size el hne (ts.map Value.ref).toArray (fun j => ts.getD j 0) vf (fun j hj => ?_) fun j hj => hTI j (by rw [← hsz0]; exact hj)).bound, ?_, ⟨hitr, hls, fun k hk => (hvf k (by rw [← hsz0]; exact hk)).1⟩, ?_, S4.T.nolimit, ?_, ?_, ?_⟩
  · have : j < ts.length := by rw [← hsz0]; exact hj
    simp [this]
  · rintro i vals' ⟨hi, rfl⟩
    obtain ⟨va, vb, tk, e⟩ := (hvf i (by rw [← hsz0]; exact hi)).2
    exact ⟨va, vb, _, e⟩
  · intro b hb
    rcases List.mem_cons.mp hb with rfl | hb
    · obtain ⟨o, ho, _⟩ := hitr; exact Heap.lt_size ho
    · rcases List.mem_cons.mp hb with rfl | hb
      · obtain ⟨o, ho, _⟩ := hls; exact Heap.lt_size ho
      · obtain ⟨j, hj, rfl⟩ := List.mem_map.mp hb
        have hj' : j < ts.length := by rw [← hsz0]; exact List.mem_range.mp hj
        obtain ⟨o, ho, _⟩ := (hvf j hj').1
        exact Heap.lt_size ho
  · obtain ⟨mc, hn, _⟩ := S.T.nolimit
    intro hm
    rw [List.mem_singleton.mp hm] at hn
    exact Nat.lt_irrefl _ hn.lt
  · intro href hk
    have hcell' : href.IsCell q (some (.float infB ti)) := let ⟨o, ho, hd⟩ := hcell4; ⟨o, hk _ _ ho, hd⟩
    refine ⟨fun A' E' i va vb vc s₂ m₂ hA hP hn hma hmb hmc hfp => ?_, fun A' E' i va vb vc s₂ m₂ hA hP _ hn hma hmb hmc hfp => ?_⟩
    · obtain ⟨hi, hv⟩ := hP
      obtain ⟨va', vb', tk, e⟩ := (hvf i (by rw [← hsz0]; exact hi)).2
      rw [← hv] at e
      have e3 : vc = .int (vals.getD i 0) tk := by have := congrArg (fun a : Array Value => a[2]?) e; simpa using this
      subst e3
      obtain ⟨o, ho, hd⟩ := hcell'
      have hc2 : s₂.heap.IsCell q (some (.float infB ti)) := ⟨o, hfp q (List.mem_range.mpr hqlt) (by simpa using hqne) o ho, hd⟩
      refine wpAny_tests_one (wpAny_isTrue_Compare1 ?_)
      refine wpAny_Name (wpAny_loadName_local hkind hxc hn hmc ?_) hd1
      refine wpAny_Name (wpAny_loadName_free hkind hy hcl hc2 ?_ hd3) hd2
      refine ne_if ?_
      rw [cmp_inf]
      exact wpAny_truthy_bool ⟨rfl, _, _, rfl, fun _ _ e => e⟩
    · obtain ⟨hi, hv⟩ := hP
      obtain ⟨va', vb', tk, e⟩ := (hvf i (by rw [← hsz0]; exact hi)).2
      rw [← hv] at e
      have e3 : vc = .int (vals.getD i 0) tk := by have := congrArg (fun a : Array Value => a[2]?) e; simpa using this
      subst e3
      exact wpAny_Name (wpAny_loadName_local hkind hxc hn hmc ⟨⟨tk, rfl⟩, _, _, rfl, fun _ _ e => e⟩) hd1
  · intro ag h₅ tk gs hgs hlt hsz5 hk5 W hst
    refine h _ ag fun E' Q' hq' => ?_
    have hp : passing (fun _ => true) (ts.map Value.ref).toArray.size 0 = List.range ts.length := by simp [passing]
    have W1 := W.in4_1
    refine call_sum_walkAnyS (W1.self 0 _ _ _ hst ⟨ag, _, _, _, _, _, _, fun j => vals.getD j 0, rfl, W1, hst, ?_, ?_, ?_⟩)
    · intro b hb
      show b < h₅.objs.size
      rw [hsz5]
      rcases List.mem_cons.mp hb with rfl | hb
      · exact Nat.lt_succ_self _
      · rcases List.mem_cons.mp hb with rfl | hb
        · exact Nat.lt_succ_of_lt hlt
        · exact Nat.lt_succ_of_lt (Nat.lt_trans (List.mem_range.mp hb) hlt)
    · rintro j v ⟨i, hi, tk', rfl⟩
      rw [hp] at hi
      obtain ⟨h1, h2⟩ := List.getElem?_eq_some_iff.mp hi
      rw [List.getElem_range] at h2
      subst h2
      exact ⟨tk', rfl⟩
    · intro s' t' hm
      have e1 : preSum (fun j => vals.getD j 0) (passing (fun _ => true) (ts.map Value.ref).toArray.size 0).length = vals.sum := by
        rw [hp, List.length_range, preSum_getD, ← hlen, List.take_length]
      rw [e1]
      refine hq' _ _ ?_
      have S5 : St c (lIt s.heap.objs.size el 0 :: tabX T qs ((c', (envX cn cs L a (.ref cd) ccl).qual ++ "<genexpr>") :: ks) :: R0) s₄ := S4.mono fun _ hd => Sat.swap hd
      have hx : Heap.ExtBut s.heap.objs.size s₄.heap s'.heap := fun b o hb e => hm.heap b o (by
        have := Heap.lt_size e
        simp only [List.mem_cons, List.not_mem_nil, or_false, not_or]
        exact ⟨Nat.ne_of_lt this, hb⟩) (hk5 b o e)
      have S6 : St c (tabX T qs ((c', (envX cn cs L a (.ref cd) ccl).qual ++ "<genexpr>") :: ks) :: R0) { s₄ with heap := s'.heap } := Sat.extBut S5 lIt_owns hx
      have S7 := S6.head_mono (tabX_weak (ks' := ks) fun k hk => List.mem_cons_of_mem _ hk)
      exact ⟨S7.keep, S7.own, hm.os.trans S4.os, AllBare.moved (AllBare.push S4.gens hgs) hm.gens⟩

theorem comp_envU {c : Cx} {A : Around} {E : Value → Shared → Prop} {it acc : Value} {elt target iter : Expr} {ifs : List Expr} {scope : Scope} {pos : Pos} {env : Env} {cl : List (Str × Addr)} {P : List HP} {s : Shared} {oth : List (Str × Option Value)} {u : Value → Sem Unit} {Q : Value → Shared → Prop}
    (S : St c P s) (hcell : ∀ x ∈ scope.names, x.2 ≠ .cell) (hkind : scope.kind = .function) (hoth : Oth [] scope.names oth) (hnd : nodupB (oth.map (·.1)) = true)
    (hself : ∀ s' C, St c (frm C oth :: P) s' → ∀ (Q : Value → Shared → Prop) E, Q it s' → wpAny c.M A (pyIter it) Q E s')
    (h : ∀ s' C, St c (frm C oth :: P) s' → codeAny c.M A (.compLoop (.ListComp elt [⟨target, iter, ifs, 0⟩] scope pos) 0 it acc (compEnvC scope cl C env)) (fun r s'' => r = .ok .next ∧ wpAny c.M A (u acc) (fun _ s3 => ∃ P3 R3 l3, St c P3 s3 ∧ Take (frm C l3) P3 R3 ∧ ∀ s4, St c R3 s4 → Q .none s4) E s'') s') :
    wpAny c.M A (newFunctionEnv scope env.globals cl [] env.qual none .none (some env)) (fun cenv s₄ => codeAny c.M A (.compStart (.ListComp elt [⟨target, iter, ifs, 0⟩] scope pos) 0 it acc { cenv with scope := relabel scope env }) (compPost c.M A E (some u) Q acc cenv.locals) s₄) E s := by
  refine wpAny_newFunctionEnv hcell (by intro y hy; simp at hy) (fun h₁ hns hsb => ?_) hkind
  have hk₁ : ∀ b o, s.heap.get? b = some o → h₁.get? b = some o := fun b o e => hsb.extBut b o (Nat.ne_of_lt (Heap.lt_size e)) (Heap.get?_push_of_some _ e)
  have S1 : St c (frm s.heap.objs.size oth :: P) { s with heap := h₁, toks := s.toks + ([] : List (Str × Value)).length } := by
    refine S.new (s' := { s with heap := h₁, toks := s.toks + ([] : List (Str × Value)).length }) (a := s.heap.objs.size) hk₁ (Nat.le_refl _) ⟨nodupB_iff hnd, ?_⟩
    obtain ⟨o, es, ep, h1, h2, h3, h4⟩ := hns
    refine ⟨o, es, ep, one_self.trans h1, h2, h3, fun x => ?_⟩
    rw [h4, hoth.look]
    rfl
  have loop := codeAny_mono (h _ _ S1) (R' := compPost c.M A E (some u) Q acc s.heap.objs.size) fun r s' z => by
    obtain ⟨rfl, hz⟩ := z
    refine wpAny_mono hz (fun _ s3 h3 => ?_) fun _ _ x => x
    obtain ⟨P3, R3, l3, S2, t2, hq⟩ := h3
    have S3 := S2.take t2
    exact ⟨look l3, frm_ns S3.get0, fun h' hs => hq _ (Sat.extBut S3 frm_owns hs.extBut)⟩
  exact codeAny_compStart_list loop (hself _ _ S1 _ _ loop)
theorem Assign_ListComp_ {c : Cx} {A : Around} {E : Value → Shared → Prop} {elt target iter : Expr} {ifs : List Expr} {scope : Scope} {pos spos py : Pos} {y : Str} {env : Env} {cl : List (Str × Addr)} {s : Shared} {Q : Flow → Shared → Prop}
    (h : wpAny c.M A (eval iter env) (fun x s₁ => wpAny c.M A (pyIter x) (fun it s₂ => wpAny c.M A (newList []) (fun acc s₃ =>
      wpAny c.M A (newFunctionEnv scope env.globals cl [] env.qual none .none (some env)) (fun cenv s₄ =>
        codeAny c.M A (.compStart (.ListComp elt [⟨target, iter, ifs, 0⟩] scope pos) 0 it acc { cenv with scope := relabel scope env }) (compPost c.M A E (some (assign (.Name y py) env)) (fun _ s' => Q .next s') acc cenv.locals) s₄) E s₃) E s₂) E s₁) E s)
    (hsw : swapsWith (.ListComp elt [⟨target, iter, ifs, 0⟩] scope pos) (some (.Name y py)) spos.line env = pure true) (hclos : closureFor scope env = pure cl) (hkind : scope.kind = .function := by rfl) (hnames : ∀ x ∈ scope.names, x.2 = .local → scope.names.lookup x.1 = some .local := by decide) (hs : ∀ x, foldedSetIterable iter env x = pure x := by intro _; rfl) :
    wpAny c.M A (exec (.Assign [.Name y py] (.ListComp elt [⟨target, iter, ifs, 0⟩] scope pos) spos) env) Q E s := by
  rw [exec_Assign_Name_used _ _ _ _ hsw]
  refine wpAny_bind (wpAny_standAt (wpAny_bind ?_))
  show wpAny _ A (do let _ ← comprehension (.ListComp elt [⟨target, iter, ifs, 0⟩] scope pos) scope env _ (newList []) false (eval iter env) (some (assign (.Name y py) env))) _ _ s
  refine wpAny_bind (wpAny_mono (wpAny_comprehension_free (use := some (assign (.Name y py) env)) (Q := fun _ s' => Q .next s') rfl hs hclos hkind hnames h) (fun _ s' h' => wpAny_pure (wpAny_pure h')) fun _ _ x => x)
theorem l_own {c : Cx} {A : Around} {E : Value → Shared → Prop} {s : Shared} {P R : List HP} {elts : List Expr} {x1} {pos : Pos} {I l : Addr} {i : Nat} {v : Value} {Q : Unit → Shared → Prop} (S : St c P s) (t : Take (lIt I l i) P R) (hv : ∃ T, v = .ref T) (hQ : Q () s) :
    wpAny c.M A (letOwnedTupleGo (.Tuple elts x1 pos) (.ref I) v) Q E s := by
  obtain ⟨T, rfl⟩ := hv
  exact wpAny_letOwnedTupleGo_listiter (S.get t : lIt I l i s.heap.get?) hQ
theorem ev_fin {c : Cx} {A : Around} {s : Shared} {P1 R1 R2 : List HP} {x dx : Addr} {kvs : List (Str × Value)} {args : List Value} {kw : List (Str × Value)} {Q : Value → Shared → Prop} (S : St c P1 s) (t1 : Take (pt x (instObj 146 dx)) P1 R1) (t2 : Take (dS c dx kvs) P1 R2)
    (h : codeAny c.M A (.call (.ref 143) ⟨.ref x :: args, kw⟩) (fun r s' => match r with | .ok (.ret v) => Q v s' | _ => False) s) :
    ∃ P1 R1 R2 kvs, St c P1 s ∧ Take (pt x (instObj 146 dx)) P1 R1 ∧ Take (dS c dx kvs) P1 R2 ∧ codeAny c.M A (.call (.ref 143) ⟨.ref x :: args, kw⟩) (fun r s' => match r with | .ok (.ret v) => Q v s' | _ => False) s := ⟨_, _, _, _, S, t1, t2, h⟩
theorem fr_fin {c : Cx} {s : Shared} {P3 R3 : List HP} {C : Addr} {l3 : List (Str × Option Value)} {Q : Shared → Prop} (S : St c P3 s) (t : Take (frm C l3) P3 R3) (h : ∀ s4, St c R3 s4 → Q s4) : ∃ P3 R3 l3, St c P3 s ∧ Take (frm C l3) P3 R3 ∧ ∀ s4, St c R3 s4 → Q s4 := ⟨_, _, _, S, t, h⟩
section
variable {c : Cx} {A : Around} {E : Value → Shared → Prop} {P R : List HP} {s : Shared} {a b : Int} {t u : Tok} {Q : Value → Shared → Prop}
theorem mulI (S : St c P s) (hm : IntMulOk a b) (h : ∀ s' t, St c P s' → Q (.int (a * b) t) s') : wpAny c.M A (binaryOp .Mult (.int a t) (.int b u)) Q E s := PyProof.Rows.mul_int (h _ _ S.tok) hm
theorem truI {Q : Bool → Shared → Prop} (h : Q (a != 0) s) : wpAny c.M A (truthy (.int a t)) Q E s := PyProof.Rows.truthy_int h
end
theorem or_one {c : Cx} {A : Around} {E : Value → Shared → Prop} {P : List HP} {s : Shared} {a : Int} {t : Tok} {k : Nat} {pos : Pos} {env : Env} {G : Value → Shared → Prop} {B : Prop} (S : St c P s) (hB : G (.int a t) s → B) (h : ∀ s' t, St c P s' → G (.int (if a = 0 then 1 else a) t) s') :
    if (a != 0) = true then B else wpAny c.M A (eval (.Constant (.int 1) k pos) env) G E s := by
  by_cases ha : a = 0
  · subst ha
    rw [if_neg (by simp)]
    exact cI S fun s' t S' => by have := h s' t S'; simpa using this
  · rw [if_pos (by simpa using ha)]
    have := h s t S
    rw [if_neg ha] at this
    exact hB this
theorem minI {c : Cx} {A : Around} {E : Value → Shared → Prop} {P : List HP} {s : Shared} {a b : Int} {t u : Tok} {Q : Value → Shared → Prop} (S : St c P s) (hh : A.handled = none) (h : ∀ s' t, St c P s' → Q (.int (if b < a then b else a) t) s') : wpAny c.M A (call (.builtin "min") [.int a t, .int b u]) Q E s := by
  refine min_two_ints hh fun h' tk hk => ?_
  have S2 : St c P { s with heap := h', toks := tk } := (S.ext (s' := { s with heap := h' }) hk).tok
  split
  · rename_i hb
    have := h _ u S2
    rwa [if_pos hb] at this
  · rename_i hb
    have := h _ t S2
    rwa [if_neg hb] at this

theorem Iter.frame {c : Cx} {A : Around} {it : Value} {n : Nat} {I : Nat → List HP} {V : Nat → Value → Prop} {O : Nat → Value → List HP} {Fin : List HP} (X : Iter c A it n I V O Fin) (F : List HP) : Iter c A it n (fun i => I i ++ F) V (fun i v => O i v ++ F) (Fin ++ F) := by
  refine ⟨fun i hi P s Q E S h => ?_, fun P s Q E S h => ?_⟩
  · rw [List.append_assoc] at S
    exact X.next i hi _ s Q E S fun s' v hv S' => h s' v hv (by rw [List.append_assoc]; exact S')
  · rw [List.append_assoc] at S
    exact X.stop _ s Q E S fun s' S' => h s' (by rw [List.append_assoc]; exact S')
theorem iterG {c : Cx} {A : Around} {E : Value → Shared → Prop} {s : Shared} {P R1 R2 : List HP} {x dx : Addr} {kvs : List (Str × Value)} {Q : Value → Shared → Prop} (S : St c P s) (t1 : Take (pt x (instObj 420 dx)) P R1) (t2 : Take (dS c dx kvs) P R2)
    (h : codeAny c.M A (.call (.ref 196) ⟨[.ref x], []⟩) (fun r s' => match r with | .ok (.ret v) => s'.TypeIs v "dict_keyiterator" ∧ Q v s' | _ => False) s) : wpAny c.M A (pyIter (.ref x)) Q E s := by
  obtain ⟨od, I, hl⟩ := inst_at S t1 t2
  have X := S.K
  have hs := (gs_iter c.w.params).1
  have hf := (gs_iter c.w.params).2.1
  have h' : wpAny c.M A (call (.ref 196) [.ref x]) (fun v s' => s'.TypeIs v "dict_keyiterator" ∧ Q v s') E s := wpAny_call (codeAny_mono h fun r s' z => by rcases r with e | (_ | _ | _ | v) <;> first | exact z.elim | exact z)
  have fin : wpAny c.M A (call (.ref 196) [.ref x] >>= fun v => pure (some v)) (fun r s' => ∃ v, r = some v ∧ s'.TypeIs v "dict_keyiterator" ∧ Q v s') E s :=
    wpAny_bind (wpAny_mono h' (fun v s' h' => wpAny_pure ⟨v, rfl, h'⟩) fun _ _ z => z)
  have one : ∀ refuse : Sem Value, wpAny c.M A (callSpecialIfBoundUnlessNone? (.ref x) "__iter__" refuse) (fun r s' => ∃ v, r = some v ∧ s'.TypeIs v "dict_keyiterator" ∧ Q v s') E s := by
    intro refuse
    simp only [callSpecialIfBoundUnlessNone?, bindSpecialIfBound?]
    refine wpAny_holding (wpAny_bind (wpAny_bind (wpAny_bind (I.type.here ((looks_findIn X hs).here ?_)))))
    refine wpAny_bind (wpAny_askSetting (wpAny_ite ?_))
    have fin2 : wpAny c.M A (if (Value.ref 196 == Value.none) = true then (refuse >>= fun v => pure (some v)) else (call (.ref 196) [.ref x] >>= fun v => pure (some v))) (fun r s' => ∃ v, r = some v ∧ s'.TypeIs v "dict_keyiterator" ∧ Q v s') E s := by
      rw [if_neg (show ¬ ((Value.ref 196 == Value.none) = true) from Bool.false_ne_true)]
      exact fin
    split
    · exact wpAny_bind ((bind_fn X _ (beq_iff_eq.mp hf)).here (wpAny_pure (by exact fin2)))
    · exact wpAny_tryCatch (wpAny_bind ((bind_fn X _ (beq_iff_eq.mp hf)).here (wpAny_pure (by exact fin2))))
  unfold pyIter
  refine wpAny_bind (wpAny_bind (I.type.here ((looks_findIn X hs).here ?_)))
  show wpAny c.M A (callSpecialIfBoundUnlessNone? (.ref x) "__iter__" _ >>= _) Q E s
  refine wpAny_bind (wpAny_mono (one _) (fun r s' hr => ?_) fun _ _ z => z)
  obtain ⟨v, rfl, hT, hv⟩ := hr
  exact wpAny_bind (wpAny_specialOf hT PySem.F.slot_dict_keyiterator_next.lookup (wpAny_pure hv))
theorem graph_source {c : Cx} {g dx nd : Addr} {n : Nat} {na : Nat → Addr} {kvs : List (Str × Value)} (hk : At kvs "_node" (.ref nd)) : Source c (.ref g) n [pt g (instObj 420 dx), dS c dx kvs, dI c nd (idx n na)] := by
  refine ⟨fun B P s Q rm hB S h => ?_⟩
  simp only [List.cons_append, List.nil_append] at S
  refine' iterG S .head (.tail .head) (g_iter (k := 1) (n := n) (na := na) S (rm.le (by omega)) ?zz1 hk ?_)
  case zz1 => wtm_at "takes"
  clear S; intro s it ep S
  dsimp only
  refine ⟨?_, ?_⟩
  · obtain ⟨o, h1, h2, _⟩ := (S.get0 : kIt it nd 0 n ep s.heap.get?)
    exact ⟨o, h1, h2⟩
  · have X := (keys_iter (c := c) (A := B) (it := it) (knd := intKind Pg c.w) (d := nd) (kvs := idx n na) (ep := ep) hB).frame [pt g (instObj 420 dx), dS c dx kvs]
    rw [idx_length] at X
    refine h s (.ref it) _ _ _ _ X ?_ (fun _ _ => rfl) ?_ S
    · rintro i v ⟨k0, w, h1, h2⟩
      obtain ⟨rfl, -⟩ := idx_get h1
      exact isI_shape h2
    · intro P d hd
      exact Sat.swap (Sat.cons_mono (fun _ hd => Sat.swap hd) (Sat.swap hd)) |> fun h => by
        exact Sat.cons_mono (fun _ hd => hd) (by simpa using Sat.perm (l' := [pt g (instObj 420 dx), dS c dx kvs, dI c nd (idx n na)] ++ P) (by
          simp only [List.cons_append, List.nil_append]
          exact (List.Perm.swap ..).trans ((List.Perm.swap ..).cons _)) hd)
theorem St.shutS {c : Cx} {s : Shared} {P P1 P2 : List HP} {ι : Type} [DecidableEq ι] {l : List ι} {f : ι → HP} {u : ι} (S : St c P s) (t2 : Take (fam (l.erase u) f) P P1) (t1 : Take (f u) P1 P2) (hu : u ∈ l) : St c (fam l f :: P2) s :=
  (((S.takes (.cons t2 (.cons t1 .nil)))).mono fun _ => Sat.swap).mono fun _ h => Sat.permFam (List.perm_cons_erase hu).symm (Sat.consFam h)
theorem LamOk.use {c : Cx} {X : HP} {ks : List (Addr × Str)} {f : Addr} (hL : LamOk c X ks f) {A : Around} {s : Shared} {P R R1 R2 : List HP} {k : Nat} {d : Addr} {kvs : List (Str × Value)} {u v : Value} {Rr : Result → Shared → Prop} (S : St c P s) (rm : Rm A (k + 2)) (t1 : Take X P R) (t2 : Take (tabX 481 capQ ks) R R1) (t3 : Take (dS c d kvs) R1 R2)
    (hq : ∀ s' t, St c (X :: tabX 481 capQ ks :: dS c d kvs :: R2) s' → Rr (.ok (.ret ((valueAt kvs "capacity").getD (.float infB t)))) s') : codeAny c.M A (.call (.ref f) ⟨[u, v, .ref d], []⟩) Rr s := hL _ _ _ _ _ _ _ _ _ _ _ _ S rm t1 t2 t3 hq

/-- the residual graph, so far: the edges laid for the rows `l` -/
structure ResInv (cap : Nat × Nat → Int) (n : Nat) (l : List (Nat × Nat)) (W : GV) : Prop where
  hn : W.n = n
  g : W.gattr = []
  na : ∀ i < n, W.nattr i = []
  ok : W.Ok
  el : ∀ e, e ∈ W.el ↔ (e ∈ l ∨ (e.2, e.1) ∈ l)
  at_ : ∀ e ∈ W.el, ∃ t : Tok, W.eattr e = [(Str.ofString "capacity", Value.int (if e ∈ l then cap e else 0) t)]
  len : W.el.length ≤ 2 * l.length
theorem ResInv.start {cap n} {W : GV} (h1 : W.n = n) (h2 : W.el = []) (h3 : W.gattr = []) (h4 : ∀ i < n, W.nattr i = []) (h5 : n ≤ 100) : ResInv cap n [] W :=
  ⟨h1, h3, h4, ⟨by rw [h2]; exact List.nodup_nil, by rw [h2]; simp, by rw [h1]; exact h5, by rw [h2]; simp⟩, by rw [h2]; simp, by rw [h2]; simp, by rw [h2]; simp⟩
theorem ResInv.both {cap n} {l : List (Nat × Nat)} {W : GV} {u v : Nat} {t t' : Tok} (I : ResInv cap n l W) (hu : u < n) (hv : v < n) (huv : u ≠ v) (hn : (u, v) ∉ l) (hw : (u, v) ∉ W.el) (hl : l.length ≤ 400) :
    ResInv cap n (l ++ [(u, v)]) ((W.put (u, v) (.int (cap (u, v)) t)).put (v, u) (.int 0 t')) := by
  have hw2 : (v, u) ∉ W.el := fun h => hw ((I.el _).mpr (((I.el _).mp h).symm))
  have hl2 : (v, u) ∉ l := fun h => hw2 ((I.el _).mpr (.inl h))
  have hne : (u, v) ≠ (v, u) := fun h => huv (by cases h; rfl)
  have e1 : (W.put (u, v) (.int (cap (u, v)) t)).el = W.el ++ [(u, v)] := by simp [GV.put, hw]
  have hw3 : (v, u) ∉ (W.put (u, v) (.int (cap (u, v)) t)).el := by
    rw [e1]; simp [hw2]; intro a b; exact huv b
  have e2 : ((W.put (u, v) (.int (cap (u, v)) t)).put (v, u) (.int 0 t')).el = W.el ++ [(u, v), (v, u)] := by
    show (if (v, u) ∈ (W.put (u, v) (.int (cap (u, v)) t)).el then _ else (W.put (u, v) (.int (cap (u, v)) t)).el ++ [(v, u)]) = _
    rw [if_neg hw3, e1, List.append_assoc]; rfl
  refine ⟨I.hn, I.g, I.na, ⟨?_, ?_, I.ok.small, ?_⟩, ?_, ?_, ?_⟩
  · rw [e2, List.nodup_append]
    refine ⟨I.ok.nd, by simp [hne], fun a ha b hb e => ?_⟩
    subst e
    simp at hb
    rcases hb with rfl | rfl
    · exact hw ha
    · exact hw2 ha
  · rw [e2]
    intro e he
    rcases List.mem_append.mp he with he | he
    · exact I.ok.lt e he
    · have h1 := I.hn
      simp at he
      show e.1 < W.n ∧ e.2 < W.n
      rcases he with rfl | rfl <;> simp [h1, hu, hv]
  · rw [e2, List.length_append]; have := I.len; simp; omega
  · intro e
    rw [e2]
    obtain ⟨p, q⟩ := e
    have := I.el (p, q)
    simp only [List.mem_append, List.mem_cons, List.not_mem_nil, or_false, this, Prod.mk.injEq]
    constructor
    · rintro ((h | h) | h | h)
      · exact .inl (.inl h)
      · exact .inr (.inl h)
      · exact .inl (.inr h)
      · exact .inr (.inr ⟨h.2, h.1⟩)
    · rintro ((h | h) | (h | h))
      · exact .inl (.inl h)
      · exact .inr (.inl h)
      · exact .inl (.inr h)
      · exact .inr (.inr ⟨h.2, h.1⟩)
  · intro e he
    rw [e2] at he
    by_cases h1 : e = (v, u)
    · subst h1
      refine ⟨t', ?_⟩
      have : ¬ ((v, u) ∈ l ++ [(u, v)]) := by simp [hl2]; intro a b; exact huv b
      rw [if_neg this]
      show (if (v, u) = (v, u) then (if (v, u) ∈ (W.put (u, v) (.int (cap (u, v)) t)).el then _ else [(Str.ofString "capacity", Value.int 0 t')]) else _) = _
      rw [if_pos rfl, if_neg hw3]
    · by_cases h2 : e = (u, v)
      · subst h2
        refine ⟨t, ?_⟩
        rw [if_pos (by simp)]
        simp [GV.put, h1, hw]
      · have he' : e ∈ W.el := by
          rcases List.mem_append.mp he with he | he
          · exact he
          · simp at he; rcases he with he | he
            · exact absurd he h2
            · exact absurd he h1
        obtain ⟨t0, h0⟩ := I.at_ e he'
        refine ⟨t0, ?_⟩
        have hm : e ∈ l ++ [(u, v)] ↔ e ∈ l := by simp [h2]
        simp only [hm]
        rw [← h0]
        simp [GV.put, h1, h2]
  · rw [e2, List.length_append, List.length_append]; have := I.len; simp; omega
theorem ResInv.one {cap n} {l : List (Nat × Nat)} {W : GV} {u v : Nat} {t : Tok} (I : ResInv cap n l W) (hn : (u, v) ∉ l) (hw : (u, v) ∈ W.el) : ResInv cap n (l ++ [(u, v)]) (W.put (u, v) (.int (cap (u, v)) t)) := by
  have hl2 : (v, u) ∈ l := ((I.el _).mp hw).resolve_left hn
  have e1 : (W.put (u, v) (.int (cap (u, v)) t)).el = W.el := by simp [GV.put, hw]
  refine ⟨I.hn, I.g, I.na, ⟨by rw [e1]; exact I.ok.nd, by rw [e1]; exact I.ok.lt, I.ok.small, by rw [e1]; exact I.ok.few⟩, ?_, ?_, ?_⟩
  · intro e
    rw [e1]
    obtain ⟨p, q⟩ := e
    have := I.el (p, q)
    simp only [List.mem_append, List.mem_cons, List.not_mem_nil, or_false, this, Prod.mk.injEq]
    constructor
    · rintro (h | h)
      · exact .inl (.inl h)
      · exact .inr (.inl h)
    · rintro ((h | h) | (h | h))
      · exact .inl h
      · obtain ⟨rfl, rfl⟩ := h; exact .inr hl2
      · exact .inr h
      · obtain ⟨rfl, rfl⟩ := h; exact .inl hl2
  · intro e he
    rw [e1] at he
    by_cases h2 : e = (u, v)
    · subst h2
      refine ⟨t, ?_⟩
      rw [if_pos (by simp)]
      obtain ⟨t0, h0⟩ := I.at_ _ hw
      show (if (u, v) = (u, v) then (if (u, v) ∈ W.el then stored (W.eattr (u, v)) "capacity" _ else _) else _) = _
      rw [if_pos rfl, if_pos hw, h0, if_neg hn]
      rfl
    · obtain ⟨t0, h0⟩ := I.at_ e he
      refine ⟨t0, ?_⟩
      have hm : e ∈ l ++ [(u, v)] ↔ e ∈ l := by simp [h2]
      simp only [hm]
      rw [← h0]
      simp [GV.put, h2]
  · rw [e1, List.length_append]; have := I.len; simp; omega

theorem ch_res (P : Params) {h : Heap} (K : (hd.heap_39 P).In h) : CodeHd h 478 476 := ⟨_, _, _, _, _, _, _, _, _, K _ _ (by exact rfl), rfl, rfl, rfl, rfl, rfl, rfl, rfl, rfl, by decide⟩
def resQ : List (Pos × Str) := [({ line := 323, col := 18, endLine := 323, endCol := 64 }, "build_residual_network.<locals>.<genexpr>")]
/-- the rows that are kept: no edge from a node to itself -/
def keptTo (V : GV) (i : Nat) : List (Nat × Nat) := ((rowsTo V V.n).take i).filter fun e => e.1 != e.2
def row3 (cap : Nat × Nat → Int) (p : Addr × (Nat × Nat)) : HP := fun D => ∃ t1 t2 t3, tup p.1 [.int p.2.1 t1, .int p.2.2 t2, .int (cap p.2) t3] D
instance {cap : Nat × Nat → Int} {p : Addr × (Nat × Nat)} : Up (row3 cap p) := ⟨fun _ _ s ⟨t1, t2, t3, n, h⟩ => ⟨t1, t2, t3, n, s _ _ h⟩⟩
theorem rowsTo_mem {V : GV} {i : Nat} {e : Nat × Nat} (h : e ∈ rowsTo V i) : e ∈ V.el ∧ e.1 < i := by
  unfold rowsTo at h
  obtain ⟨u, hu, he⟩ := List.mem_flatMap.mp h
  have h1 := List.mem_filter.mp he
  have : e.1 = u := by simpa using h1.2
  exact ⟨h1.1, by rw [this]; exact List.mem_range.mp hu⟩
theorem fresh_graph {c : Cx} {P R : List HP} {s : Shared} {x dx gd nd ad pd : Addr} (S : St c P s) (tk : Takes [pt x (instObj 420 dx), dS c dx [("_pred", .ref pd), ("graph", .ref gd), ("_node", .ref nd), ("_adj", .ref ad)], dS c gd [], dI c nd [], dI c ad [], dI c pd []] P R) :
    ∃ (a : GA) (V : GV), a.g = x ∧ V.n = 0 ∧ V.el = [] ∧ V.gattr = [] ∧ St c (graphR c a V ++ R) s := by
  refine ⟨⟨x, dx, gd, nd, ad, pd, fun _ => 0, fun _ => 0, fun _ => 0, fun _ => 0⟩, ⟨0, [], [], fun _ => [], fun _ => []⟩, rfl, rfl, rfl, rfl, ?_⟩
  have S1 := S.takes tk
  have S2 := (((S1.emp (ι := Nat) (fun i => dS c 0 [])).emp (ι := Nat) (fun i => dI c 0 (succE [] (fun _ => 0) i))).emp (ι := Nat) (fun i => dI c 0 (predE [] (fun _ => 0) i))).emp (ι := Nat × Nat) (fun e => dS c 0 [])
  refine S2.perm ?_
  simp only [List.cons_append, List.nil_append]
  show List.Perm _ (pt x (instObj 420 dx) :: dS c dx [("_pred", .ref pd), ("graph", .ref gd), ("_node", .ref nd), ("_adj", .ref ad)] :: dS c gd [] :: dI c nd [] :: dI c ad [] :: dI c pd [] :: fam ([] : List Nat) (fun i => dS c 0 []) :: fam ([] : List Nat) (fun i => dI c 0 (succE [] (fun _ => 0) i)) :: fam ([] : List Nat) (fun i => dI c 0 (predE [] (fun _ => 0) i)) :: fam ([] : List (Nat × Nat)) (fun e => dS c 0 []) :: R)
  have q : ∀ (A B C D : HP) (l r : List HP), List.Perm (D :: C :: B :: A :: (l ++ r)) (l ++ (A :: B :: C :: D :: r)) := by
    intro A B C D l r
    have e : l ++ (A :: B :: C :: D :: r) = l ++ ([A, B, C, D] ++ r) := rfl
    rw [e]
    have h1 : List.Perm (D :: C :: B :: A :: (l ++ r)) ([A, B, C, D] ++ (l ++ r)) := by
      have : List.Perm [D, C, B, A] [A, B, C, D] := List.reverse_perm [A, B, C, D]
      exact this.append_right (l ++ r)
    refine h1.trans ?_
    rw [← List.append_assoc, ← List.append_assoc]
    exact List.perm_append_comm.append_right r
  exact q _ _ _ _ [_, _, _, _, _, _] R
def kept (V : GV) : List (Nat × Nat) := (rowsTo V V.n).filter fun e => e.1 != e.2
theorem rowsTo_nodup {V : GV} (h : V.el.Nodup) : ∀ i, (rowsTo V i).Nodup
  | 0 => by simp [rowsTo]
  | i + 1 => by
    have ih := rowsTo_nodup h i
    have e : rowsTo V (i + 1) = rowsTo V i ++ V.el.filter fun e => e.1 == i := by
      unfold rowsTo; rw [List.range_succ, List.flatMap_append]; simp
    rw [e, List.nodup_append]
    refine ⟨ih, h.filter _, fun a ha b hb q => ?_⟩
    subst q
    have h1 := (rowsTo_mem ha).2
    have h2 := (List.mem_filter.mp hb).2
    simp at h2; omega
theorem nodup_sub_len {α : Type} [DecidableEq α] : ∀ {l m : List α}, l.Nodup → (∀ x ∈ l, x ∈ m) → l.length ≤ m.length
  | [], m, _, _ => Nat.zero_le _
  | a :: r, m, hn, hs => by
    rw [List.nodup_cons] at hn
    have ha := hs a (.head _)
    have := nodup_sub_len (m := m.erase a) hn.2 fun x hx => (List.mem_erase_of_ne (fun (q : x = a) => hn.1 (by rw [← q]; exact hx))).mpr (hs x (.tail _ hx))
    have e := List.length_erase_of_mem ha
    have := List.length_pos_of_mem ha
    simp only [List.length_cons]; omega
theorem kept_nodup {V : GV} (h : V.el.Nodup) : (kept V).Nodup := (rowsTo_nodup h _).filter _
theorem kept_mem {V : GV} {e : Nat × Nat} (ok : V.Ok) : e ∈ kept V ↔ e ∈ V.el ∧ e.1 ≠ e.2 := by
  unfold kept
  rw [List.mem_filter]
  constructor
  · rintro ⟨a, b⟩; exact ⟨(rowsTo_mem a).1, by simpa using b⟩
  · rintro ⟨a, b⟩
    refine ⟨?_, by simpa using b⟩
    unfold rowsTo
    exact List.mem_flatMap.mpr ⟨e.1, List.mem_range.mpr (ok.lt e a).1, List.mem_filter.mpr ⟨a, by simp⟩⟩
theorem kept_len {V : GV} (ok : V.Ok) : (kept V).length ≤ V.el.length := nodup_sub_len (kept_nodup ok.nd) fun _ h => ((kept_mem ok).mp h).1
def infOf (cap : Nat × Nat → Int) (K : List (Nat × Nat)) : Int := if 3 * (K.map cap).sum = 0 then 1 else 3 * (K.map cap).sum
theorem le_sum_map {cap : Nat × Nat → Int} {K : List (Nat × Nat)} (h : ∀ e ∈ K, 0 ≤ cap e) : 0 ≤ (K.map cap).sum ∧ ∀ e ∈ K, cap e ≤ (K.map cap).sum := by
  induction K with
  | nil => simp
  | cons a r ih =>
    obtain ⟨i1, i2⟩ := ih fun e he => h e (.tail _ he)
    have := h a (.head _)
    refine ⟨by simp; omega, fun e he => ?_⟩
    rcases List.mem_cons.mp he with rfl | he
    · simp; omega
    · have := i2 e he; simp; omega
theorem infOf_ge {cap : Nat × Nat → Int} {K : List (Nat × Nat)} (h : ∀ e ∈ K, 1 ≤ cap e) {e : Nat × Nat} (he : e ∈ K) : cap e ≤ infOf cap K := by
  have := (le_sum_map (cap := cap) (K := K) fun e he => by have := h e he; omega).2 e he
  have := h e he
  unfold infOf; split <;> omega
theorem two_le {cap : Nat × Nat → Int} : ∀ {K : List (Nat × Nat)}, (∀ e ∈ K, 1 ≤ cap e) → K.Nodup → ∀ e1 ∈ K, ∀ e2 ∈ K, e1 ≠ e2 → cap e1 + cap e2 ≤ (K.map cap).sum
  | [], _, _, e1, h, _, _, _ => nomatch h
  | a :: r, h, hn, e1, h1, e2, h2, hne => by
    rw [List.nodup_cons] at hn
    have hr : ∀ e ∈ r, 0 ≤ cap e := fun e he => by have := h e (.tail _ he); omega
    have ha := h a (.head _)
    rw [List.map_cons, List.sum_cons]
    rcases List.mem_cons.mp h1 with q1 | q1 <;> rcases List.mem_cons.mp h2 with q2 | q2
    · exact absurd (q1.trans q2.symm) hne
    · have := (le_sum_map hr).2 e2 q2; rw [q1]; omega
    · have := (le_sum_map hr).2 e1 q1; rw [q2]; omega
    · have := two_le (fun e he => h e (.tail _ he)) hn.2 e1 q1 e2 q2 hne; omega
theorem infOf_two {cap : Nat × Nat → Int} {K : List (Nat × Nat)} (h : ∀ e ∈ K, 1 ≤ cap e) (hn : K.Nodup) (hl : ∀ e ∈ K, e.1 ≠ e.2) (x y : Nat) : 2 * ((if (x, y) ∈ K then cap (x, y) else 0) + (if (y, x) ∈ K then cap (y, x) else 0)) ≤ infOf cap K := by
  have hr : ∀ e ∈ K, 0 ≤ cap e := fun e he => by have := h e he; omega
  have h0 := (le_sum_map hr).1
  have key : (if (x, y) ∈ K then cap (x, y) else 0) + (if (y, x) ∈ K then cap (y, x) else 0) ≤ (K.map cap).sum := by
    by_cases q1 : (x, y) ∈ K <;> by_cases q2 : (y, x) ∈ K
    · rw [if_pos q1, if_pos q2]
      exact two_le h hn _ q1 _ q2 (fun e => hl _ q1 (by cases e; rfl))
    · rw [if_pos q1, if_neg q2]; have := (le_sum_map hr).2 _ q1; omega
    · rw [if_neg q1, if_pos q2]; have := (le_sum_map hr).2 _ q2; omega
    · rw [if_neg q1, if_neg q2]; omega
  revert key
  generalize ((if (x, y) ∈ K then cap (x, y) else 0) + (if (y, x) ∈ K then cap (y, x) else 0)) = z
  intro key
  unfold infOf; split <;> omega
theorem infOf_one {cap : Nat × Nat → Int} {K : List (Nat × Nat)} (h : ∀ e ∈ K, 1 ≤ cap e) : 1 ≤ infOf cap K := by
  have hr : ∀ e ∈ K, 0 ≤ cap e := fun e he => by have := h e he; omega
  have h0 := (le_sum_map hr).1
  unfold infOf; split <;> omega

/-! the functions' own texts, read off the heap -/
structure FnD where
  (name qual : Str)
  params : Arguments
  body : List Stmt
  scope : Scope
def FnAs (f : Addr) (cd : Value) (d : FnD) : Prop := ∀ P : Params, ∃ oc od dV kV doc pm an ct osl, (hd.heap_39 P).lookup f = some ⟨oc, od, .func (fnX d.name d.qual d.params d.body d.scope [] dV kV doc pm an cd ct), osl⟩
def d479 : { d : FnD // FnAs 479 (.ref 478) d } := ⟨⟨_, _, _, _, _⟩, fun P => ⟨_, _, _, _, _, _, _, _, _, by exact rfl⟩⟩
def thenOf : List Stmt → List Stmt
  | .If _ t _ _ :: _ => t
  | _ => []
def forOf : List Stmt → List Stmt
  | .For _ _ t _ _ :: _ => t
  | _ => []
def d493 : { d : FnD // FnAs 493 (.ref 492) d } := ⟨⟨_, _, _, _, _⟩, fun P => ⟨_, _, _, _, _, _, _, _, _, by exact rfl⟩⟩
def stAt (l : List Stmt) (i : Nat) : Stmt := match l.drop i with
  | a :: _ => a
  | [] => .Pass ⟨0, 0, 0, 0⟩
def bodyOf : Stmt → List Stmt
  | .While _ b _ _ => b
  | .For _ _ b _ _ => b
  | .If _ b _ _ => b
  | _ => []
def fnOf (q : Str) : Stmt → FnD
  | .FunctionDef name args body _ _ _ scope _ _ _ => ⟨name, q, args, body, scope⟩
  | _ => ⟨q, q, ⟨[], [], none, [], [], none, []⟩, [], ⟨.function, [], false, false, default⟩⟩
def qAug : Str := "shortest_augmenting_path_impl.<locals>.augment"
def qRel : Str := "shortest_augmenting_path_impl.<locals>.relabel"
def dAug : FnD := fnOf qAug (stAt d493.1.body 17)
def dRel : FnD := fnOf qRel (stAt d493.1.body 18)
def handOf : Stmt → List Stmt
  | .Try _ (.ExceptHandler _ _ b _ :: _) _ _ _ => b
  | _ => []
def lastOf : List Stmt → Stmt
  | [] => .Pass ⟨0, 0, 0, 0⟩
  | [a] => a
  | _ :: r => lastOf r
/-- the inner loop's body -/
def dIn : List Stmt := bodyOf (stAt (bodyOf (stAt d493.1.body 25)) 2)

theorem GV.put_ok {V : GV} {u v : Nat} {w : Value} (ok : V.Ok) (hu : u < V.n) (hv : v < V.n) (hl : V.el.length < 1000) : (V.put (u, v) w).Ok := by
  refine ⟨?_, ?_, ok.small, ?_⟩
  · unfold GV.put; dsimp only
    split
    · exact ok.nd
    · rename_i h
      rw [List.nodup_append]
      refine ⟨ok.nd, by simp, fun a ha b hb e => ?_⟩
      simp at hb; subst hb; subst e; exact h ha
  · intro e he
    unfold GV.put at he; dsimp only at he
    split at he
    · exact ok.lt e he
    · rcases List.mem_append.mp he with he | he
      · exact ok.lt e he
      · simp at he; subst he; exact ⟨hu, hv⟩
  · unfold GV.put; dsimp only
    have := ok.few
    split
    · exact this
    · rw [List.length_append, List.length_singleton]; omega
theorem res_loop {c : Cx} {A : Around} {s : Shared} {P R : List HP} {k n : Nat} {L nw : Addr} {b : GA} {W : GV} {t2 : List Addr} {K : List (Nat × Nat)} {cap : Nat × Nat → Int} {inf : Int} {tin : Tok} {vG vc vu vv vr : Option Value} {Q : Flow → Shared → Prop}
    (S : St c P s) (rm : Rm A (k + 16)) (hh : A.handled = none) (hA : A.handled = c.hx) (ht2 : t2.length = K.length) (hnd : K.Nodup) (hK : ∀ e ∈ K, e.1 < n ∧ e.2 < n ∧ e.1 ≠ e.2 ∧ cap e ≤ inf) (hl : K.length ≤ 400) (I0 : ResInv cap n [] W)
    (tk : Takes (frm L [("G", vG), ("R", some (.ref b.g)), ("u", vu), ("v", vv), ("edge_list", some (.ref nw)), ("r", vr)] :: lst nw (t2.map Value.ref) :: fam (t2.zip K) (row3 cap) :: cel (L + 2) vc :: cel (L + 3) (some (.int inf tin)) :: graphR c b W) P R)
    (h : ∀ s' b' W' vu vv vr vc, b'.g = b.g → ResInv cap n K W' → St c (frm L [("G", vG), ("R", some (.ref b'.g)), ("u", vu), ("v", vv), ("edge_list", some (.ref nw)), ("r", vr)] :: lst nw (t2.map Value.ref) :: fam (t2.zip K) (row3 cap) :: cel (L + 2) vc :: cel (L + 3) (some (.int inf tin)) :: (graphR c b' W' ++ R)) s' → Q .next s') :
    let env := envX d479.1.qual d479.1.scope L 479 (.ref 478) [("inf", L + 3), ("cap", L + 2), ("capacity", L + 1)]; wpAny c.M A (execs (thenOf (d479.1.body.drop 7)) env) Q NoE s := by
  intro env
  dsimp only [d479, List.drop, thenOf]
  replace S := S.takes tk
  clear tk
  simp only [List.cons_append] at S
  wtm_at "ws"
  refine' for_rule (Ex := fun _ _ => []) (l_walk (it := it) (l := nw) (vs := t2.map Value.ref) hh) (fun i P' => ∃ (b' : GA) (W' : GV) (vu vv vr vc : Option Value), b'.g = b.g ∧ ResInv cap n (K.take i) W' ∧
      P' = frm L [("G", vG), ("R", some (.ref b'.g)), ("u", vu), ("v", vv), ("edge_list", some (.ref nw)), ("r", vr)] :: fam (t2.zip K) (row3 cap) :: cel (L + 2) vc :: cel (L + 3) (some (.int inf tin)) :: (graphR c b' W' ++ R))
      (S.cov ?zzm) ⟨b, W, vu, vv, vr, vc, rfl, ?zzn, rfl⟩ ?_ ?_ ?_
  case zzm => wtm_at "cov"
  case zzn => exact I0
  · intro i v P' s hv S Q hq
    refine l_own S .head ?_ (hq _ S)
    rw [List.getElem?_map] at hv
    obtain ⟨x, -, rfl⟩ := Option.map_eq_some_iff.mp hv
    exact ⟨_, rfl⟩
  · clear S h vc vu vv vr
    rintro i hi _ s w ⟨b', W', vu, vv, vr, vc, hbg, I, rfl⟩ hw S
    rw [← hbg]
    clear I0 hbg W b
    rw [List.length_map] at hi
    simp only [graphR, List.cons_append, List.nil_append] at S
    have hir : i < K.length := by rw [← ht2]; exact hi
    obtain ⟨e, he⟩ : ∃ e, K[i]? = some e := ⟨_, List.getElem?_eq_getElem hir⟩
    obtain ⟨ti, hti⟩ : ∃ x, t2[i]? = some x := ⟨_, List.getElem?_eq_getElem hi⟩
    have hmem : (ti, e) ∈ t2.zip K := List.mem_of_getElem? (List.getElem?_zip_eq_some.mpr ⟨hti, he⟩)
    obtain ⟨he1, he2, hne, hcap⟩ := hK e (List.mem_of_getElem? he)
    rw [List.getElem?_map, hti] at hw
    cases hw
    obtain ⟨⟨q1, q2, q3⟩, S⟩ := (S.take (X := row3 cap (ti, e)) (by wtm_at "take")).ofHead (f := fun p : Tok × Tok × Tok => tup ti [.int e.1 p.1, .int e.2 p.2.1, .int (cap e) p.2.2]) (fun D ⟨t1, t2, t3, h⟩ => ⟨(t1, t2, t3), h⟩)
    dsimp only at S
    wtm_at "ws"
    refine minI S hh ?_
    clear S; intro s tr S
    have hce : (if inf < cap e then inf else cap e) = cap e := if_neg (by omega)
    rw [hce]
    wtm_at "ws"
    have hn := I.hn
    have hm : (ti, e) ∈ t2.zip K := hmem
    have htk : K.take (i + 1) = K.take i ++ [e] := by rw [List.take_add_one, he]; rfl
    have hno : e ∉ K.take i := fun z => by
      have := hnd
      rw [← List.take_append_drop (i + 1) K, htk] at this
      have := (List.nodup_append.mp this).1
      exact (List.nodup_append.mp this).2.2 e z e (by simp) rfl
    have hatt : ∀ u < W'.n, (W'.nattr u).length ≤ 100 := fun u hu => by rw [I.na u (by omega)]; simp
    have hatt2 : ∀ e ∈ W'.el, (W'.eattr e).length ≤ 100 := fun e he => by obtain ⟨t, h⟩ := I.at_ e he; rw [h]; simp
    have hz1 := I.ok.small
    have hz2 := I.ok.few
    refine' wpAny_call (g_has_edge (k := k) (a := b') (V := W') S (rm.le (by omega)) (by omega) ?zz1 ?_)
    case zz1 => wtm_at "takes"
    clear S; intro s S
    simp only [graphR, List.cons_append, List.nil_append] at S
    dsimp only
    wtm_at "ws"
    by_cases hin : (e.1, e.2) ∈ W'.el
    · refine ite_F (by simp [hin]) ?_
      have qv : valueAt (succE W'.el b'.ea e.1) (e.2 : Int) = some (.ref (b'.ea (e.1, e.2))) := by rw [valueAt_succE, if_pos hin]
      wtm_at "ws"
      refine' subG (x := b'.g) S ?zz2 ?zz3 (g_getitem (k := k) (n := W'.n) (aa := b'.aa) S (rm.in1.le (by omega)) ?zz4 ?zz5 (by omega) ?_) (by with_unfolding_all rfl)
      case zz2 => wtm_at "take"
      case zz3 => wtm_at "take"
      case zz4 => wtm_at "takes"
      case zz5 => wtm_at "at"
      clear S; intro s S
      simp only [graphR, List.cons_append, List.nil_append] at S
      dsimp only
      wtm_at "ws"
      refine' dS_set S ?zz7 ?zz8 ?_
      case zz7 => wtm_at "take"
      case zz8 => have := hatt2 _ hin; omega
      clear S; intro s S
      have S2 := S.shutX (l := W'.el) (f := fun e => dS c (b'.ea e) (W'.eattr e)) (u := (e.1, e.2)) (X := dS c (b'.ea (e.1, e.2)) (stored (W'.eattr (e.1, e.2)) "capacity" (.int (cap e) tr))) (fun i => dS c (b'.ea i) ((W'.put (e.1, e.2) (.int (cap e) tr)).eattr i)) (by wtm_at "take") (by wtm_at "take") (by simp [GV.put, hin]) hin I.ok.nd (fun i _ hi => by simp [GV.put, hi])
      clear S
      have J := ResInv.one (u := e.1) (v := e.2) (t := tr) I hno hin
      wtm_at "ws"
      refine ⟨_, ⟨b', W'.put (e.1, e.2) (.int (cap e) tr), some (.int e.1 q1), some (.int e.2 q2), some (.int (cap e) tr), some (.int (cap e) q3), rfl, by rw [htk]; exact J, rfl⟩, ?_⟩
      simp only [GV.put, if_pos hin] at S2 ⊢
      have S3 := ((S2.take (X := tup ti [.int e.1 q1, .int e.2 q2, .int (cap e) q3]) (by wtm_at "take")).head_mono (X' := row3 cap (ti, e)) fun d h => ⟨q1, q2, q3, h⟩).shutS (l := t2.zip K) (f := row3 cap) (u := (ti, e)) (by wtm_at "take") (by wtm_at "take") hmem
      clear S
      clear S2
      wtm_at "fin"
    · refine ite_T (by simp [hin]) ?_
      wtm_at "ws"
      refine' wpAny_call (di_add_edge (k := k) (a := b') (V := W') S (rm.le (by omega)) hA I.ok hatt hatt2 (by omega) (by omega) ?zz6 ?_)
      case zz6 => wtm_at "takes"
      clear S; intro s x1 S
      simp only [graphR, List.cons_append, List.nil_append] at S
      dsimp only
      obtain ⟨b2, hb2, hg2⟩ : ∃ b2, b2 = b'.edge (e.1, e.2) x1 ∧ b2.g = b'.g := ⟨_, rfl, rfl⟩
      obtain ⟨W2, hW2⟩ : ∃ W2, W2 = W'.put (e.1, e.2) (.int (cap e) tr) := ⟨_, rfl⟩
      rw [← hb2, ← hW2, ← hg2] at S
      rw [← hg2]
      wtm_at "ws"
      have ok2 : W2.Ok := by rw [hW2]; exact GV.put_ok I.ok (by omega) (by omega) (by have := I.len; rw [List.length_take] at this; omega)
      have hn2 : W2.n = W'.n := by rw [hW2]; rfl
      have na2 : W2.nattr = W'.nattr := by rw [hW2]; rfl
      have ea2 : ∀ i ∈ W2.el, (W2.eattr i).length ≤ 100 := by
        intro i hi
        rw [hW2] at hi ⊢
        simp only [GV.put, if_neg hin] at hi ⊢
        split
        · simp
        · rename_i hne
          rcases List.mem_append.mp hi with hi | hi
          · exact hatt2 i hi
          · simp at hi; exact absurd hi hne
      refine' wpAny_call (di_add_edge (k := k) (a := b2) (V := W2) S (rm.le (by omega)) hA ok2 (by rw [na2, hn2]; exact hatt) ea2 (by omega) (by omega) ?zz9 ?_)
      case zz9 => wtm_at "takes"
      clear S; intro s x2 S
      dsimp only
      wtm_at "ws"
      have J := ResInv.both (u := e.1) (v := e.2) (t := tr) (t' := t) I he1 he2 hne hno hin (by rw [List.length_take]; omega)
      refine ⟨_, ⟨b2.edge (e.2, e.1) x2, W2.put (e.2, e.1) (.int 0 t), some (.int e.1 q1), some (.int e.2 q2), some (.int (cap e) tr), some (.int (cap e) q3), rfl, by rw [htk, hW2]; exact J, rfl⟩, ?_⟩
      obtain ⟨b3, hb3, hg3⟩ : ∃ b3, b3 = b2.edge (e.2, e.1) x2 ∧ b3.g = b2.g := ⟨_, rfl, rfl⟩
      rw [← hb3, ← hg3] at S
      rw [← hb3]
      simp only [graphR, List.cons_append, List.nil_append] at S ⊢
      have S3 := ((S.take (X := tup ti [.int e.1 q1, .int e.2 q2, .int (cap e) q3]) (by wtm_at "take")).head_mono (X' := row3 cap (ti, e)) fun d h => ⟨q1, q2, q3, h⟩).shutS (l := t2.zip K) (f := row3 cap) (u := (ti, e)) (by wtm_at "take") (by wtm_at "take") hmem
      clear S
      wtm_at "fin"
  · rintro _ s ⟨b', W', vu', vv', vr', vc', hg, I, rfl⟩ S
    rw [List.length_map, ht2, List.take_length] at I
    wtm_at "ws"
    refine' h _ b' W' vu' vv' vr' vc' hg I ?zzk
    case zzk =>
      simp only [graphR, List.cons_append, List.nil_append] at S ⊢
      wtm_at "fin"

end Mine
namespace Mine
local macro_rules | `(tactic| wtm_at "oth") => `(tactic| repeat' (first | apply Oth.nil | (apply Oth.par; (exact rfl)) | apply Oth.new | apply Oth.skip))
local macro_rules | `(tactic| wtm_at "memf") => `(tactic| first | with_reducible assumption | exact mem_range (by assumption) | exact mem_range (by omega))
local macro_rules | `(tactic| wtm_at "take") => `(tactic| ((repeat (first | with_reducible exact Take.head | (refine' Take.famAt2 ?e ?h; (case e => with_reducible exact rfl); (case h => wtm_at "memf")) | apply Take.tail)); done))
local macro_rules | `(tactic| wtm_at "len") => `(tactic| first | (simp [idx_length]; done) | (simp [idx_length]; omega) | omega)
local macro_rules | `(tactic| wtm_at "takes") => `(tactic| first | exact Takes.nil | (refine' Takes.cons ?a ?b; (case a => wtm_at "take"); (case b => wtm_at "takes")))
local macro_rules | `(tactic| wtm_at "drop") => `(tactic| ((repeat (first | exact Drop.refl | apply Drop.skip)); done))
local macro_rules | `(tactic| wtm_at "cov") => `(tactic| first | (refine' Cov.cons ?a ?b; (case a => wtm_at "take"); (case b => wtm_at "cov")) | (refine Cov.nil ?_; wtm_at "drop"))
local macro_rules | `(tactic| wtm_at "fin") => `(tactic| (refine' St.cov (by assumption) ?a; (case a => wtm_at "cov")))
local macro_rules | `(tactic| wtm_at "mem") => `(tactic| ((repeat (first | with_reducible exact List.mem_cons_self | apply List.mem_cons_of_mem)); done))
local macro_rules | `(tactic| wtm_at "put") => `(tactic| ((repeat (first | with_reducible exact Put.here | apply Put.there)); done))
local macro_rules | `(tactic| wtm_at "at") => `(tactic| first | with_reducible assumption | ((repeat (first | with_reducible exact At.here | (apply At.there; (exact rfl)))); done))
set_option hygiene false in
local macro_rules | `(tactic| wtm_at "sS") => `(tactic| (clear S; intro s S))
set_option hygiene false in
local macro_rules | `(tactic| wtm_at "stS") => `(tactic| (clear S; intro s t S))
set_option hygiene false in
local macro_rules | `(tactic| wtm_at "saS") => `(tactic| (clear S; intro s nw S))
set_option hygiene false in
local macro_rules | `(tactic| wtm_at "sitS") => `(tactic| (clear S; intro s it S))
set_option hygiene false in
local macro_rules | `(tactic| wtm_at "siteS") => `(tactic| (clear S; intro s it ep S))
local macro_rules | `(tactic| wtm_at "ld") => `(tactic| first | (refine' ld (by assumption) ?t ?g ?_ rfl rfl (by decide); (case t => wtm_at "take"); (case g => wtm_at "mem")) | (refine' ldG (by assumption) ?e ?_ rfl rfl (by decide); (case e => wtm_at "gl")) | (refine' ldB (by assumption) ?e ?hv (by decide) ?_ rfl rfl (by decide); (case e => exact rfl); (case hv => wtm_at "bt")) | (refine' ldC (by assumption) ?q ?t ?_ rfl rfl (by decide); (case q => exact rfl); (case t => wtm_at "take")) | (refine' ldF (by assumption) ?q ?t ?_ rfl rfl (by decide) (by decide); (case q => exact rfl); (case t => wtm_at "take")))
local macro_rules | `(tactic| wtm_at "bt") => `(tactic| first | with_reducible exact bt_isinstance | with_reducible exact bt_iter | with_reducible exact bt_next | with_reducible exact bt_len | with_reducible exact bt_min | with_reducible exact bt_max | with_reducible exact bt_sum | with_reducible exact bt_callable | with_reducible exact bt_sorted | with_reducible exact bt_abs | with_reducible exact bt_getattr | with_reducible exact bt_list | with_reducible exact bt_range | with_reducible exact bt_float | with_reducible exact bt_int | with_reducible exact bt_bool | with_reducible exact bt_str | with_reducible exact bt_dict | with_reducible exact bt_tuple | with_reducible exact bt_super)
local macro_rules | `(tactic| wtm_at "gl") => `(tactic| first | with_reducible exact gl_Graph _ | with_reducible exact gl_EdgeView _ | with_reducible exact gl_DiGraph _ | with_reducible exact gl_CurrentEdge _ | with_reducible exact gl_build_residual_network _ | with_reducible exact gl__capacity_function _ | with_reducible exact gl_shortest_augmenting_path_impl _ | with_reducible exact gl_shortest_augmenting_path _ | with_reducible exact gl__law_cuts _ | with_reducible exact gl__law_spread _ | with_reducible exact gl_deque _)
local macro_rules | `(tactic| wtm_at "st") => `(tactic| first | (refine' st (by assumption) ?t ?p ?_ rfl rfl; (case t => wtm_at "take"); (case p => wtm_at "put"); wtm_at "sS") | (refine' stC (by assumption) ?q ?t ?_ rfl rfl; (case q => exact rfl); (case t => wtm_at "take"); wtm_at "sS"))
local macro_rules | `(tactic| wtm_at "s") => `(tactic| first | ((with_reducible show wpAny _ _ (execs _ _) _ _ _); first | ((with_reducible show wpAny _ _ (execs (_ :: _) _) _ _ _); refine wpAny_execs_cons ?_) | ((with_reducible show wpAny _ _ (execs [] _) _ _ _); refine wpAny_execs_nil ?_)) | ((with_reducible show wpAny _ _ (exec _ _) _ _ _); first | ((with_reducible show wpAny _ _ (exec (Stmt.Assign [Expr.Name _ _] _ _) _) _ _ _); refine wpAny_Assign_Name ?_) | ((with_reducible show wpAny _ _ (exec (Stmt.Assign [Expr.Subscript _ _ _] _ _) _) _ _ _); refine wpAny_Assign_Subscript ?_) | ((with_reducible show wpAny _ _ (exec (Stmt.Return (some _) _) _) _ _ _); refine wpAny_Return_some ?_) | ((with_reducible show wpAny _ _ (exec (Stmt.Expr _ _) _) _ _ _); refine wpAny_Expr ?_) | ((with_reducible show wpAny _ _ (exec (Stmt.If _ _ _ _) _) _ _ _); refine wpAny_If ?_)))
local macro_rules | `(tactic| wtm_at "e") => `(tactic| first | ((with_reducible show wpAny _ _ (eval _ _) _ _ _); first | ((with_reducible show wpAny _ _ (eval (Expr.Name _ _) (compEnvC _ _ _ _)) _ _ _); first | (refine' cld (by assumption) ?t ?g ?_ rfl rfl (by decide); (case t => wtm_at "take"); (case g => wtm_at "mem")) | (refine' cldC (by assumption) ?q ?t ?_ rfl rfl (by decide); (case q => exact rfl); (case t => wtm_at "take"))) | ((with_reducible show wpAny _ _ (eval (Expr.NamedExpr _ _ _) _) _ _ _); refine wpAny_NamedExpr ?_) | ((with_reducible show wpAny _ _ (eval (Expr.Name _ _) _) _ _ _); wtm_at "ld") | ((with_reducible show wpAny _ _ (eval (Expr.Constant (Const.int _) _ _) _) _ _ _); (refine cI (by assumption) ?_; wtm_at "stS")) | ((with_reducible show wpAny _ _ (eval (Expr.Constant (Const.str _) _ _) _) _ _ _); (refine cS (by assumption) ?_; wtm_at "stS")) | ((with_reducible show wpAny _ _ (eval (Expr.Constant (Const.bool _) _ _) _) _ _ _); refine wpAny_Constant_bool ?_) | ((with_reducible show wpAny _ _ (eval (Expr.Constant Const.none _ _) _) _ _ _); refine wpAny_Constant_none ?_) | ((with_reducible show wpAny _ _ (eval (Expr.Attribute (Expr.Name _ _) _ _) _) _ _ _); refine Attribute_name ?_) | ((with_reducible show wpAny _ _ (eval (Expr.BinOp _ _ _ _) _) _ _ _); refine wpAny_BinOp ?_) | ((with_reducible show wpAny _ _ (eval (Expr.BoolOp BoolOp.Or _ _) _) _ _ _); refine wpAny_Or2 ?_) | ((with_reducible show wpAny _ _ (eval (Expr.Call (Expr.Attribute _ _ _) _ [] _) _) _ _ _); refine MethodCall_ ?_) | ((with_reducible show wpAny _ _ (eval (Expr.Call (Expr.Attribute _ _ _) _ (_ :: _) _) _) _ _ _); refine methodCall_KW ?_) | ((with_reducible show wpAny _ _ (eval (Expr.Call (Expr.Name _ _) _ [] _) _) _ _ _); refine Call_ ?_) | ((with_reducible show wpAny _ _ (eval (Expr.Tuple _ _ _) _) _ _ _); refine Tuple_ ?_)) | ((with_reducible show wpAny _ _ (isTrue _ _ _) _ _ _); first | ((with_reducible show wpAny _ _ (isTrue (Expr.Compare _ [_] [_] _) _ _) _ _ _); refine wpAny_isTrue_Compare1 ?_) | ((with_reducible show wpAny _ _ (isTrue (Expr.BoolOp _ _ _) _ _) _ _ _); refine wpAny_isTrue_BoolOp ?_) | ((with_reducible show wpAny _ _ (isTrue (Expr.Call _ _ _ _) _ _) _ _ _); refine wpAny_isTrue_value ?_)) | ((with_reducible show wpAny _ _ (allTrue _ _ _) _ _ _); first | ((with_reducible show wpAny _ _ (allTrue BoolOp.And [] _) _ _ _); refine wpAny_allTrue_And_nil ?_) | ((with_reducible show wpAny _ _ (allTrue BoolOp.And (_ :: _) _) _ _ _); refine wpAny_allTrue_And_cons ?_)) | ((with_reducible show wpAny _ _ (spliced (backTo _ (starEach [] _))) _ _ _); refine args_nil ?_) | ((with_reducible show wpAny _ _ (spliced (backTo _ (starEach (_ :: _) _))) _ _ _); refine args_cons ?_))
local macro_rules | `(tactic| wtm_at "v") => `(tactic| first | ((with_reducible show wpAny _ _ (storeName _ _ _) _ _ _); first | ((with_reducible show wpAny _ _ (storeName (compEnvC _ _ _ _) _ _) _ _ _); first | (refine' cst (by assumption) ?t ?p ?_ rfl rfl; (case t => wtm_at "take"); (case p => wtm_at "put"); wtm_at "sS") | (refine' cstC (by assumption) ?q ?t ?_ rfl rfl; (case q => exact rfl); (case t => wtm_at "take"); wtm_at "sS")) | ((with_reducible show wpAny _ _ (storeName _ _ _) _ _ _); wtm_at "st")) | ((with_reducible show wpAny _ _ (callWith _ _ _ _ _) _ _ _); first | ((with_reducible show wpAny _ _ (callWith _ (Value.builtin _) _ (backTo _ (starEach (_ :: _) _)) []) _ _ _); refine callB ?_) | ((with_reducible show wpAny _ _ (callWith _ (Value.type _) _ (backTo _ (starEach (_ :: _) _)) []) _ _ _); refine PyProof.Rows.callWith_type1 ?_) | ((with_reducible show wpAny _ _ (callWith _ (Value.ref _) _ (backTo _ (starEach (_ :: _) _)) []) _ _ _); refine callF (by assumption) (by exact rfl) ?_) | ((with_reducible show wpAny _ _ (callWith _ (Value.ref _) _ (backTo _ (starEach [] _)) []) _ _ _); refine callF0 (by assumption) (by exact rfl) ?_)) | ((with_reducible show wpAny _ _ (call _ _ _) _ _ _); first | ((with_reducible show wpAny _ _ (call _ ([] ++ _) _) _ _ _); refine call_app0 ?_) | ((with_reducible show wpAny _ _ (call _ ([_] ++ _) _) _ _ _); refine call_app1 ?_) | ((with_reducible show wpAny _ _ (call (Value.builtin "list.append") [Value.ref _, _]) _ _ _); (refine' l_append (by assumption) ?t ?z ?_; (case t => wtm_at "take"); (case z => wtm_at "len"); wtm_at "sS"))) | ((with_reducible show wpAny _ _ (forIn [_] true _) _ _ _); refine wpAny_tests_one ?_) | ((with_reducible show wpAny _ _ (evalAll (List.map _ (backToKw _ (keywordEach (_ :: _) _)))) _ _ _); refine kws_cons ?_) | ((with_reducible show wpAny _ _ (evalAll (List.map _ (backToKw _ (keywordEach [] _)))) _ _ _); refine kws_nil ?_) | ((with_reducible show wpAny _ _ (getMethod (Value.ref _) _ _) _ _ _); (refine' getGM (by assumption) ?g ?t1 ?t2 ?z ?_; (case g => first | with_reducible exact gme_add_node | with_reducible exact gme_add_nodes_from | with_reducible exact gme_add_edge | with_reducible exact gme_remove_edge | with_reducible exact gme_has_edge | with_reducible exact gme_is_multigraph | with_reducible exact gme_is_directed | with_reducible exact gme_edge_rows); (case t1 => wtm_at "take"); (case t2 => wtm_at "take"); (case z => exact rfl))) | ((with_reducible show wpAny _ _ (assign _ _ _) _ _ _); first | ((with_reducible show wpAny _ _ (assign (Expr.Name _ _) _ _) _ _ _); refine assign_Name ?_) | ((with_reducible show wpAny _ _ (assign (Expr.Tuple [_, _, _] _ _) _ (Value.ref _)) _ _ _); (refine' asg3 (by assumption) ?hA ?t ?_; (case t => wtm_at "take"); (case hA => assumption); wtm_at "sS"))) | ((with_reducible show wpAny _ _ (pyIter (Value.ref _)) _ _ _); first | (refine' l_iter (by assumption) ?t ?_; (case t => wtm_at "take"); wtm_at "sitS") | (refine' i_iter (by assumption) ?tt ?_; (case tt => wtm_at "takes"); wtm_at "siteS") | (refine' v_iter (by assumption) ?tt ?_; (case tt => wtm_at "takes"); wtm_at "siteS")) | ((with_reducible show wpAny _ _ (truthy _) _ _ _); first | ((with_reducible show wpAny _ _ (truthy (Value.bool _)) _ _ _); refine wpAny_truthy_bool ?_) | ((with_reducible show wpAny _ _ (truthy (Value.int _ _)) _ _ _); refine truI ?_)) | ((with_reducible show wpAny _ _ (binaryOp Operator.Mult (Value.int _ _) (Value.int _ _)) _ _ _); (refine mulI (by assumption) (by first | exact IntMulOk.of_left (by decide) | exact IntMulOk.of_right (by decide)) ?_; wtm_at "stS")) | ((with_reducible show wpAny _ _ (setItem (Value.ref _) (Value.str _ _) _) _ _ _); (refine' dS_set (by assumption) ?t ?z ?_; (case t => wtm_at "take"); (case z => wtm_at "len"); wtm_at "sS")) | ((with_reducible show wpAny _ _ (compareOp _ _ _) _ _ _); first | ((with_reducible show wpAny _ _ (compareOp CmpOp.Gt (Value.int _ _) (Value.int _ _)) _ _ _); refine gtI ?_) | ((with_reducible show wpAny _ _ (compareOp CmpOp.NotEq (Value.int _ _) (Value.int _ _)) _ _ _); refine neI ?_) | ((with_reducible show wpAny _ _ (compareOp CmpOp.IsNot _ Value.none) _ _ _); refine isNot_none ?_)) | ((with_reducible show wpAny _ _ (newList _) _ _ _); (refine' l_new (by assumption) ?z ?_; (case z => (simp; done)); wtm_at "saS")) | ((with_reducible show wpAny _ _ (newTuple _) _ _ _); (refine' t_new (by assumption) ?z ?_; (case z => (simp; done)); wtm_at "saS")) | ((with_reducible show wpAny _ _ (getAttr (Value.ref _) _ _) _ _ _); wtm_at "getA"))
local macro_rules | `(tactic| wtm_at "getA") => `(tactic| (refine' getG2 (by assumption) ?g ?t1 ?t2 ?v ?d ?_; (case g => first | with_reducible exact gattr_adj | with_reducible exact gattr_node | with_reducible exact gattr_pred | with_reducible exact gattr_graph); (case t1 => wtm_at "take"); (case t2 => wtm_at "take"); (case v => wtm_at "at"); (case d => exact rfl); wtm_at "sS"))
local macro_rules | `(tactic| wtm_at "k") => `(tactic| ((with_reducible show (Frag.In _ _ ∧ wpAny _ _ _ _ _ _)); refine ⟨St.K (by assumption), ?_⟩))
local macro_rules | `(tactic| wtm_at "if") => `(tactic| ((with_reducible show ite _ _ _); first | refine ite_T (by decide) ?_ | refine ite_F (by decide) ?_ | refine ite_F (by exact Bool.false_ne_true) ?_ | refine ite_T (by exact rfl) ?_))
local macro_rules | `(tactic| wtm_at "w") => `(tactic| first | wtm_at "if" | wtm_at "k" | wtm_at "s" | wtm_at "e" | wtm_at "v")
local macro_rules | `(tactic| wtm_at "ws") => `(tactic| repeat (wtm_at "w"))
set_option hygiene false in
local macro_rules | `(tactic| wtm_at "hk") => `(tactic| (intro n x hx; (repeat (rcases List.mem_cons.mp hx with rfl | hx; focus (first | exact Or.inl rfl | exact Or.inr ⟨rfl, rfl⟩))); cases hx))
set_option hygiene false in
local macro_rules | `(tactic| wtm_at "centerC") => `(tactic| ((case oth => wtm_at "oth"); (case nd => exact rfl); (case hk => wtm_at "hk"); clear S; intro A L s rm hh S env; (first | replace hA := hh.trans hA | skip); simp only [boundF, List.map_cons, List.map_nil, List.cons_append, List.nil_append, List.append_nil] at S))

theorem build_res {c : Cx} {A : Around} {s : Shared} {P R : List HP} {k : Nat} {a : GA} {V : GV} {t1 : Tok} {Rr : Result → Shared → Prop} (S : St c P s) (rm : Rm A (k + 30)) (hA : A.handled = c.hx) (hx : c.hx = none) (ok : V.Ok) {cap : Nat × Nat → Int} (hel : V.el.length ≤ 400) (hV : V.n ≤ 90) (hcap : ∀ e ∈ V.el, ∃ t : Tok, V.eattr e = [(Str.ofString "capacity", Value.int (cap e) t)] ∧ 1 ≤ cap e) (tk : Takes (graphR c a V ++ [tabX 481 capQ [], tabX 476 resQ []]) P R)
    (h : ∀ s' b W t, ResInv cap V.n (kept V) W → St c (graphR c b { W with gattr := [("inf", .int (infOf cap (kept V)) t)] } ++ (graphR c a V ++ (tabX 476 resQ [] :: tabX 481 capQ [] :: R))) s' → Rr (.ok (.ret (.ref b.g))) s') : codeAny c.M A (.call (.ref 479) ⟨[.ref a.g, .str "capacity" t1], []⟩) Rr s := by
  have hz1 := ok.small
  have hz2 := ok.few
  replace S := S.takes tk
  refine' call_C (binds := [("G", .ref a.g), ("capacity", .str "capacity" t1)]) (lb := [("G", .ref a.g)]) (cb := [("capacity", .str "capacity" t1)]) (cl := fun L => [("inf", L + 3), ("cap", L + 2), ("capacity", L + 1)]) (cv := fun L => [(L + 3, none), (L + 2, none), (L + 1, some (.str "capacity" t1))]) S rm (by exact rfl) (by rfl) (BindsTo.of_eq rfl) rfl rfl (fun _ => rfl) (fun _ => rfl) ?hk (fun _ => rfl) rfl ?oth ?nd ?_
  wtm_at "centerC"
  have hh := hA.trans hx
  wtm_at "ws"
  refine wpAny_call (g_is_multigraph (k := k) S (rm.le (by omega)) ?_)
  clear S; intro s S
  dsimp only
  wtm_at "ws"
  refine wpAny_call (call_cls (fI := 345) (k := k + 20) S (rm.le (by omega)) (by exact rfl) (by kernel_rfl) (by kernel_rfl) ?_)
  rename_i A0 _ _ _
  intro B s x dx rmB hhB S
  refine' di_init (k := k + 1) S (rmB.le (by omega)) ?zz1 ?_
  case zz1 => wtm_at "takes"
  clear S; intro s gd nd ad pd S
  refine ⟨rfl, ?_⟩
  simp only [List.cons_append, List.nil_append] at S
  dsimp only
  wtm_at "ws"
  obtain ⟨b0, W0, hb0, hW0, hW1, hW2, S⟩ := fresh_graph S (x := x) (dx := dx) (gd := gd) (nd := nd) (ad := ad) (pd := pd) (by wtm_at "takes")
  rw [← hb0] at S
  rw [← hb0]
  have S2 := St.unflat (l := [pt a.g (instObj 420 a.dx), dS c a.dx [("_pred", .ref a.pd), ("graph", .ref a.gd), ("_node", .ref a.nd), ("_adj", .ref a.ad)], dI c a.nd (idx V.n a.na)]) (S.takes (by wtm_at "takes"))
  refine' wpAny_call (add_nodes (k := k) S2 (rm.le (by omega)) hh ?zz2 (graph_source (c := c) (g := a.g) (dx := a.dx) (nd := a.nd) (n := V.n) (na := a.na) (kvs := [("_pred", .ref a.pd), ("graph", .ref a.gd), ("_node", .ref a.nd), ("_adj", .ref a.ad)]) (by wtm_at "at")) hW0 hW1 hV ?_)
  case zz2 => wtm_at "takes"
  clear S S2; intro s b W hb hWn hWe hWg hWa S
  simp only [graphR, List.cons_append, List.nil_append] at S
  replace S := (S.take (X := all [pt a.g (instObj 420 a.dx), dS c a.dx [("_pred", .ref a.pd), ("graph", .ref a.gd), ("_node", .ref a.nd), ("_adj", .ref a.ad)], dI c a.nd (idx V.n a.na)]) (by wtm_at "take")).flat
  simp only [List.cons_append, List.nil_append] at S
  rw [← hb] at S
  dsimp only
  wtm_at "ws"
  refine' wpAny_call (cap_fn (k := k) S (rm.le (by omega)) hA hx ?zz3 ?_)
  case zz3 => wtm_at "take"
  clear S; intro s fc X kc hLam hFn S
  dsimp only
  wtm_at "ws"
  refine Assign_ListComp_ ?_ (by rfl) (by rfl)
  wtm_at "ws"
  refine' meth_prop S gp_edges ?zz4 ?zz5 (by kernel_rfl) ?_
  case zz4 => wtm_at "take"
  case zz5 => wtm_at "take"
  clear S; intro s S
  refine g_edges (k := k) S (rm.in1.le (by omega)) ?_
  clear S; intro s ev dev S
  refine ⟨rfl, ?_⟩
  dsimp only
  refine' ev_at (kws := [_]) S ?zz6 ?zz7 (by rfl) (evalArgs_kw_nil (by rfl) ?_)
  case zz6 => wtm_at "take"
  case zz7 => wtm_at "take"
  wtm_at "ws"
  refine' ev_fin S ?zz8 ?zz9 ?_
  case zz8 => wtm_at "take"
  case zz9 => wtm_at "take"
  refine' ev_call (k := k) (a := a) (V := V) S (rm.le (by omega)) hA hx ok ?zza ?_
  case zza => wtm_at "takes"
  clear S; intro s er ts hts S
  simp only [graphR, List.cons_append, List.nil_append] at S
  dsimp only
  wtm_at "ws"
  refine' comp_envU (oth := [(".0", none), ("u", none), ("v", none), ("attr", none)]) S (by decide) rfl ?zzb rfl ?zzc ?_
  case zzb => wtm_at "oth"
  case zzc =>
    intro s' C S' Q E q
    refine' l_self (l := er) (i := 0) S' ?zzd Q E q
    case zzd => wtm_at "take"
  clear S; intro s C S
  revert it S
  intro it0 S
  replace S := S.emp (row3 cap)
  have hzip : (ts.zip (rowsTo V V.n)).length = ts.length := by rw [List.length_zip, hts, Nat.min_self]
  refine' comp_loop (Ex := fun _ _ => []) (l_walk (it := it0) (l := er) (vs := ts.map Value.ref) hh) (fun i P' => ∃ (t2 : List Addr) (vu vv vt vc : Option Value), t2.length = (keptTo V i).length ∧
    P' = frm C [(".0", none), ("u", vu), ("v", vv), ("attr", vt)] :: lst nw (t2.map Value.ref) :: fam (t2.zip (keptTo V i)) (row3 cap) :: fam (ts.zip (rowsTo V V.n)) (rowT a) :: cel (L + 2) vc :: cel (L + 1) (some (.ref fc)) :: X :: tabX 481 capQ kc ::
      frm L [("G", some (.ref a.g)), ("R", some (.ref b.g)), ("u", none), ("v", none), ("edge_list", none), ("r", none)] :: cel (L + 3) none :: (graphR c a V ++ (graphR c b W ++ (tabX 476 resQ [] :: R))))
    (S.cov ?zze) ⟨[], none, none, none, none, rfl, rfl⟩ ?_ ?_ ?_
  case zze =>
    simp only [List.map_nil, List.zip_nil_left]
    wtm_at "cov"
  · intro i v P' s hv S Q hq
    refine l_own S .head ?_ (hq _ S)
    rw [List.getElem?_map] at hv
    obtain ⟨x, -, rfl⟩ := Option.map_eq_some_iff.mp hv
    exact ⟨_, rfl⟩
  · rintro i hi _ s w ⟨t2, vu, vv, vt, vc, ht2, rfl⟩ hw S
    rw [List.length_map] at hi
    simp only [graphR, List.cons_append, List.nil_append] at S
    have hir : i < (rowsTo V V.n).length := by rw [← hts]; exact hi
    obtain ⟨e, he⟩ : ∃ e, (rowsTo V V.n)[i]? = some e := ⟨_, List.getElem?_eq_getElem hir⟩
    obtain ⟨ti, hti⟩ : ∃ x, ts[i]? = some x := ⟨_, List.getElem?_eq_getElem hi⟩
    have hmem : (ti, e) ∈ ts.zip (rowsTo V V.n) := List.mem_of_getElem? (List.getElem?_zip_eq_some.mpr ⟨hti, he⟩)
    have hel : e ∈ V.el := (rowsTo_mem (List.mem_of_getElem? he)).1
    obtain ⟨tcap, hat, hpos⟩ := hcap e hel
    rw [List.getElem?_map, hti] at hw
    cases hw
    obtain ⟨⟨q1, q2⟩, S⟩ := (S.take (X := rowT a (ti, e)) (by wtm_at "take")).ofHead (f := fun p : Tok × Tok => tup ti [.int e.1 p.1, .int e.2 p.2, .ref (a.ea e)]) (fun D ⟨t1, t2, h⟩ => ⟨(t1, t2), h⟩)
    dsimp only at S
    wtm_at "ws"
    have htk : (rowsTo V V.n).take (i + 1) = (rowsTo V V.n).take i ++ [e] := by rw [List.take_add_one, he]; rfl
    by_cases huv : e.1 = e.2
    · have hk : keptTo V (i + 1) = keptTo V i := by
        have h0 : (e.1 != e.2) = false := by simp [huv]
        simp [keptTo, htk, List.filter_append, h0]
      refine ite_F (by simp [huv]) (ite_F (by simp) ?_)
      have S2 := ((S.take (X := tup ti [.int e.1 q1, .int e.2 q2, .ref (a.ea e)]) (by wtm_at "take")).head_mono (X' := rowT a (ti, e)) fun d h => ⟨q1, q2, h⟩).shutS (l := ts.zip (rowsTo V V.n)) (f := rowT a) (u := (ti, e)) (by wtm_at "take") (by wtm_at "take") hmem
      clear S
      refine ⟨_, ⟨t2, some (.int e.1 q1), some (.int e.2 q2), some (.ref (a.ea e)), vc, by rw [hk]; exact ht2, rfl⟩, ?_⟩
      rw [hk]
      wtm_at "fin"
    · have hne : (e.1 != e.2) = true := by simp [huv]
      have hk : keptTo V (i + 1) = keptTo V i ++ [e] := by simp [keptTo, htk, List.filter_append, hne]
      have hbk : t2.length ≤ 100000 := by
        rw [ht2]
        refine Nat.le_trans (List.length_filter_le _ _) (Nat.le_trans ?_ (rowsTo_small ok (Nat.le_refl _)))
        rw [List.length_take]; exact Nat.min_le_right _ _
      refine ite_T (by simp; omega) ?_
      wtm_at "ws"
      refine callWith_F (hFn _ _ _ S (by wtm_at "take")) ?_
      wtm_at "ws"
      refine ⟨hFn _ _ _ S (by wtm_at "take"), ?_⟩
      wtm_at "ws"
      refine' wpAny_call (hLam.use (k := k) (kvs := V.eattr e) S (rm.le (by omega)) ?zt1 ?zt2 ?zt3 ?_)
      case zt1 => wtm_at "take"
      case zt2 => wtm_at "take"
      case zt3 => wtm_at "take"
      clear S; intro s tq S
      rw [hat]
      have hval : (valueAt [(Str.ofString "capacity", Value.int (cap e) tcap)] "capacity").getD (.float infB tq) = .int (cap e) tcap := by simp [valueAt]
      rw [hval]
      dsimp only
      wtm_at "ws"
      refine ite_T (by simp; omega) ?_
      wtm_at "ws"
      refine ⟨_, ⟨t2 ++ [nw], some (.int e.1 q1), some (.int e.2 q2), some (.ref (a.ea e)), some (.int (cap e) tcap), ?_, rfl⟩, ?_⟩
      · rw [hk, List.length_append, List.length_append (bs := [e]), ht2]; rfl
      · have S2 := ((S.take (X := tup ti [.int e.1 q1, .int e.2 q2, .ref (a.ea e)]) (by wtm_at "take")).head_mono (X' := rowT a (ti, e)) fun d h => ⟨q1, q2, h⟩).shutS (l := ts.zip (rowsTo V V.n)) (f := rowT a) (u := (ti, e)) (by wtm_at "take") (by wtm_at "take") hmem
        have S3 := S2.shutS (l := V.el) (f := fun e => dS c (a.ea e) (V.eattr e)) (u := e) (by wtm_at "take") (by wtm_at "take") hel
        have S4 := ((S3.take (X := tup nw [.int e.1 q1, .int e.2 q2, .int (cap e) tcap]) (by wtm_at "take")).head_mono (X' := row3 cap (nw, e)) fun d h => ⟨q1, q2, tcap, h⟩).growE (l := t2.zip (keptTo V i)) (u := (nw, e)) (f := row3 cap) (X := row3 cap (nw, e)) (by wtm_at "take") (by wtm_at "take") (row3 cap) rfl (fun _ _ => rfl)
        rw [← zip_snoc ht2, ← hk] at S4
        rw [List.map_append, List.map_cons, List.map_nil]
        clear S S2 S3
        wtm_at "fin"
  · rintro _ s ⟨t2, vu, vv, vt, vc, ht2, rfl⟩ S
    rw [List.length_map] at ht2 S
    simp only [graphR, List.cons_append, List.nil_append] at S
    refine ⟨rfl, ?_⟩
    wtm_at "ws"
    refine' fr_fin (C := C) S ?zzf ?_
    case zzf => wtm_at "take"
    clear S; intro s S
    wtm_at "ws"
    refine float_inf (by assumption) hh ?_
    wtm_at "stS"
    wtm_at "ws"
    rename_i tinf
    have hkz : (t2.zip (keptTo V ts.length)).length = t2.length := by rw [List.length_zip, ht2, Nat.min_self]
    refine' gen_sum (T := 476) (qs := resQ) (ks := []) (el := nw) (q := L + 3) (ts := t2) (vals := (keptTo V ts.length).map cap) (y := "inf") (cl := [("inf", L + 3)]) S hh rm.depth ?zzg (ch_res _ c.K) (by exact .head _) ?zzh ?zzi ?zzj (by rw [List.length_map, ht2]) ?zzk ?zzl (by rfl) rfl (by rfl) (by decide) (by rfl) (by rfl) (by rfl) (by rfl) (by rfl) (by decide) (by decide) (by decide) rfl (by decide) (by decide) (by decide) ?_ (by intro _; rfl)
    case zzg => wtm_at "take"
    case zzj => wtm_at "take"
    case zzl => wtm_at "take"
    case zzi =>
      intro Q hq
      wtm_at "ws"
      exact hq
    case zzh =>
      intro p hp _
      rcases List.mem_cons.mp hp with rfl | hp
      · rfl
      · cases hp
    case zzk =>
      intro s' S' j hj
      obtain ⟨e, he⟩ : ∃ e, (keptTo V ts.length)[j]? = some e := ⟨_, List.getElem?_eq_getElem (by rw [← ht2]; exact hj)⟩
      obtain ⟨tj, htj⟩ : ∃ x, t2[j]? = some x := ⟨_, List.getElem?_eq_getElem hj⟩
      have hmem : (tj, e) ∈ t2.zip (keptTo V ts.length) := List.mem_of_getElem? (List.getElem?_zip_eq_some.mpr ⟨htj, he⟩)
      obtain ⟨u1, u2, u3, n, hg⟩ := S'.get (X := row3 cap (tj, e)) (by wtm_at "take")
      refine ⟨.int e.1 u1, .int e.2 u2, u3, ?_⟩
      have e1 : t2.getD j 0 = tj := by rw [List.getD_eq_getElem?_getD, htj]; rfl
      have e2 : ((keptTo V ts.length).map cap).getD j 0 = cap e := by rw [List.getD_eq_getElem?_getD, List.getElem?_map, he]; rfl
      rw [e1, e2]
      exact ⟨_, hg, rfl, n, rfl⟩
    intro s5 ag hsum
    wtm_at "ws"
    refine hsum _ _ ?_
    clear S hsum; intro s tsum S
    wtm_at "ws"
    refine or_one S (fun h => h) ?_
    clear S; intro s tin S
    wtm_at "ws"
    refine wpAny_call (g_is_directed (k := k) S (rm.le (by omega)) ?_)
    clear S; intro s S
    dsimp only
    wtm_at "w"
    wtm_at "w"
    have hKe : keptTo V ts.length = kept V := by unfold keptTo kept; rw [hts, List.take_length]
    rw [hKe] at ht2 S
    have hWok : W.Ok := ⟨by rw [hWe]; exact .nil, by rw [hWe]; simp, by rw [hWn]; exact ok.small, by rw [hWe]; simp⟩
    have hpos : ∀ e ∈ kept V, 1 ≤ cap e := fun e he => (hcap e ((kept_mem ok).mp he).1).elim fun _ h => h.2
    refine' res_loop (k := k) (n := V.n) (b := b) (W := W) (t2 := t2) (K := kept V) (cap := cap) (inf := infOf cap (kept V)) S (rm.le (by omega)) hh hA ht2 (kept_nodup ok.nd) ?zl1 ?zl2 ?zl3 ?zl4 ?_
    case zl1 =>
      intro e he
      obtain ⟨h1, h2⟩ := (kept_mem ok).mp he
      exact ⟨(ok.lt e h1).1, (ok.lt e h1).2, h2, infOf_ge hpos he⟩
    case zl2 => exact Nat.le_trans (kept_len ok) hel
    case zl3 => exact ResInv.start hWn hWe (hWg.trans hW2) hWa ok.small
    case zl4 => simp only [graphR]; unfold infOf; wtm_at "takes"
    clear S; intro s b1 W1 vu vv vr vc hb1 I S
    rw [← hb1] at *
    simp only [graphR, I.g, List.cons_append, List.nil_append] at S
    dsimp only
    wtm_at "ws"
    rw [show stored ([] : List (Str × Value)) (Str.ofString "inf") (Value.int (infOf cap (kept V)) tin) = [(Str.ofString "inf", Value.int (infOf cap (kept V)) tin)] from rfl] at S
    replace S := (S.take (X := tabX 481 capQ kc) (by wtm_at "take")).head_mono (X' := tabX 481 capQ []) (tabX_weak (by simp))
    refine' h _ b1 W1 tin I ?zlz
    case zlz =>
      simp only [graphR, List.cons_append, List.nil_append]
      wtm_at "fin"
  all_goals exact 0

/-! the deque -/
theorem dq_owner : Manifest.owners.lookup (String.ofList ['e', 'u', 'q', 'e', 'd', '.', 's', 'n', 'o', 'i', 't', 'c', 'e', 'l', 'l', 'o', 'c'].reverse) = some Manifest.sig_collections_deque := by kernel_rfl
theorem dq_mro : mroOf (.type "collections.deque") = pure [.type "collections.deque", .type "object"] := by rw [mroOf_type]; kernel_rfl
theorem dq_look_new : typeLookup (.type "collections.deque") "__new__" = pure (some (.builtin "collections.deque.__new__")) := by rw [typeLookup_type, builtinLookup_eq_fast]; kernel_rfl
theorem dq_slot_init : Slot "collections.deque" "__init__" "collections.deque.__init__" :=
  .of (owner := "collections.deque") (n := "__init__") (by rw [typeLookup_type, builtinLookup_eq_fast]; kernel_rfl) (by decide +kernel) (by decide +kernel) (by decide +kernel)
    (by first | exact .inl (by decide +kernel) | exact .inr (by decide +kernel)) (by rw [isSubtype_type]; kernel_rfl)
theorem dq_entry_init : entryFor table "collections.deque.__init__" = some Builtin.«collections.deque.__init__» := entryFor_of_tree (by kernel_rfl)
theorem dq_args_init (a b : Value) : argsOk "collections.deque.__init__" ⟨[a, b], []⟩ := by
  unfold argsOk; rw [signature?_of (id := "collections.deque.__init__") (n := ['_', '_', 't', 'i', 'n', 'i', '_', '_']) (o := ['e', 'u', 'q', 'e', 'd', '.', 's', 'n', 'o', 'i', 't', 'c', 'e', 'l', 'l', 'o', 'c']) (by kernel_rfl) dq_owner]; kernel_rfl
theorem dq_called : TypeCalled "collections.deque" "collections.deque.__new__" "collections.deque.__init__" :=
  ⟨by decide +kernel, by decide +kernel, ⟨_, _, dq_mro⟩, madeBy_type dq_mro dq_look_new (by decide +kernel), by decide +kernel, by rw [isSubtype_type]; kernel_rfl, dq_slot_init⟩
theorem dq_typeCall (a : Value) : checkTypeCall "collections.deque" ⟨[a], []⟩ = pure () := by kernel_rfl
theorem dq_newCall (a : Value) : checkBuiltinCall "collections.deque.__new__" ⟨[.type "collections.deque", a], []⟩ = pure () := by kernel_rfl
theorem dq_entry_new : entryFor table "collections.deque.__new__" = some Builtin.«collections.deque.__new__» := entryFor_of_tree (by kernel_rfl)
theorem dq_plain_new : plainId "collections.deque.__new__" = true := by decide +kernel
theorem dq_sub : isSubtype (.type "collections.deque") (.type "collections.deque") = pure true := by rw [isSubtype_type]; kernel_rfl
theorem dq_slot_append : Slot "collections.deque" "append" "collections.deque.append" :=
  .of (owner := "collections.deque") (n := "append") (by rw [typeLookup_type, builtinLookup_eq_fast]; kernel_rfl) (by decide +kernel) (by decide +kernel) (by decide +kernel)
    (by first | exact .inl (by decide +kernel) | exact .inr (by decide +kernel)) (by rw [isSubtype_type]; kernel_rfl)
theorem dq_slot_popleft : Slot "collections.deque" "popleft" "collections.deque.popleft" :=
  .of (owner := "collections.deque") (n := "popleft") (by rw [typeLookup_type, builtinLookup_eq_fast]; kernel_rfl) (by decide +kernel) (by decide +kernel) (by decide +kernel)
    (by first | exact .inl (by decide +kernel) | exact .inr (by decide +kernel)) (by rw [isSubtype_type]; kernel_rfl)
theorem dq_slot_len : Slot "collections.deque" "__len__" "collections.deque.__len__" :=
  .of (owner := "collections.deque") (n := "__len__") (by rw [typeLookup_type, builtinLookup_eq_fast]; kernel_rfl) (by decide +kernel) (by decide +kernel) (by decide +kernel)
    (by first | exact .inl (by decide +kernel) | exact .inr (by decide +kernel)) (by rw [isSubtype_type]; kernel_rfl)
theorem dq_type_append : typeOf (.builtin "collections.deque.append") = pure (.type "method_descriptor") := by show builtinType _ = _; rw [builtinType_eq_fast]; kernel_rfl
theorem dq_type_popleft : typeOf (.builtin "collections.deque.popleft") = pure (.type "method_descriptor") := by show builtinType _ = _; rw [builtinType_eq_fast]; kernel_rfl
theorem dq_entry_append : entryFor table "collections.deque.append" = some Builtin.«collections.deque.append» := entryFor_of_tree (by kernel_rfl)
theorem dq_entry_popleft : entryFor table "collections.deque.popleft" = some Builtin.«collections.deque.popleft» := entryFor_of_tree (by kernel_rfl)
theorem dq_entry_len : entryFor table "collections.deque.__len__" = some Builtin.«collections.deque.__len__» := entryFor_of_tree (by kernel_rfl)
theorem dq_entry_extend : entryFor table "collections.deque.extend" = some Builtin.«collections.deque.extend» := entryFor_of_tree (by kernel_rfl)
theorem dq_entry_loop : entryFor table "collections.deque.extend.loop" = some Builtin.«collections.deque.extend.loop» := entryFor_of_tree (by kernel_rfl)
theorem dq_args_append (a b : Value) : argsOk "collections.deque.append" ⟨[a, b], []⟩ := by
  unfold argsOk; rw [signature?_of (id := "collections.deque.append") (n := ['d', 'n', 'e', 'p', 'p', 'a']) (o := ['e', 'u', 'q', 'e', 'd', '.', 's', 'n', 'o', 'i', 't', 'c', 'e', 'l', 'l', 'o', 'c']) (by kernel_rfl) dq_owner]; kernel_rfl
theorem dq_args_popleft (a : Value) : argsOk "collections.deque.popleft" ⟨[a], []⟩ := by
  unfold argsOk; rw [signature?_of (id := "collections.deque.popleft") (n := ['t', 'f', 'e', 'l', 'p', 'o', 'p']) (o := ['e', 'u', 'q', 'e', 'd', '.', 's', 'n', 'o', 'i', 't', 'c', 'e', 'l', 'l', 'o', 'c']) (by kernel_rfl) dq_owner]; kernel_rfl
theorem dq_args_len (a : Value) : argsOk "collections.deque.__len__" ⟨[a], []⟩ := by
  unfold argsOk; rw [signature?_of (id := "collections.deque.__len__") (n := ['_', '_', 'n', 'e', 'l', '_', '_']) (o := ['e', 'u', 'q', 'e', 'd', '.', 's', 'n', 'o', 'i', 't', 'c', 'e', 'l', 'l', 'o', 'c']) (by kernel_rfl) dq_owner]; kernel_rfl
theorem dq_nobool : typeLookup (.type "collections.deque") "__bool__" = pure none := by rw [typeLookup_type, builtinLookup_eq_fast]; kernel_rfl
theorem dq_attrs : PlainAttrs "collections.deque" :=
  ⟨⟨"collections.deque.__getattribute__", by rw [typeLookup_type, builtinLookup_eq_fast]; kernel_rfl, by decide +kernel⟩, by rw [typeLookup_type, builtinLookup_eq_fast]; kernel_rfl⟩
def dqObj (vs : List Value) (k : Int) : Obj := { cls := .type "collections.deque", dict := none, data := .fields (#[Value.none, rawInt k] ++ vs.toArray), slots := #[] }
def dq (a : Addr) (vs : List Value) : HP := fun D => ∃ k, D a = some (dqObj vs k)
instance {a vs} : Up (dq a vs) := ⟨fun _ _ s ⟨k, h⟩ => ⟨k, s _ _ h⟩⟩
theorem dq_owns {a vs} : Owns a (dq a vs) := fun _ ⟨_, h⟩ => ⟨_, h⟩
theorem dq_ext (vs : List Value) (k : Int) : (#[Value.none, rawInt k] ++ vs.toArray).extract 2 (#[Value.none, rawInt k] ++ vs.toArray).size = vs.toArray := by
  apply Array.toList_inj.mp
  simp
section
variable {c : Cx} {A : Around} {E : Value → Shared → Prop} {P R : List HP} {s : Shared} {a : Addr} {vs : List Value} {v : Value}
theorem dq_is (S : St c P s) (t : Take (dq a vs) P R) : s.TypeIs (.ref a) "collections.deque" := by
  obtain ⟨k, h⟩ := S.get t
  exact ⟨_, h, rfl⟩
theorem dq_items {Q : Array Value → Shared → Prop} (S : St c P s) (t : Take (dq a vs) P R) (h : Q vs.toArray s) : wpAny c.M A (Builtin.Deque.items (.ref a)) Q E s := by
  obtain ⟨k, hk⟩ := S.get t
  unfold Builtin.Deque.items
  refine wpAny_bind (wpAny_fieldsOf hk rfl (wpAny_pure ?_))
  show Q (Array.extract _ 2 _) s
  rw [dq_ext]; exact h
theorem dq_change {f : Array Value → Array Value} {Q : Unit → Shared → Prop} (S : St c P s) (t : Take (dq a vs) P R) (hz : (f vs.toArray).size ≤ 1000000) (h : ∀ s', St c (dq a (f vs.toArray).toList :: R) s' → Q () s') : wpAny c.M A (Builtin.Deque.change (.ref a) f) Q E s := by
  have S' := S.take t
  obtain ⟨k, hk⟩ := S'.get0
  unfold Builtin.Deque.change Builtin.Deque.state
  refine wpAny_bind (wpAny_bind (wpAny_field (i := 1) (x := rawInt k) hk rfl (by simp) (wpAny_pure ?_)))
  have he : (#[((#[Value.none, rawInt k] ++ vs.toArray).getD 0 Value.none), rawInt (if true = true then k + 1 else k)] ++ f ((#[Value.none, rawInt k] ++ vs.toArray).extract 2 (#[Value.none, rawInt k] ++ vs.toArray).size)) = #[Value.none, rawInt (k + 1)] ++ (f vs.toArray).toList.toArray := by
    rw [dq_ext, Array.toArray_toList]
    simp
  refine wpAny_updateFields hk rfl (h _ (S'.upd dq_owns (fun b hb => Heap.get?_update_ne _ _ _ _ hb) ⟨k + 1, ?_⟩)) ?_
  · refine one_self.trans ((Heap.get?_update_self _ hk rfl).trans (congrArg some ?_))
    unfold dqObj
    rw [← he]
    rfl
  · show (#[((#[Value.none, rawInt k] ++ vs.toArray).getD 0 Value.none), rawInt (if true = true then k + 1 else k)] ++ f ((#[Value.none, rawInt k] ++ vs.toArray).extract 2 (#[Value.none, rawInt k] ++ vs.toArray).size)).size ≤ _
    rw [he, sizeLine_eq]
    simp
    have : (f vs.toArray).toList.length = (f vs.toArray).size := by simp
    omega
theorem dq_push {Q : Unit → Shared → Prop} (S : St c P s) (t : Take (dq a vs) P R) (hz : vs.length ≤ 100000) (h : ∀ s', St c (dq a (vs ++ [v]) :: R) s' → Q () s') : wpAny c.M A (Builtin.Deque.pushRight (.ref a) v) Q E s := by
  unfold Builtin.Deque.pushRight
  refine wpAny_bind (dq_change S t (by simp; omega) fun s' S' => ?_)
  rw [show (vs.toArray.push v).toList = vs ++ [v] by simp] at S'
  unfold Builtin.Deque.maxlen
  obtain ⟨k, hk⟩ := S'.get0
  refine wpAny_bind (wpAny_bind (wpAny_field (i := 0) (x := .none) hk rfl (by simp) (wpAny_pure ?_)))
  exact wpAny_pure (h _ S')
theorem call_slot {T : String} {name : Str} {id : String} {B : Builtin} {self : Value} {rest : List Value} {Q : Value → Shared → Prop} (slot : Slot T name id) (hT : s.TypeIs self T) (entry : entryFor table id = some B) (args : argsOk id ⟨self :: rest, []⟩)
    (h : wpAny c.M A.in1 (B ⟨self :: rest, []⟩) (fun fin s' => ∃ r, fin = .done (.ret r) ∧ Q r s') E s) : wpAny c.M A (call (.builtin id) (self :: rest)) Q E s :=
  wpAny_call (codeAny_call_builtin slot.plain entry (slot.check _ _ _ _ _ _ _ _ hT args (wpAny_mono h (fun fin s' h' => by obtain ⟨r, rfl, hq⟩ := h'; exact hq) fun _ _ h' => h')))
theorem dq_append {Q : Value → Shared → Prop} (S : St c P s) (t : Take (dq a vs) P R) (hz : vs.length ≤ 100000) (h : ∀ s', St c (dq a (vs ++ [v]) :: R) s' → Q .none s') : wpAny c.M A (call (.builtin "collections.deque.append") [.ref a, v]) Q E s := by
  refine call_slot dq_slot_append (dq_is S t) dq_entry_append (dq_args_append _ _) ?_
  unfold Builtin.«collections.deque.append»
  refine wpAny_bind (m := selfAndOne "deque.append" _) (wpAny_pure ?_)
  exact wpAny_bind (dq_push S t hz fun s' S' => wpAny_pure ⟨_, rfl, h s' S'⟩)
theorem dq_popleft {Q : Value → Shared → Prop} (S : St c P s) (t : Take (dq a (v :: vs)) P R) (hz : vs.length ≤ 100000) (h : ∀ s', St c (dq a vs :: R) s' → Q v s') : wpAny c.M A (call (.builtin "collections.deque.popleft") [.ref a]) Q E s := by
  refine call_slot dq_slot_popleft (dq_is S t) dq_entry_popleft (dq_args_popleft _) ?_
  unfold Builtin.«collections.deque.popleft»
  refine wpAny_bind (m := selfOnly "deque.popleft" _) (wpAny_pure ?_)
  refine wpAny_bind (dq_items S t ?_)
  have e : ((v :: vs).toArray.eraseIdxIfInBounds 0).toList = vs := by
    simp [Array.eraseIdxIfInBounds]
  exact wpAny_bind (dq_change S t (f := (·.eraseIdxIfInBounds 0)) (by have := congrArg List.length e; simp at this ⊢; omega) fun s' S' => wpAny_pure ⟨_, rfl, h s' (e ▸ S')⟩)
theorem dq_truthy {Q : Bool → Shared → Prop} (S : St c P s) (t : Take (dq a vs) P R) (hz : vs.length ≤ 100000) (h : ∀ s', St c P s' → Q (!vs.isEmpty) s') : wpAny c.M A (truthy (.ref a)) Q E s := by
  have hne : ((vs.length : Int) != 0) = !vs.isEmpty := by cases vs <;> simp <;> omega
  have hT := dq_is S t
  have len : ∀ (B : Around) (Q : Value → Shared → Prop), (∀ s' t, St c P s' → Q (.int vs.length t) s') → wpAny c.M B (call (.builtin "collections.deque.__len__") [.ref a]) Q E s := by
    intro B Q hq
    refine call_slot dq_slot_len (dq_is S t) dq_entry_len (dq_args_len _) ?_
    unfold Builtin.«collections.deque.__len__»
    refine wpAny_bind (m := slotArgs "__len__" 0 _) (wpAny_pure ?_)
    unfold Builtin.Deque.size
    obtain ⟨k, hk⟩ := S.get t
    refine wpAny_bind (wpAny_bind (wpAny_fieldsOf hk rfl (wpAny_pure ?_)))
    unfold retInt
    refine wpAny_bind (wpAny_mkInt (wpAny_pure ⟨_, rfl, ?_⟩))
    have : ((#[Value.none, rawInt k] ++ vs.toArray).size - 2 : Nat) = vs.length := by simp
    rw [this]
    exact hq _ _ S.tok
  have key : wpAny c.M A (runValue (.builtin "len" ⟨[.ref a], []⟩)) (fun r s' => ∃ t, r = .int vs.length t ∧ Q (!vs.isEmpty) s') E s := by
    refine wpAny_runValue (codeAny_builtin entry_len ?_)
    rw [Around.under_plainId plain_len _]
    refine wpAny_mono (Q := fun fin s' => ∃ r, fin = .done (.ret r) ∧ ∃ t, r = .int vs.length t ∧ Q (!vs.isEmpty) s') ?_ (fun fin s' h' => by obtain ⟨r, rfl, hq⟩ := h'; exact hq) fun _ _ e => e
    unfold Builtin.«len»
    refine wpAny_bind (m := oneArg "len" _) (wpAny_pure ?_)
    refine wpAny_bind (m := callSpecial? (.ref a) (Str.ofString "__len__")) (wpAny_callSpecial?_slot (name := Str.ofString "__len__") hT dq_slot_len (len _ _ fun s' t' S' => ?_))
    refine wpAny_bind (wpAny_holding (wpAny_pure ?_))
    refine wpAny_bind (wpAny_letGo ?_)
    show wpAny _ _ (if ((vs.length : Nat) : Int) < 0 then _ else _) _ _ _
    rw [if_neg (by omega)]
    show wpAny _ _ (if ((vs.length : Nat) : Int) ≥ 2 ^ 63 then _ else _) _ _ _
    rw [if_neg (by omega)]
    exact wpAny_bind (wpAny_mkInt (wpAny_pure ⟨_, rfl, _, rfl, h _ S'.tok⟩))
  unfold truthy
  first
    | refine wpAny_bind (wpAny_callSpecial?_none (name := Str.ofString "__bool__") hT dq_nobool ?_)
    | refine wpAny_bind (wpAny_pure (wpAny_bind (wpAny_callSpecial?_none (name := Str.ofString "__bool__") hT dq_nobool ?_)))
  first
    | refine wpAny_bind (wpAny_specialOf (name := Str.ofString "__len__") hT dq_slot_len.lookup ?_)
    | refine wpAny_bind (wpAny_pure (wpAny_bind (wpAny_specialOf (name := Str.ofString "__len__") hT dq_slot_len.lookup ?_)))
  first
    | exact wpAny_bind (wpAny_mono key (fun r s' h' => by obtain ⟨t', rfl, hq⟩ := h'; exact wpAny_pure (hne ▸ hq)) fun _ _ e => e)
    | exact wpAny_bind (wpAny_pure (wpAny_bind (wpAny_mono key (fun r s' h' => by obtain ⟨t', rfl, hq⟩ := h'; exact wpAny_pure (hne ▸ hq)) fun _ _ e => e)))
theorem gm_dqAppend {pl : Sem Bool} {Q : Value × List Value → Shared → Prop} (S : St c P s) (t : Take (dq a vs) P R) (h : Q (.builtin "collections.deque.append", [.ref a]) s) : wpAny c.M A (getMethod (.ref a) "append" pl) Q E s := by
  obtain ⟨k, hk⟩ := S.get t
  exact getMethod_builtin (dq_is S t) dq_attrs dq_slot_append dq_type_append (fun b e => by cases e; exact ⟨_, hk, rfl⟩) h
theorem gm_popleft {pl : Sem Bool} {Q : Value × List Value → Shared → Prop} (S : St c P s) (t : Take (dq a vs) P R) (h : Q (.builtin "collections.deque.popleft", [.ref a]) s) : wpAny c.M A (getMethod (.ref a) "popleft" pl) Q E s := by
  obtain ⟨k, hk⟩ := S.get t
  exact getMethod_builtin (dq_is S t) dq_attrs dq_slot_popleft dq_type_popleft (fun b e => by cases e; exact ⟨_, hk, rfl⟩) h
end

section
variable {c : Cx} {A : Around} {E : Value → Shared → Prop} {P R : List HP} {s : Shared} {a l : Addr} {vs : List Value} {v : Value}
theorem dq_init_eq (self it : Value) : Builtin.«collections.deque.__init__» ⟨[self, it], []⟩ = (do setField self 0 .none; Builtin.Deque.clear self; Builtin.Deque.extend self it; ret .none) := by rfl
theorem dq_code_new (a : Value) {Q₁ : Value → Shared → Prop} (h : Q₁ (.ref s.heap.objs.size) { s with heap := s.heap.push (dqObj [] 0) }) :
    codeAny c.M A (.call (.builtin "collections.deque.__new__") ⟨[.type "collections.deque", a], []⟩) (wants Q₁ E) s := by
  refine codeAny_call_builtin dq_plain_new dq_entry_new (wpAny_of_eq (dq_newCall a) ?_)
  have hsub := dq_sub
  have hmro := dq_mro
  obtain ⟨hp, g, d, tk, os⟩ := s
  unfold Builtin.«collections.deque.__new__» Builtin.Deque.newArgs
  wp_walk
  refine wpAny_of_eq dq_sub ?_
  refine wpAny_pure ?_
  dsimp only
  refine wpAny_bind ?_
  unfold Builtin.Deque.new
  rw [if_neg (by simp)]
  have hd : typeHasDict (.type "collections.deque") = false := by kernel_rfl
  rw [hd, if_neg (by simp)]
  refine wpAny_bind (wpAny_pure ?_)
  exact wpAny_newObj_type (wpAny_pure h) (by show (#[Value.none, rawInt 0] ++ #[]).size ≤ sizeLine + 2; simp)
theorem dq_plain_loop : plainId "collections.deque.extend.loop" = true := by decide +kernel
theorem dq_plain_extend : plainId "collections.deque.extend" = true := by decide +kernel
theorem dq_loop1 {it : Addr} {B : Around} {Rr : Result → Shared → Prop} (hh : B.handled = none) (S : St c (lIt it l 1 :: lst l [v] :: dq a [v] :: P) s) (h : ∀ s', St c (lst l [v] :: dq a [v] :: P) s' → Rr (.ok (.ret .none)) s') :
    codeAny c.M B (.builtin "collections.deque.extend.loop" ⟨[.ref a, .ref it, .none], []⟩) Rr s := by
  refine codeAny_builtin dq_entry_loop ?_
  rw [Around.under_plainId dq_plain_loop _]
  unfold Builtin.«collections.deque.extend.loop»
  refine wpAny_bind (wpAny_pure ?_)
  refine wpAny_bind ((l_walk (c := c) (A := B.in1) (it := it) (l := l) (vs := [v]) hh).stop (dq a [v] :: P) s _ _ S fun s' S' => ?_)
  exact wpAny_pure (h _ S')
theorem dq_loop0 {it : Addr} {B : Around} {Rr : Result → Shared → Prop} (hh : B.handled = none) (S : St c (lIt it l 0 :: lst l [v] :: dq a [] :: P) s) (h : ∀ s', St c (lst l [v] :: dq a [v] :: P) s' → Rr (.ok (.ret .none)) s') :
    codeAny c.M B (.builtin "collections.deque.extend.loop" ⟨[.ref a, .ref it, .none], []⟩) Rr s := by
  refine codeAny_builtin dq_entry_loop ?_
  rw [Around.under_plainId dq_plain_loop _]
  unfold Builtin.«collections.deque.extend.loop»
  refine wpAny_bind (wpAny_pure ?_)
  refine wpAny_bind ((l_walk (c := c) (A := B.in1) (it := it) (l := l) (vs := [v]) hh).next 0 (by simp) (dq a [] :: P) s _ _ S fun s' v' hv S' => ?_)
  have e : v' = v := by simpa using hv.symm
  subst e
  dsimp only
  obtain ⟨k, hk⟩ := S'.get (X := dq a []) (.tail (.tail .head))
  refine wpAny_bind (wpAny_field (i := 0) (x := .none) hk rfl (by simp) ?_)
  rw [if_neg (by decide)]
  unfold Builtin.Deque.maxlen
  refine wpAny_bind (wpAny_bind (wpAny_field (i := 0) (x := .none) hk rfl (by simp) (wpAny_pure ?_)))
  rw [if_pos (by decide)]
  refine wpAny_bind (dq_push S' (.tail (.tail .head)) (by simp) fun s2 S2 => ?_)
  refine wpAny_pure ⟨plainId_quiet dq_plain_loop _, dq_loop1 hh (S2.perm ?_) h⟩
  exact (List.Perm.swap _ _ _).trans ((List.Perm.swap _ _ _).cons _)
theorem dq_make {Q : Value → Shared → Prop} (S : St c P s) (hh : A.handled = none) (t : Take (lst l [v]) P R) (h : ∀ s' a, St c (dq a [v] :: lst l [v] :: R) s' → Q (.ref a) s') : wpAny c.M A (call (.type "collections.deque") [.ref l]) Q E s := by
  replace S := S.take t
  refine callType_codes (Q₁ := fun obj s₁ => obj = .ref s.heap.objs.size ∧ s₁ = { s with heap := s.heap.push (dqObj [] 0) }) dq_called (dq_typeCall _) dq_entry_init (dq_code_new _ ⟨rfl, rfl⟩) ?_
  rintro obj s₁ ⟨rfl, rfl⟩
  have S1 := S.alloc (o := dqObj [] 0) (X := dq s.heap.objs.size []) rfl ⟨0, one_self⟩
  refine ⟨dq_is S1 .head, dq_args_init _ _, ?_⟩
  rw [dq_init_eq]
  obtain ⟨k, hk⟩ := S1.get (X := dq s.heap.objs.size []) .head
  refine wpAny_bind (wpAny_setField hk rfl (by simp) ?_)
  have S2 : St c (dq s.heap.objs.size [] :: lst l [v] :: R) { s with heap := (s.heap.push (dqObj [] 0)).update s.heap.objs.size (Obj.mapFields (·.setIfInBounds 0 .none)) } := by
    refine S1.upd dq_owns (fun b hb => Heap.get?_update_ne _ _ _ _ hb) ⟨k, one_self.trans ((Heap.get?_update_self _ hk rfl).trans (congrArg some ?_))⟩
    rfl
  obtain ⟨⟨k2, hk2⟩, hz⟩ : (∃ k2, _ = some (dqObj [] k2)) ∧ True := ⟨S2.get (X := dq s.heap.objs.size []) .head, trivial⟩
  generalize ({ s with heap := (s.heap.push (dqObj [] 0)).update s.heap.objs.size (Obj.mapFields (·.setIfInBounds 0 .none)) } : Shared) = s2 at S2 hk2 ⊢
  refine wpAny_bind ?_
  unfold Builtin.Deque.clear
  refine wpAny_bind (dq_items S2 .head ?_)
  rw [if_neg (by simp)]
  refine wpAny_pure ?_
  refine wpAny_bind ?_
  unfold Builtin.Deque.extend
  refine wpAny_bind (wpAny_runValue (codeAny_builtin dq_entry_extend ?_))
  rw [Around.under_plainId dq_plain_extend _]
  unfold Builtin.«collections.deque.extend»
  refine wpAny_bind (m := selfAndOne "deque.extend" _) (wpAny_pure ?_)
  have hne : ((Value.ref s.heap.objs.size == Value.ref l)) = false := by
    have h1 := S2.ne (a := s.heap.objs.size) (b := l) (X := dq s.heap.objs.size []) (Y := lst l [v]) (.cons .head (.cons .head .nil)) dq_owns lst_owns
    exact beq_eq_false_iff_ne.mpr fun e => h1 (by cases e; rfl)
  dsimp only
  rw [hne, if_neg (by simp)]
  refine wpAny_bind (wpAny_field (i := 0) (x := .none) hk2 rfl (by simp) ?_)
  refine wpAny_bind (l_iter S2 (.tail .head) fun s3 it S3 => ?_)
  refine wpAny_pure ⟨plainId_quiet dq_plain_loop _, dq_loop0 (hh : _ = none) (S3.perm ((List.Perm.swap _ _ _).cons _)) fun s4 S4 => ?_⟩
  exact wpAny_pure (wpAny_pure ⟨rfl, h _ _ (S4.perm (List.Perm.swap _ _ _))⟩)
end

/-! the slots of CurrentEdge -/
def slO (dx : Addr) (sl : Array (Option Value)) : Obj := { cls := .ref 469, dict := some dx, data := .plain, slots := sl }
theorem slO_nil (dx : Addr) : instObj 469 dx = slO dx #[] := rfl
def CSlot (name : Str) (p : Addr) (i : Nat) : Prop := ∀ P : Params, (plainGet (hd.heap_39 P) 469 name = true ∧ isClsIn (hd.heap_39 P) 469 = true ∧ findIn (hd.heap_39 P) (.ref 469) name = some (some (.ref p))) ∧ (specialIn (hd.heap_39 P) (.ref p) "__get__" = some (some (.builtin "member_descriptor.__get__")) ∧
  takesIn (hd.heap_39 P) (.ref p) = some true ∧ slotIn (hd.heap_39 P) p 469 = some i) ∧ takerIn (hd.heap_39 P) 469 name = some (some (.ref p)) ∧ typeIn (hd.heap_39 P) (.ref p) = some (.type "member_descriptor")
theorem sl_curr : CSlot "_curr" 470 0 := fun P => ⟨⟨by kernel_rfl, by kernel_rfl, by kernel_rfl⟩, ⟨by kernel_rfl, by kernel_rfl, by kernel_rfl⟩, by kernel_rfl, by kernel_rfl⟩
theorem sl_edges : CSlot "_edges" 471 1 := fun P => ⟨⟨by kernel_rfl, by kernel_rfl, by kernel_rfl⟩, ⟨by kernel_rfl, by kernel_rfl, by kernel_rfl⟩, by kernel_rfl, by kernel_rfl⟩
theorem sl_it : CSlot "_it" 472 2 := fun P => ⟨⟨by kernel_rfl, by kernel_rfl, by kernel_rfl⟩, ⟨by kernel_rfl, by kernel_rfl, by kernel_rfl⟩, by kernel_rfl, by kernel_rfl⟩
theorem sl_over (P : Params) : findIn (hd.heap_39 P) (.ref 469) "__setattr__" = some (some (.builtin "object.__setattr__")) ∧ plainOver (hd.heap_39 P) 469 = true := ⟨by kernel_rfl, by kernel_rfl⟩
section
variable {c : Cx} {A : Around} {E : Value → Shared → Prop} {P R R1 R2 : List HP} {s : Shared} {x dx : Addr} {sl : Array (Option Value)} {name : Str} {p : Addr} {i : Nat} {v : Value}
theorem sl_at (S : St c P s) (t1 : Take (pt x (slO dx sl)) P R1) (t2 : Take (dS c dx []) P R2) : ∃ od, InstAt s.heap x (slO dx sl) 469 (some od) ∧ ∀ name, lookIn name od = some none := by
  obtain ⟨od, h1, h2, h3⟩ := lookIn_dS (S.get t2)
  exact ⟨od, ⟨S.get t1, rfl, rfl, h1⟩, fun n => h3 n⟩
theorem sl_get {expr : Bool} {Q : Value → Shared → Prop} (S : St c P s) (g : CSlot name p i) (t1 : Take (pt x (slO dx sl)) P R1) (t2 : Take (dS c dx []) P R2) (hv : (sl[i]?).join = some v) (hd : handedIn v = true) (hq : ∀ s', St c P s' → Q v s') :
    wpAny c.M A (getAttr (.ref x) name expr) Q E s := by
  obtain ⟨od, I, hl⟩ := sl_at S t1 t2
  obtain ⟨⟨h1, h2, h3⟩, ⟨h4, h5, h6⟩, h7, h8⟩ := g c.w.params
  exact get_bind S.K I (plainGet_of h1).1 (findObj_data h2 h3 h4 h5) (plainGet_of h1).2 (wpAny_call (slot_get (s := { s with toks := s.toks + 1 }) S.tok.K I h6 hv (handed_on hd (hq _ S.tok))))
open PySem.Builtin PySem.Builtin.ObjectAttr PySem.Builtin.Getset_descriptor in
theorem sl_set {Q : Unit → Shared → Prop} (S : St c P s) (g : CSlot name p i) (t1 : Take (pt x (slO dx sl)) P R1) (t2 : Take (dS c dx []) P R2) (hi : i < 1000)
    (hq : ∀ s', St c (pt x (slO dx ((sl ++ Array.replicate (i + 1 - sl.size) none).setIfInBounds i (some v))) :: R1) s' → Q () s') : wpAny c.M A (setAttr (.ref x) name v) Q E s := by
  obtain ⟨od, I, hl⟩ := sl_at S t1 t2
  obtain ⟨-, ⟨-, -, h6⟩, h7, h8⟩ := g c.w.params
  refine set_plain S.K I (sl_over _).1 (osa_descr (s := { s with toks := s.toks + 1 }) KF.slot_mset S.tok.K I (sl_over _).2 h7 h8 ?_)
  have X := S.tok (t := s.toks + 1) |>.K
  obtain ⟨n, tn, owner, behind, tb, d, sl2, cd, ho, hc, hm, hb, rfl⟩ := slot_of X h6
  have S1 := (S.take t1).tok (t := s.toks + 1)
  have hx := I.at_
  have U := S1.upd (s' := { s with toks := s.toks + 1, heap := s.heap.update x fun o => { o with slots := (o.slots ++ Array.replicate (cd.slotNames.length - 1 - behind.toNat + 1 - o.slots.size) none).setIfInBounds (cd.slotNames.length - 1 - behind.toNat) (some v) } })
    (X' := pt x (slO dx ((sl ++ Array.replicate (cd.slotNames.length - 1 - behind.toNat + 1 - sl.size) none).setIfInBounds (cd.slotNames.length - 1 - behind.toNat) (some v)))) pt_owns (fun b hb => Heap.get?_update_ne _ _ _ _ hb) (one_self.trans (Heap.get?_update_self _ hx rfl))
  have fin := hq _ U
  clear U S1 hq S
  obtain ⟨hh, gg, dr, t, os⟩ := s
  have L0 := I.type (M := c.M)
  have L1 := looks_mroIn (M := c.M) X hm
  have L2 : Looks c.M hh (Slots.slotNamesOf (.ref 469)) cd.slotNames := (looks_clsIn X hc).andThen .now
  dsimp only at ho hx L0 L1
  have f0 := looks_field (M := c.M) ho 0 (v := .str n tn) rfl
  have f1 := looks_field (M := c.M) ho 1 (v := owner) rfl
  have f3 := looks_field (M := c.M) ho 3 (v := .builtin "proto.slot#set") rfl
  have f4 := looks_field (M := c.M) ho 4 (v := .int behind tb) rfl
  refine codeAny_call_builtin KF.slot_mset.plain KF.entry_mset (KF.slot_mset.check _ _ _ _ _ _ _ _ ⟨_, ho, rfl⟩ (KF.args_mset _ _ _) ?_)
  unfold Builtin.«member_descriptor.__set__» descrSet descrStoreThrough descrCheckInstance descrNameAndClass isInstance
  have f5 : Looks c.M hh (descrItself (.ref p)) [.ref p] := ((Looks.ld (part := none) ho).andThen .now).andThen (Looks.of_pure (by kernel_rfl))
  repeat lk
  refine ⟨Code.quiet_builtin _ (by decide +kernel), codeAny_builtin KF.entry_slotset ?_⟩
  unfold Builtin.«proto.slot#set» Slots.target
  repeat lk
  rw [if_neg hb]
  refine wpAny_pure (wpAny_bind ?_)
  unfold setSlotAt
  dsimp only
  rw [if_neg (by rw [sizeLine_eq]; omega)]
  exact wpAny_updatePart hx (wpAny_pure fin)
end

/-! an items iterator in the hand -/
def gIt (it d : Addr) (i n ep : Nat) : HP := fun D => ∃ x0 b ok ov, (x0 = Value.none ∨ ∃ a : Int, x0 = rawInt a) ∧ D it = some { cls := .type "dict_itemiterator", dict := none, data := .fields #[x0, .bool b, .ref d, .int i 0, .int n 0, .int ep 0, ok, ov], slots := #[] }
theorem gIt_owns {it d i n ep} : Owns it (gIt it d i n ep) := fun _ ⟨_, _, _, _, _, h⟩ => ⟨_, h⟩
instance {it d i n ep} : Up (gIt it d i n ep) := ⟨fun _ _ s ⟨x0, b, ok, ov, e, h⟩ => ⟨x0, b, ok, ov, e, s _ _ h⟩⟩
theorem iIt_gIt {it d i n ep D} (h : iIt it d i n ep D) : gIt it d i n ep D := let ⟨ok, ov, h⟩ := h; ⟨.none, false, ok, ov, .inl rfl, h⟩
section
variable {prog : Program} {w : World} {A : Around} {E : Value → Shared → Prop} {s : Shared}
theorem wpAny_alive {M : Model} {a : Addr} {Q : Option Obj → Shared → Prop} (h : Q (s.heap.get? a) s) : wpAny M A (loadIfAlive a) Q E s := fun Γ p hΓ => by
  unfold loadIfAlive
  rw [Sem.wp_loadIfAlive]
  exact wpAny_pure h Γ p hΓ
theorem own_free {it : Addr} {x0 ok ov v2 v3 v4 v5 : Value} {b : Bool} {Q : Bool → Shared → Prop} (hx : x0 = Value.none ∨ ∃ a : Int, x0 = rawInt a) (he : s.heap.get? it = some { cls := .type "dict_itemiterator", dict := none, data := .fields #[x0, .bool b, v2, v3, v4, v5, ok, ov], slots := #[] })
    (h : ∀ h' r b', h'.get? it = some { cls := .type "dict_itemiterator", dict := none, data := .fields #[x0, .bool b', v2, v3, v4, v5, ok, ov], slots := #[] } → Heap.SameBut it s.heap h' → Q r { s with heap := h' }) :
    wpAny (model prog w) A (Builtin.Dict_items.ownedTupleIsFree (.ref it)) Q E s := by
  unfold Builtin.Dict_items.ownedTupleIsFree
  refine wpAny_bind (wpAny_field he rfl (x := x0) rfl ?_)
  rcases hx with rfl | ⟨a, rfl⟩
  · exact wpAny_pure (h _ _ b he (.refl ..))
  · unfold rawInt
    dsimp only
    refine wpAny_bind (wpAny_alive ?_)
    split
    · exact wpAny_pure (h _ _ b he (.refl ..))
    · refine wpAny_bind (wpAny_field he rfl (x := .bool b) rfl ?_)
      cases b with
      | true => exact wpAny_pure (h _ _ true he (.refl ..))
      | false =>
        rw [if_pos (by decide)]
        refine wpAny_bind (wpAny_setField_rec he (by simp) fun h' he' hs' => wpAny_pure (h _ _ true he' hs'))
end
section
variable {c : Cx} {A : Around} {E : Value → Shared → Prop} {s : Shared} {P R : List HP} {K : Type} {dec : DecidableEq K} {knd : KeyKind Pg c.w K} {d it : Addr} {kvs : List (K × Value)} {i ep : Nat}
theorem gi_item {k : K} {v : Value} {Q : Option Value → Shared → Prop} (S : St c (gIt it d i kvs.length ep :: P) s) (t : Take (dAt c knd d kvs ep) P R) (hx : kvs[i]? = some (k, v))
    (hQ : ∀ s' a key, knd.is k key = true → St c (gIt it d (i + 1) kvs.length ep :: tup a [key, v] :: P) s' → Q (some (.ref a)) s') : wpAny c.M A (callSpecial? (.ref it) "__next__") Q E s := by
  obtain ⟨x0, b, ok, ov, hx0, hit⟩ := S.get0
  obtain ⟨od, es, hod, hcd, hdd, hk, hpr, hn⟩ := S.get (X := dAt c knd d kvs ep) (.tail t)
  have hT : s.TypeIs (.ref it) "dict_itemiterator" := ⟨_, hit, rfl⟩
  refine wpAny_callSpecial?_slot (name := Str.ofString "__next__") hT PySem.F.slot_dict_itemiterator_next (wpAny_call_entry PySem.F.slot_dict_itemiterator_next hT PySem.F.entry_dict_itemiterator_next ?_ (PySem.F.args_dict_itemiterator_next_1 _))
  refine wpAny_bind (wpAny_pure ?_)
  refine wpAny_bind ?_
  refine wpAny_bind ?_
  first | refine wpAny_bind (wpAny_typeNameOfWhole_itemiter hT (wpAny_pure ?_)) | refine wpAny_bind (wpAny_typeNameOf_itemiter hT (wpAny_pure ?_))
  refine wpAny_bind (wpAny_fieldsOf hit rfl ?_)
  have hown : Builtin.Dict_items.ownsTuple "dict_itemiterator" = true := by decide
  simp only [hown, if_true]
  show wpAny _ _ (if (Value.ref d == Value.none) = true then _ else _) _ _ _
  rw [if_neg (show ¬ ((Value.ref d == Value.none) = true) from Bool.false_ne_true)]
  refine wpAny_bind (wpAny_pure ?_)
  refine wpAny_bind (wpAny_dictEntries hod hdd ?_)
  have hsz : es.size = kvs.length := by rw [← hpr.length]; simp
  rw [if_neg (by rw [hsz]; simp)]
  refine wpAny_bind (wpAny_pure ?_)
  refine wpAny_bind (wpAny_dictEpoch hod hdd ?_)
  rw [if_neg (by simp)]
  refine wpAny_pure ?_
  have hlt : i < kvs.length := (List.getElem?_eq_some_iff.mp hx).1
  have hlt' : i < es.size := by rw [hsz]; exact hlt
  obtain ⟨hkey, hval⟩ := hpr.get? (e := es[i]) (by simp [hlt']) hx
  simp only [show ¬ ((i : Int) < 0) from by omega, if_false, Int.toNat_natCast, Array.getElem?_eq_getElem hlt']
  refine wpAny_bind ?_
  first | refine wpAny_bind (wpAny_typeNameOfWhole_itemiter hT (wpAny_pure ?_)) | refine wpAny_bind (wpAny_typeNameOf_itemiter hT (wpAny_pure ?_))
  refine wpAny_bind (wpAny_isOneOf_itemiter hT ?_)
  show wpAny _ _ (setField (.ref it) 3 (rawInt ((i : Int) + 1)) >>= _) _ _ s
  refine wpAny_bind (wpAny_setField_rec hit (by simp) fun h₁ he₁ hs₁ => ?_)
  replace he₁ : h₁.get? it = some { cls := .type "dict_itemiterator", dict := none, data := .fields #[x0, .bool b, .ref d, .int (i + 1 : Nat) 0, .int kvs.length 0, .int ep 0, ok, ov], slots := #[] } := by
    have e : ((i + 1 : Nat) : Int) = (i : Int) + 1 := by omega
    rw [e]; simpa [rawInt] using he₁
  have S1 : St c (gIt it d (i + 1) kvs.length ep :: P) { s with heap := h₁ } := S.upd (s' := { s with heap := h₁ }) gIt_owns (fun b hb => hs₁.2 b hb) ⟨x0, b, ok, ov, hx0, one_self.trans he₁⟩
  have hT₁ : Shared.TypeIs { s with heap := h₁ } (.ref it) "dict_itemiterator" := ⟨_, he₁, rfl⟩
  refine wpAny_bind (wpAny_holding ?_)
  refine wpAny_bind (wpAny_isOneOf_itemiter hT₁ ?_)
  refine wpAny_bind (wpAny_isOneOf_itemiter hT₁ ?_)
  show wpAny _ _ (Builtin.Dict_items.pairFromOwner (.ref it) 6 es[i].key es[i].val) _ _ { s with heap := h₁ }
  unfold Builtin.Dict_items.pairFromOwner
  refine wpAny_bind (wpAny_newTuple ?_)
  have S2 := S1.alloc (o := { cls := .type "tuple", data := .seq #[es[i].key, es[i].val] }) (X := tup h₁.objs.size [es[i].key, v]) rfl ⟨0, by rw [← hval]; exact one_self⟩
  have he₂ : (h₁.push { cls := .type "tuple", data := .seq #[es[i].key, es[i].val] }).get? it = some { cls := .type "dict_itemiterator", dict := none, data := .fields #[x0, .bool b, .ref d, .int (i + 1 : Nat) 0, .int kvs.length 0, .int ep 0, ok, ov], slots := #[] } := Heap.get?_push_of_some _ he₁
  dsimp only at S2 he₂
  replace S2 := S2.mono fun _ h => Sat.swap h
  generalize hh₂ : h₁.push { cls := .type "tuple", data := .seq #[es[i].key, es[i].val] } = h₂ at he₂ S2
  generalize h₁.objs.size = a at S2
  refine wpAny_bind (own_free hx0 he₂ fun h₃ r b' he₃ hs₃ => ?_)
  have upd : ∀ (h3 h4 : Heap) (x0 ok ov : Value) (b : Bool), (x0 = Value.none ∨ ∃ a : Int, x0 = rawInt a) → St c (gIt it d (i + 1) kvs.length ep :: tup a [es[i].key, v] :: P) { s with heap := h3 } → h4.get? it = some { cls := .type "dict_itemiterator", dict := none, data := .fields #[x0, .bool b, .ref d, .int (i + 1 : Nat) 0, .int kvs.length 0, .int ep 0, ok, ov], slots := #[] } →
      Heap.SameBut it h3 h4 → St c (gIt it d (i + 1) kvs.length ep :: tup a [es[i].key, v] :: P) { s with heap := h4 } := fun h3 h4 x0 ok ov b hx S e hs =>
    S.upd (s' := { s with heap := h4 }) gIt_owns (fun b hb => hs.2 b hb) ⟨x0, b, ok, ov, hx, one_self.trans e⟩
  have S3 := upd _ _ _ _ _ _ hx0 S2 he₃ hs₃
  cases r with
  | false => exact wpAny_pure (wpAny_pure ⟨_, rfl, hQ _ _ _ hkey S3⟩)
  | true =>
    rw [if_pos rfl]
    refine wpAny_bind (wpAny_field he₃ rfl (x := ok) rfl ?_)
    refine wpAny_bind (wpAny_field he₃ rfl (x := ov) rfl ?_)
    refine wpAny_bind (wpAny_setField_rec he₃ (by simp) fun h₄ he₄ hs₄ => ?_)
    have S4 := upd _ _ _ _ _ _ hx0 S3 he₄ hs₄
    refine wpAny_bind (wpAny_setField_rec he₄ (by simp) fun h₅ he₅ hs₅ => ?_)
    have S5 := upd _ _ _ _ _ _ hx0 S4 he₅ hs₅
    refine wpAny_bind (wpAny_setField_rec he₅ (by simp) fun h₆ he₆ hs₆ => ?_)
    have S6 := upd _ _ _ _ _ _ (.inr ⟨_, rfl⟩) S5 he₆ hs₆
    refine wpAny_bind (wpAny_setField_rec he₆ (by simp) fun h₇ he₇ hs₇ => ?_)
    have S7 := upd _ _ _ _ _ _ (.inr ⟨_, rfl⟩) S6 he₇ hs₇
    exact wpAny_bind (wpAny_letGo (wpAny_pure (wpAny_pure ⟨_, rfl, hQ _ _ _ hkey S7⟩)))
end

/-! frames on the stack, exceptions -/
def frP (p : Addr × List (Str × Option Value)) : HP := frm p.1 p.2
def FrOk : List Env → List (Addr × List (Str × Option Value)) → Prop
  | [], [] => True
  | env :: l, p :: r => env.scope.kind ≠ .module ∧ env.frame = some p.1 ∧ FrOk l r
  | _, _ => False
theorem FrOk.addrs : ∀ {l : List Env} {r : List (Addr × List (Str × Option Value))}, FrOk l r → l.filterMap (·.frame) = r.map (·.1)
  | [], [], _ => rfl
  | env :: l, p :: r, h => by
    rw [List.filterMap_cons, h.2.1]
    simp [FrOk.addrs h.2.2]
  | [], _ :: _, h => h.elim
  | _ :: _, [], h => h.elim
def noHeap : Heap := { objs := #[] }
theorem noHeap_get (b : Addr) : noHeap.get? b = none := by unfold noHeap Heap.get?; simp
theorem FrOk.fun : ∀ {l : List Env} {r : List (Addr × List (Str × Option Value))} {h : Heap} {d : PH}, FrOk l r → Sub d h.get? → Sat (r.map frP) d → h.FunFrames noHeap l
  | [], [], _, _, _, _, _ => trivial
  | env :: l, p :: r, h, d, x, hs, S => by
    obtain ⟨d1, d2, g1, g2, g3, g4, g5⟩ := S
    obtain ⟨hn, o, es, ep, a1, a2, a3⟩ := g4
    exact ⟨x.1, ⟨p.1, o, x.2.1, noHeap_get _, hs _ _ (g2 _ _ a1), fun vs e => by rw [a2] at e; cases e⟩, FrOk.fun x.2.2 (g3.trans hs) g5⟩
  | [], _ :: _, _, _, h, _, _ => h.elim
  | _ :: _, [], _, _, h, _, _ => h.elim
theorem Sat.slots {h' : Heap} : ∀ {r : List (Addr × List (Str × Option Value))} {R : List HP} {d : PH}, Sat (r.map frP ++ R) d → (∀ b o, d b = some o → b ∈ r.map (·.1) → ∃ sl, h'.get? b = some { o with slots := sl }) →
    Sat (r.map frP ++ R) (fun b => if b ∈ r.map (·.1) then h'.get? b else d b)
  | [], R, d, S, _ => by simpa using S
  | p :: r, R, d, S, H => by
    obtain ⟨d1, d2, g1, g2, g3, g4, g5⟩ := S
    obtain ⟨hn, o, es, ep, a1, a2, a3⟩ := g4
    obtain ⟨sl, hsl⟩ := H p.1 o (g2 _ _ a1) (by simp)
    have own : ∀ (r : List (Addr × List (Str × Option Value))) (d : PH), Sat (r.map frP ++ R) d → ∀ b ∈ r.map (·.1), ∃ o, d b = some o := by
      intro r
      induction r with
      | nil => intro d _ b hb; simp at hb
      | cons q r ih =>
        intro d S b hb
        obtain ⟨e1, e2, k1, k2, k3, k4, k5⟩ := S
        rcases List.mem_cons.mp hb with rfl | hb
        · obtain ⟨_, o, _, _, z, _⟩ := k4; exact ⟨o, k2 _ _ z⟩
        · obtain ⟨o, z⟩ := ih e2 k5 b hb; exact ⟨o, k3 _ _ z⟩
    have hp2 : d2 p.1 = none := by
      rcases g1 p.1 with z | z
      · rw [a1] at z; cases z
      · exact z
    have hpr : p.1 ∉ r.map (·.1) := fun z => by
      obtain ⟨o, q⟩ := own r d2 g5 _ z
      rw [hp2] at q; cases q
    have ih := Sat.slots (h' := h') g5 fun b o q hb => H b o (g3 _ _ q) (by simp only [List.map_cons]; exact List.mem_cons_of_mem _ hb)
    refine ⟨one p.1 (h'.get? p.1), _, fun b => ?_, fun b o q => ?_, fun b o q => ?_, ⟨hn, _, es, ep, one_self.trans hsl, a2, a3⟩, ih⟩
    · by_cases e : b = p.1
      · subst e; right; rw [if_neg hpr]; exact hp2
      · left; simp [one, e]
    · by_cases e : b = p.1
      · subst e; simpa [one] using q
      · simp [one, e] at q
    · by_cases e : b = p.1
      · subst e; rw [if_neg hpr, hp2] at q; cases q
      · dsimp only at q ⊢
        simp only [List.map_cons, List.mem_cons, e, false_or]
        split at q
        · rename_i hb; rw [if_pos hb]; exact q
        · rename_i hb; rw [if_neg hb]; exact g3 _ _ q
section
variable {c : Cx} {A : Around} {E : Value → Shared → Prop} {s : Shared} {P R : List HP} {frs : List (Addr × List (Str × Option Value))} {e tb L : Addr}
theorem St.slots {h' : Heap} (S : St c (fam frs frP :: P) s) (hs : Heap.SlotsOnly (frs.map (·.1)) s.heap h') : St c (fam frs frP :: P) { s with heap := h' } := by
  have S1 : St c (frs.map frP ++ P) s := S.flat
  refine St.unflat (l := frs.map frP) ?_
  obtain ⟨d, h1, h2, h3, h4⟩ := S1.own
  have own : ∀ (r : List (Addr × List (Str × Option Value))) (d : PH), Sat (r.map frP ++ P) d → ∀ b ∈ r.map (·.1), ∃ o, d b = some o := by
    intro r
    induction r with
    | nil => intro d _ b hb; simp at hb
    | cons q r ih =>
      intro d S b hb
      obtain ⟨e1, e2, k1, k2, k3, k4, k5⟩ := S
      rcases List.mem_cons.mp hb with rfl | hb
      · obtain ⟨_, o, _, _, z, _⟩ := k4; exact ⟨o, k2 _ _ z⟩
      · obtain ⟨o, z⟩ := ih e2 k5 b hb; exact ⟨o, k3 _ _ z⟩
  have hst : ∀ b ∈ frs.map (·.1), c.st b = none := fun b hb => by
    obtain ⟨o, q⟩ := own frs d h4 b hb
    rcases h3 b with z | z
    · exact z
    · rw [q] at z; cases z
  refine ⟨fun b o q => ?_, ⟨fun b => if b ∈ frs.map (·.1) then h'.get? b else d b, fun b o q => ?_, fun b o q => ?_, fun b => ?_, Sat.slots h4 fun b o q hb => hs.2.2 b o (h1 _ _ q)⟩, S1.os, S1.gens⟩
  · have : b ∉ frs.map (·.1) := fun z => by rw [hst b z] at q; cases q
    exact (hs.2.1 b this).trans (S1.keep b o q)
  · dsimp only at q
    split at q
    · exact q
    · rename_i hb; exact (hs.2.1 b hb).trans (h1 b o q)
  · dsimp only at q
    split at q
    · rename_i hb; obtain ⟨o', z⟩ := own frs d h4 b hb; exact h2 b o' z
    · exact h2 b o q
  · dsimp only
    split
    · rename_i hb; exact .inl (hst b hb)
    · exact h3 b
def exN (e : Addr) : HP := fun D => ∃ o vs, D e = some o ∧ o.cls = .type "StopIteration" ∧ o.data = .fields vs ∧ vs[1]? = some Value.none ∧ vs[2]? = some Value.none
def exA (e tb : Addr) : HP := fun D => ∃ o vs, D e = some o ∧ o.cls = .type "StopIteration" ∧ o.data = .fields vs ∧ vs[1]? = some (Value.ref tb) ∧ vs[2]? = some Value.none
def exB (tb : Addr) (fl : Value) : HP := fun D => ∃ o vs, D tb = some o ∧ o.data = .fields vs ∧ vs[3]? = some fl
theorem exN_owns : Owns e (exN e) := fun _ ⟨o, _, h, _⟩ => ⟨o, h⟩
theorem exA_owns : Owns e (exA e tb) := fun _ ⟨o, _, h, _⟩ => ⟨o, h⟩
theorem exB_owns {fl : Value} : Owns tb (exB tb fl) := fun _ ⟨o, _, h, _⟩ => ⟨o, h⟩
instance : Up (exN e) := ⟨fun _ _ s ⟨o, vs, h, r⟩ => ⟨o, vs, s _ _ h, r⟩⟩
instance : Up (exA e tb) := ⟨fun _ _ s ⟨o, vs, h, r⟩ => ⟨o, vs, s _ _ h, r⟩⟩
instance {fl : Value} : Up (exB tb fl) := ⟨fun _ _ s ⟨o, vs, h, r⟩ => ⟨o, vs, s _ _ h, r⟩⟩
/-- a field of a record is set -/
theorem St.fld {X : HP} {a : Addr} {o : Obj} {vs : Array Value} {i : Nat} {v : Value} {X' : HP} (S : St c (X :: P) s) (hX : Owns a X) (ho : s.heap.get? a = some o) (hd : o.data = .fields vs)
    (h' : ∀ o', o'.cls = o.cls → o'.data = .fields (vs.setIfInBounds i v) → X' (one a (some o'))) : St c (X' :: P) { s with heap := s.heap.update a (Obj.mapFields (·.setIfInBounds i v)) } := by
  have hd' := Obj.data_mapFields hd (·.setIfInBounds i v)
  have hg := Heap.get?_update_self _ ho (Obj.isFreed_of_fields hd')
  refine S.upd hX (fun b hb => Heap.get?_update_ne _ _ _ _ hb) ?_
  show X' (one a ((s.heap.update a _).get? a))
  rw [hg]
  exact h' _ (Obj.cls_mapFields ..) hd'
theorem newEntryS {env : Env} {outer : List Env} {head : Value} {b : Bool} {X : HP} {Q : Unit → Shared → Prop} {o : Obj} {vs : Array Value} (S : St c (X :: fam frs frP :: P) s) (hX : Owns e X) (he : s.heap.get? e = some o) (hcl : o.cls = .type "StopIteration") (hd : o.data = .fields vs) (h1 : 1 < vs.size) (h2 : vs[2]? = some Value.none)
    (hfr : A.frames = some (env :: outer)) (hf : env.frame = some L) (F : FrOk (env :: outer) frs)
    (h : ∀ s' tb, St c (exA e tb :: exB tb (rawInt L) :: fam frs frP :: P) s' → Q () s') :
    wpAny c.M A (do let a ← frameOf env; let pl ← entryPlaceOf L b; let t ← EntryCells.newEntry head a .none (rawInt L) .none pl; setField (.ref e) 1 t) Q E s := by
  have S1 : St c (fam frs frP :: X :: P) s := S.mono fun _ => Sat.swap
  obtain ⟨d, g1, g2, g3, d1, d2, k1, k2, k3, k4, k5⟩ := S1.own
  have hl := F.fun (k2.trans g1) k4
  refine wpAny_bind (wpAny_frameOf_fun hfr hl hf fun h₁ hs₁ => ?_)
  rw [F.addrs] at hs₁
  have he₁ : h₁.get? e = some o := by
    refine (hs₁.2.1 e fun z => ?_).trans he
    obtain ⟨p, hp, q⟩ := List.mem_map.mp z
    have : ∀ (r : List (Addr × List (Str × Option Value))) (d : PH), Sat (r.map frP) d → ∀ b ∈ r.map (·.1), ∃ o es ep, d b = some o ∧ o.data = .dict es ep := by
      intro r
      induction r with
      | nil => intro d _ b hb; simp at hb
      | cons q r ih =>
        intro d S b hb
        obtain ⟨e1, e2, y1, y2, y3, y4, y5⟩ := S
        rcases List.mem_cons.mp hb with rfl | hb
        · obtain ⟨_, o, es, ep, z, z2, _⟩ := y4; exact ⟨o, es, ep, y2 _ _ z, z2⟩
        · obtain ⟨o, es, ep, z, z2⟩ := ih e2 y5 b hb; exact ⟨o, es, ep, y3 _ _ z, z2⟩
    obtain ⟨o', es, ep, z1, z2⟩ := this frs d1 k4 e z
    have z3 := g1 _ _ (k2 _ _ z1)
    rw [he] at z3
    cases z3
    rw [hd] at z2; cases z2
  have S2 : St c (X :: fam frs frP :: P) { s with heap := h₁ } := (S1.slots hs₁).mono fun _ => Sat.swap
  refine wpAny_bind (wpAny_entryPlaceOf fun pl hpl => ?_)
  unfold EntryCells.newEntry newFields
  refine wpAny_bind (wpAny_newObj_type ?_ (hpl.sizeOk5 _ _ _ _ _))
  have S3 := S2.alloc (o := { cls := .type "traceback", dict := none, data := .fields ([head, .ref L, .none, rawInt L, .none] ++ (if pl.isEmpty then List.replicate 6 Value.none else pl)).toArray }) (X := exB h₁.objs.size (rawInt L)) rfl ⟨_, _, one_self, rfl, by simp⟩
  have S4 := S3.mono fun _ h => Sat.swap h
  have he₂ := Heap.get?_push_of_some (h := h₁) { cls := .type "traceback", dict := none, data := .fields ([head, .ref L, .none, rawInt L, .none] ++ (if pl.isEmpty then List.replicate 6 Value.none else pl)).toArray } he₁
  refine wpAny_setField he₂ hd h1 (h _ h₁.objs.size (S4.fld hX he₂ hd fun o' q1 q2 => ⟨o', _, one_self, q1.trans hcl, q2, by simp [h1], ?_⟩))
  rw [Array.getElem?_setIfInBounds_ne (by decide)]; exact h2
end
section
variable {c : Cx} {A : Around} {E : Value → Shared → Prop} {s : Shared} {P R : List HP} {frs : List (Addr × List (Str × Option Value))} {e tb L : Addr} {fl : Value}
theorem exA_ne (S : St c (exA e tb :: exB tb fl :: P) s) : e ≠ tb := S.ne (.cons .head (.cons .head .nil)) exA_owns exB_owns
theorem note1 {env : Env} {outer : List Env} {Q : Unit → Shared → Prop} (S : St c (exN e :: fam frs frP :: P) s) (hfr : A.frames = some (env :: outer)) (hf : env.frame = some L) (F : FrOk (env :: outer) frs)
    (h : ∀ s' tb, St c (exA e tb :: exB tb (rawInt L) :: fam frs frP :: P) s' → Q () s') : wpAny c.M A (noteFrame (.ref e) env) Q E s := by
  obtain ⟨o, vs, ho, hc, hd, h1, h2⟩ := S.get0
  unfold noteFrame
  simp only [hf]
  refine wpAny_bind (wpAny_field ho hd h1 ?_)
  rw [if_neg (by decide)]
  exact newEntryS S exN_owns ho hc hd (Array.getElem?_eq_some_iff.mp h1).1 h2 hfr hf F h
theorem flight {fr : Option Addr} {Q : Unit → Shared → Prop} (S : St c (exA e tb :: exB tb fl :: P) s) (h : ∀ s', St c (exA e tb :: exB tb (fr.elim Value.none fun f => rawInt f) :: P) s' → Q () s') : wpAny c.M A (setFlight (.ref e) fr) Q E s := by
  obtain ⟨o, vs, ho, hc, hd, h1, h2⟩ := S.get0
  have S1 := S.mono fun _ => Sat.swap
  obtain ⟨ot, ts, hto, htd, ht3⟩ := S1.get0
  unfold setFlight
  refine wpAny_bind (wpAny_field ho hd h1 ?_)
  rw [if_pos (show (Value.ref tb != Value.none) = true from by simp)]
  refine wpAny_setField hto htd (Array.getElem?_eq_some_iff.mp ht3).1 (h _ ?_)
  refine (S1.fld (X' := exB tb (fr.elim Value.none fun f => rawInt f)) exB_owns hto htd fun o' q1 q2 => ⟨o', _, one_self, q2, ?_⟩).mono fun _ => Sat.swap
  simp [(Array.getElem?_eq_some_iff.mp ht3).1]
theorem note2 {env : Env} {outer : List Env} {Q : Unit → Shared → Prop} (S : St c (exA e tb :: exB tb .none :: fam frs frP :: P) s) (hfr : A.frames = some (env :: outer)) (hf : env.frame = some L) (F : FrOk (env :: outer) frs)
    (h : ∀ s' tb, St c (exA e tb :: exB tb (rawInt L) :: fam frs frP :: P) s' → Q () s') : wpAny c.M A (noteFrame (.ref e) env) Q E s := by
  obtain ⟨o, vs, ho, hc, hd, h1, h2⟩ := S.get0
  have S1 := S.mono fun _ => Sat.swap
  obtain ⟨ot, ts, hto, htd, ht3⟩ := S1.get0
  have hne := exA_ne S
  unfold noteFrame
  simp only [hf]
  refine wpAny_bind (wpAny_field ho hd h1 ?_)
  rw [if_pos (show (Value.ref tb != Value.none) = true from by simp)]
  refine wpAny_bind (wpAny_field hto htd ht3 ?_)
  rw [if_neg (show ¬ ((Value.none == rawInt L) = true) from by simp [rawInt])]
  refine wpAny_bind (wpAny_setField hto htd (Array.getElem?_eq_some_iff.mp ht3).1 ?_)
  have S2 := (S1.fld (X' := exB tb .none) (i := 3) (v := .none) exB_owns hto htd fun o' q1 q2 => ⟨o', _, one_self, q2, by simp [(Array.getElem?_eq_some_iff.mp ht3).1]⟩).mono fun _ => Sat.swap
  have ho2 : (s.heap.update tb (Obj.mapFields (·.setIfInBounds 3 .none))).get? e = some o := (Heap.get?_update_ne _ _ _ _ hne).trans ho
  refine newEntryS (P := exB tb .none :: P) (X := exA e tb) (S2.perm ?_) exA_owns ho2 hc hd (Array.getElem?_eq_some_iff.mp h1).1 h2 hfr hf F fun s' tb' S' => h _ _ (S'.mono fun _ h => Sat.cons_mono (fun _ h => Sat.cons_mono (fun _ h => Sat.cons_mono (fun _ h => Sat.drop h) h) h) h)
  exact (List.Perm.swap _ _ _).cons _
theorem note0 {env : Env} {Q : Unit → Shared → Prop} (S : St c (exA e tb :: exB tb (rawInt L) :: P) s) (hf : env.frame = some L) (h : Q () s) : wpAny c.M A (noteFrame (.ref e) env) Q E s := by
  obtain ⟨o, vs, ho, hc, hd, h1, h2⟩ := S.get0
  obtain ⟨ot, ts, hto, htd, ht3⟩ := (S.mono fun _ => Sat.swap).get0
  exact wpAny_noteFrame_inFlight hf ho hd h1 hto htd ht3 h
theorem leave0 {env : Env} {Q : Unit → Shared → Prop} (S : St c (exA e tb :: exB tb (rawInt L) :: P) s) (hf : env.frame = some L) (h : ∀ s', St c (exA e tb :: exB tb .none :: P) s' → Q () s') : wpAny c.M A (leaving env (.ref e)) Q E s := by
  unfold leaving
  exact wpAny_bind (note0 S hf (flight S h))
theorem reraise {env : Env} {Q : Flow → Shared → Prop} {pos : Pos} (S : St c (exA e tb :: exB tb fl :: P) s) (hA : A.handled = some (.ref e)) (hf : env.frame = some L) (h : ∀ s', St c (exA e tb :: exB tb (rawInt L) :: P) s' → E (.ref e) s') :
    wpAny c.M A (exec (.Raise none none pos) env) Q E s := by
  obtain ⟨o, vs, ho, hc, hd, h1, h2⟩ := S.get0
  rw [arm_exec_Raise]
  refine wpAny_bind (wpAny_standAt ?_)
  show wpAny _ _ (raiseStmt env none none) _ _ _
  unfold raiseStmt
  refine wpAny_bind (wpAny_handled ?_)
  rw [hA]
  dsimp only
  refine wpAny_bind (wpAny_rule (wpAny_bind (wpAny_field ho hd h1 ?_)))
  rw [if_neg (by simp)]
  refine wpAny_bind (flight S fun s' S' => wpAny_throw (h s' ?_))
  rw [hf] at S'; exact S'
/-- the exception is being handled -/
def Cx.hold (c : Cx) (e : Addr) (d : PH) (h : ∃ o its, uni c.h₀.get? (uni c.more d) e = some o ∧ o.data = .fields its ∧ its[2]? = some .none) : Cx := { c with more := uni c.more d, hx := some (.ref e), hxp := .inr ⟨e, h.choose, h.choose_spec.choose, rfl, h.choose_spec.choose_spec⟩ }
theorem St.hold (S : St c (exA e tb :: exB tb fl :: P) s) : ∃ d h, St (c.hold e d h) P s ∧ ∀ s' P', St (c.hold e d h) P' s' → St c (exA e tb :: exB tb fl :: P') s' := by
  obtain ⟨d, h1, h2, h3, d1, d2, g1, g2, g3, g4, d3, d4, k1, k2, k3, k4, k5⟩ := S.own
  obtain ⟨o, vs, ho, hc, hd, hv1, hv2⟩ := g4
  have hd13 : Dis d1 d3 := g1.sub (Sub.refl _) k2
  have hst : ∀ a o, uni d1 d3 a = some o → c.st a = none := fun a o q => by
    have : d a = some o := by
      unfold uni at q
      cases z : d1 a with
      | some x => rw [z] at q; cases q; exact g2 _ _ z
      | none => rw [z] at q; exact g3 _ _ (k2 _ _ q)
    rcases h3 a with z | z
    · exact z
    · rw [this] at z; cases z
  have hmore : ∀ a, uni c.h₀.get? (uni c.more (uni d1 d3)) a = (c.st a).or (uni d1 d3 a) := fun a => by
    unfold Cx.st uni
    rw [Option.or_assoc]
  have hx : ∃ o its, uni c.h₀.get? (uni c.more (uni d1 d3)) e = some o ∧ o.data = .fields its ∧ its[2]? = some .none := by
    refine ⟨o, vs, ?_, hd, hv2⟩
    have : uni d1 d3 e = some o := by unfold uni; rw [ho]; rfl
    rw [hmore, hst _ _ this, this]; rfl
  have hds : Sub (uni d1 d3) d := uni_sub g2 (k2.trans g3)
  refine ⟨uni d1 d3, hx, ⟨fun a o' q => ?_, ⟨d4, (k3.trans g3).trans h1, fun a o' q => h2 a o' (g3 _ _ (k3 _ _ q)), fun a => ?_, k5⟩, S.os, S.gens⟩, fun s' P' S' => ?_⟩
  · have q' : uni c.h₀.get? (uni c.more (uni d1 d3)) a = some o' := q
    rw [hmore] at q'
    cases z : c.st a with
    | some x => rw [z] at q'; cases q'; exact S.keep a _ z
    | none => rw [z] at q'; exact h1 _ _ (hds _ _ q')
  · show uni c.h₀.get? (uni c.more (uni d1 d3)) a = none ∨ _
    rw [hmore]
    cases z : d4 a with
    | none => exact .inr rfl
    | some x =>
      left
      have y1 : c.st a = none := by
        rcases h3 a with y | y
        · exact y
        · rw [g3 _ _ (k3 _ _ z)] at y; cases y
      have y2 : d1 a = none := by
        rcases g1 a with y | y
        · exact y
        · rw [k3 _ _ z] at y; cases y
      have y3 : d3 a = none := by
        rcases k1 a with y | y
        · exact y
        · rw [z] at y; cases y
      simp [y1, uni, y2, y3]
  · obtain ⟨f, f1, f2, f3, f4⟩ := S'.own
    have kp : Sub (uni d1 d3) s'.heap.get? := fun a o' q => S'.keep a o' (by
      show uni c.h₀.get? (uni c.more (uni d1 d3)) a = some o'
      rw [hmore, hst _ _ q, q]; rfl)
    have kc : Sub c.st s'.heap.get? := fun a o' q => S'.keep a o' (by
      show uni c.h₀.get? (uni c.more (uni d1 d3)) a = some o'
      rw [hmore, q]; rfl)
    have df : Dis (uni d1 d3) f := fun a => by
      rcases f3 a with y | y
      · left
        have y' : uni c.h₀.get? (uni c.more (uni d1 d3)) a = none := y
        rw [hmore] at y'
        cases z : c.st a with
        | none => rw [z] at y'; exact y'
        | some x => rw [z] at y'; cases y'
      · exact .inr y
    have df1 : Dis d1 f := df.sub (sub_uni_left _ _) (Sub.refl _)
    have df3 : Dis d3 f := df.sub (sub_uni_right hd13) (Sub.refl _)
    refine ⟨kc, ⟨uni d1 (uni d3 f), uni_sub ((sub_uni_left _ _).trans kp) (uni_sub ((sub_uni_right hd13).trans kp) f1), fun a o' q => ?_, fun a => ?_,
      d1, uni d3 f, dis_uni hd13 df1, sub_uni_left _ _, sub_uni_right (dis_uni hd13 df1), ⟨o, vs, ho, hc, hd, hv1, hv2⟩, d3, f, df3, sub_uni_left _ _, sub_uni_right df3, k4, f4⟩, S'.os, S'.gens⟩
    · unfold uni at q
      cases z : d1 a with
      | some x => exact h2 a _ (g2 _ _ z)
      | none =>
        rw [z] at q
        cases z2 : d3 a with
        | some x => exact h2 a _ (g3 _ _ (k2 _ _ z2))
        | none => rw [z2] at q; exact f2 a o' q
    · cases z : c.st a with
      | none => exact .inl rfl
      | some x =>
        right
        have y1 : uni d1 d3 a = none := by
          cases y : uni d1 d3 a with
          | none => rfl
          | some x' => rw [hst _ _ y] at z; cases z
        have y2 : f a = none := by
          rcases f3 a with y | y
          · have y' : uni c.h₀.get? (uni c.more (uni d1 d3)) a = none := y
            rw [hmore, z] at y'; cases y'
          · exact y
        unfold uni at y1 ⊢
        cases z1 : d1 a with
        | some x' => rw [z1] at y1; cases y1
        | none => rw [z1] at y1; simp at y1; simp [y1, y2]
end

section
variable {c : Cx} {A : Around} {E : Value → Shared → Prop} {s : Shared} {P R : List HP} {K : Type} {dec : DecidableEq K} {knd : KeyKind Pg c.w K} {d it : Addr} {kvs : List (K × Value)} {i ep : Nat}
/-- the iterator is at its end: what is raised -/
theorem gi_stop {Q : Option Value → Shared → Prop} (S : St c (gIt it d i kvs.length ep :: P) s) (t : Take (dAt c knd d kvs ep) P R) (hx : kvs.length ≤ i)
    (h : ∀ s', St c P s' → wpAny c.M A.in1 (newExc (.type "StopIteration") [] >>= fun e => (raiseNew e : Sem Fin)) (fun _ _ => False) E s') : wpAny c.M A (callSpecial? (.ref it) "__next__") Q E s := by
  obtain ⟨x0, b, ok, ov, hx0, hit⟩ := S.get0
  obtain ⟨od, es, hod, hcd, hdd, hk, hpr, hn⟩ := S.get (X := dAt c knd d kvs ep) (.tail t)
  have hT : s.TypeIs (.ref it) "dict_itemiterator" := ⟨_, hit, rfl⟩
  refine wpAny_callSpecial?_slot (name := Str.ofString "__next__") hT PySem.F.slot_dict_itemiterator_next (wpAny_call_entry PySem.F.slot_dict_itemiterator_next hT PySem.F.entry_dict_itemiterator_next ?_ (PySem.F.args_dict_itemiterator_next_1 _))
  refine wpAny_bind (wpAny_pure ?_)
  refine wpAny_bind ?_
  refine wpAny_bind ?_
  first | refine wpAny_bind (wpAny_typeNameOfWhole_itemiter hT (wpAny_pure ?_)) | refine wpAny_bind (wpAny_typeNameOf_itemiter hT (wpAny_pure ?_))
  refine wpAny_bind (wpAny_fieldsOf hit rfl ?_)
  have hown : Builtin.Dict_items.ownsTuple "dict_itemiterator" = true := by decide
  simp only [hown, if_true]
  show wpAny _ _ (if (Value.ref d == Value.none) = true then _ else _) _ _ _
  rw [if_neg (show ¬ ((Value.ref d == Value.none) = true) from Bool.false_ne_true)]
  refine wpAny_bind (wpAny_pure ?_)
  refine wpAny_bind (wpAny_dictEntries hod hdd ?_)
  have hsz : es.size = kvs.length := by rw [← hpr.length]; simp
  rw [if_neg (by rw [hsz]; simp)]
  refine wpAny_bind (wpAny_pure ?_)
  refine wpAny_bind (wpAny_dictEpoch hod hdd ?_)
  rw [if_neg (by simp)]
  refine wpAny_pure ?_
  have hge : es.size ≤ i := by rw [hsz]; exact hx
  simp only [show ¬ ((i : Int) < 0) from by omega, if_false, Int.toNat_natCast, Array.getElem?_eq_none hge]
  refine wpAny_bind ?_
  first | refine wpAny_bind (wpAny_typeNameOfWhole_itemiter hT (wpAny_pure ?_)) | refine wpAny_bind (wpAny_typeNameOf_itemiter hT (wpAny_pure ?_))
  show wpAny _ _ (setField (.ref it) 2 .none >>= _) _ _ s
  refine wpAny_bind (wpAny_setField hit rfl (by simp) ?_)
  exact wpAny_mono (h _ (Sat.extBut S gIt_owns (Heap.SameBut.update ..).extBut)) (fun _ _ z => z.elim) fun _ _ z => z
theorem gi_end {Q : Option Value → Shared → Prop} (hA : A.handled = c.hx) (S : St c (gIt it d i kvs.length ep :: P) s) (t : Take (dAt c knd d kvs ep) P R) (hx : kvs.length ≤ i) (hq : ∀ s', St c P s' → Q none s') : wpAny c.M A (pyNext (.ref it)) Q E s := by
  unfold pyNext
  refine wpAny_bind (wpAny_attempt (gi_stop S t hx fun s' S' => stop_raise (A := A.in1) S'.keep hA fun h' a hk hcl => ?_))
  refine wpAny_bind (wpAny_isInstance (T := "StopIteration") (b := true) hcl isSubtype_stop ?_)
  exact wpAny_pure (hq _ (S'.ext hk))
/-- items are walked, whatever is being handled -/
theorem i_walkH (hA : A.handled = c.hx) : Iter c A (.ref it) kvs.length (fun i => [iIt it d i kvs.length ep, dAt c knd d kvs ep]) (fun i v => True) (fun i v => [iOut it d (i + 1) kvs.length ep v, dAt c knd d kvs ep, iTup c knd kvs i v]) [dR c knd d kvs] := by
  refine ⟨fun i hi P s Q E S h => ?_, fun P s Q E S h => ?_⟩
  · have hx : kvs[i]? = some (kvs[i].1, kvs[i].2) := List.getElem?_eq_getElem hi
    obtain ⟨ok, ov, hit⟩ := (S.get0 : iIt it d i kvs.length ep s.heap.get?)
    refine wpAny_pyNext_items_item (knd := knd) hit (S.get (.tail .head) : dAt c knd d kvs ep s.heap.get?) hx fun key h' hk h1 h2 h3 h4 => h _ _ trivial ?_
    have S2 := S.updNew (X1 := iOut it d (i + 1) kvs.length ep (.ref s.heap.objs.size)) (X2 := iTup c knd kvs i (.ref s.heap.objs.size)) (n := s.heap.objs.size) iIt_owns (fun b o hb e => h4 b o hb e) ⟨_, _, _, rfl, one_self.trans h1⟩ ⟨_, _, _, _, rfl, hx, hk, one_self.trans h2⟩ (Nat.le_refl _)
    exact S2.mono fun _ h => Sat.cons_mono (fun _ h => Sat.swap h) h
  · have S1 : St c (gIt it d kvs.length kvs.length ep :: dAt c knd d kvs ep :: P) s := S.head_mono fun _ => iIt_gIt
    exact gi_end hA S1 .head (Nat.le_refl _) fun s' S' => h _ (S'.head_mono fun _ => dAt_dR)
theorem exN_raise {α : Type} {Q : α → Shared → Prop} (S : St c P s) (hh : A.handled = none) (h : ∀ s' e, St c (exN e :: P) s' → E (.ref e) s') : wpAny c.M A (newExc (.type "StopIteration") [] >>= fun e => (raiseNew e : Sem α)) Q E s := by
  refine wpAny_bind ?_
  simp only [newExc, newTuple]
  refine wpAny_bind (wpAny_newObj_type ?_ (by size_fits))
  refine wpAny_bind (m := firstArgMember _ _) (wpAny_of_eq (a := Value.none) (by first | rfl | (simp only [firstArgMember]; rfl)) ?_)
  refine wpAny_newObj_type ?_ (by size_fits)
  simp only [raiseNew]
  refine wpAny_bind (wpAny_handled ?_)
  rw [hh]
  refine wpAny_bind (wpAny_pure (wpAny_throw (h _ _ ?_)))
  have S1 := S.ext (s' := { s with heap := s.heap.push { cls := .type "tuple", data := .seq ([] : List Value).toArray } }) fun b o e => Heap.get?_push_of_some _ e
  refine S1.alloc rfl ⟨_, _, one_self, rfl, rfl, ?_, ?_⟩
  · rw [Array.getElem?_append_left (by simp)]; rfl
  · rw [Array.getElem?_append_left (by simp)]; rfl
theorem call_next {x : Value} {T : String} {i : String} {Q : Value → Shared → Prop} (hT : s.TypeIs x T) (sl : Slot T "__next__" i) (h : wpAny c.M A.in1 (callSpecial? x "__next__") (fun r s' => ∃ v, r = some v ∧ Q v s') E s) : wpAny c.M A (call (.builtin "next") [x]) Q E s := by
  refine call_function_entry (by decide +kernel) (by decide +kernel) kdk_entry_next (kdk_args_next _) ?_
  unfold Builtin.«next»
  refine wpAny_bind (m := someArgs "next" 1 2 _) (wpAny_of_eq (a := [x]) (by first | rfl | kernel_rfl!) ?_)
  dsimp only
  refine wpAny_bind (wpAny_specialOf (name := Str.ofString "__next__") hT sl.lookup ?_)
  refine wpAny_ite_split (fun hab => absurd hab (by simp)) (fun _ => ?_)
  exact wpAny_bind (wpAny_mono h (fun r s' h' => by obtain ⟨v, rfl, hq⟩ := h'; exact wpAny_pure ⟨_, rfl, hq⟩) fun _ _ z => z)
theorem gIt_is (S : St c P s) (t : Take (gIt it d i kvs.length ep) P R) : s.TypeIs (.ref it) "dict_itemiterator" := by
  obtain ⟨x0, b, ok, ov, hx0, hit⟩ := S.get t
  exact ⟨_, hit, rfl⟩
theorem next_gi {k : K} {v : Value} {Q : Value → Shared → Prop} (S : St c (gIt it d i kvs.length ep :: P) s) (t : Take (dAt c knd d kvs ep) P R) (hx : kvs[i]? = some (k, v))
    (hQ : ∀ s' a key, knd.is k key = true → St c (gIt it d (i + 1) kvs.length ep :: tup a [key, v] :: P) s' → Q (.ref a) s') : wpAny c.M A (call (.builtin "next") [.ref it]) Q E s :=
  call_next (gIt_is (kvs := kvs) S .head) PySem.F.slot_dict_itemiterator_next (gi_item S t hx fun s' a key hk S' => ⟨_, rfl, hQ s' a key hk S'⟩)
theorem next_gi_end {Q : Value → Shared → Prop} (hh : A.handled = none) (S : St c (gIt it d i kvs.length ep :: P) s) (t : Take (dAt c knd d kvs ep) P R) (hx : kvs.length ≤ i)
    (h : ∀ s' e, St c (exN e :: P) s' → E (.ref e) s') : wpAny c.M A (call (.builtin "next") [.ref it]) Q E s :=
  call_next (gIt_is (kvs := kvs) S .head) PySem.F.slot_dict_itemiterator_next (gi_stop S t hx fun s' S' => exN_raise (A := A.in1.in1) S' hh h)
theorem next_l {l : Addr} {vs : List Value} {v : Value} {Q : Value → Shared → Prop} (S : St c P s) (t1 : Take (lIt it l i) P R) {R2 : List HP} (t2 : Take (lst l vs) P R2) (hx : vs[i]? = some v) (hQ : ∀ s', St c (lIt it l (i + 1) :: R) s' → Q v s') : wpAny c.M A (call (.builtin "next") [.ref it]) Q E s := by
  have S1 := S.take t1
  have hit : s.heap.IsListIter it l i := S.get t1
  obtain ⟨o, ho, hc, hd⟩ := id hit
  obtain ⟨ol, hol, _, nl, hdl⟩ := lst_isList (S.get t2)
  refine call_next hit.typeIs slot_listiter_next (wpAny_callSpecial?_slot (name := Str.ofString "__next__") hit.typeIs slot_listiter_next (wpAny_call_entry slot_listiter_next hit.typeIs entry_listiter_next ?_ (args_listiter_next _)))
  show wpAny _ _ (field (.ref it) 0 >>= _) _ _ s
  refine wpAny_bind (wpAny_field ho hd (x := .ref l) rfl ?_)
  show wpAny _ _ (if (Value.ref l == Value.none) = true then _ else _) _ _ s
  rw [if_neg (show ¬ ((Value.ref l == Value.none) = true) from Bool.false_ne_true)]
  show wpAny _ _ (field (.ref it) 1 >>= _) _ _ s
  refine wpAny_bind (wpAny_field ho hd (x := .int i 0) rfl ?_)
  show wpAny _ _ (seqItems? (.ref l) >>= _) _ _ s
  refine wpAny_bind (wpAny_seqItems hol hdl ?_)
  have hx' : vs.toArray[i]? = some v := by simpa using hx
  simp only [Int.toNat_natCast, hx']
  refine wpAny_bind (wpAny_setField ho hd (by simp) (wpAny_pure ⟨v, rfl, ⟨v, rfl, hQ _ (S1.upd lIt_owns (fun b hb => Heap.get?_update_ne _ _ _ _ hb) ?_)⟩⟩))
  exact ⟨_, one_self.trans (Heap.get?_update_self _ ho (Obj.isFreed_of_fields (Obj.data_mapFields hd _))), (Obj.cls_mapFields ..).trans hc, by
    rw [Obj.data_mapFields hd]; simp [rawInt]⟩
end
theorem stop_raise2 {α : Type} {c : Cx} {A : Around} {E : Value → Shared → Prop} {s : Shared} {Q : α → Shared → Prop} {a : Addr} {o : Obj} {its : Array Value} (ha : s.heap.get? a = some o) (hd : o.data = .fields its) (h2 : its[2]? = some .none) (hA : A.handled = some (.ref a))
    (h : ∀ h' a, (∀ b o, s.heap.get? b = some o → h'.get? b = some o) → (∃ o, h'.get? a = some o ∧ o.cls = .type "StopIteration") → E (.ref a) { s with heap := h' }) :
    wpAny c.M A (newExc (.type "StopIteration") [] >>= fun e => (raiseNew e : Sem α)) Q E s := by
  refine wpAny_bind ?_
  simp only [newExc, newTuple]
  refine wpAny_bind (wpAny_newObj_type ?_ (by size_fits))
  refine wpAny_bind (m := firstArgMember _ _) (wpAny_of_eq (a := Value.none) (by first | rfl | (simp only [firstArgMember]; rfl)) ?_)
  refine wpAny_newObj_type ?_ (by size_fits)
  simp only [raiseNew]
  refine wpAny_bind (wpAny_handled ?_)
  rw [hA]
  have k2 : ∀ (o1 o2 : Obj) b o, s.heap.get? b = some o → ((s.heap.push o1).push o2).get? b = some o := fun o1 o2 b o e => Heap.get?_push_of_some _ (Heap.get?_push_of_some _ e)
  have hlt := Heap.lt_size ha
  have hne : ∀ o1 : Obj, (Value.ref a != Value.ref (s.heap.push o1).objs.size) = true := by
    intro o1
    rw [Heap.size_push]
    have : a ≠ s.heap.objs.size + 1 := fun e => by rw [e] at hlt; exact absurd hlt (Nat.not_lt.mpr (Nat.le_add_right _ _))
    simp [this]
  dsimp only
  rw [if_pos (hne _)]
  refine wpAny_bind (wpAny_holding (wpAny_runValue (codeAny_builtin entry_unchain ?_)))
  unfold Builtin.«proto.unchain»
  refine wpAny_bind (wpAny_field (k2 _ _ _ _ ha) hd h2 ?_)
  refine wpAny_pure (a := Fin.done (.ret .none)) ?_
  dsimp only
  unfold updateField
  refine wpAny_bind (wpAny_bind (wpAny_load (Heap.get?_push_size _ rfl) ?_))
  dsimp only
  rw [if_pos (by simp only [Array.size_append]; exact Nat.lt_add_right _ (by simp))]
  refine wpAny_update (Heap.get?_push_size _ rfl) (wpAny_throw ?_)
  refine h _ _ (fun b o e => ?_) ?_
  · rw [Heap.get?_update_ne _ _ _ _ (fun z => ?_)]
    · exact k2 _ _ b o e
    · have := Heap.lt_size e
      rw [z, Heap.size_push] at this
      exact absurd this (Nat.not_lt.mpr (Nat.le_add_right _ _))
  · exact ⟨_, Heap.get?_update_self _ (Heap.get?_push_size _ rfl) rfl, rfl⟩

theorem tup_end2 {c : Cx} {A : Around} {E : Value → Shared → Prop} {s : Shared} {it t : Addr} {i : Nat} {items : Array Value} {a : Addr} {o : Obj} {its : Array Value} {Q : Option Value → Shared → Prop} (ha : s.heap.get? a = some o) (hd2 : o.data = .fields its) (h2 : its[2]? = some .none) (hA : A.handled = some (.ref a))
    (hit : s.heap.IsTupleIter it t i) (ht : s.heap.IsTuple t items) (hx : items.size ≤ i) (hai : a ≠ it) (hq : ∀ h', Heap.ExtBut it s.heap h' → Q none { s with heap := h' }) : wpAny c.M A (pyNext (.ref it)) Q E s := by
  have hit' : IsTupIter s.heap it t i := hit
  obtain ⟨o1, ho, hc, hd⟩ := id hit'
  obtain ⟨ol, hol, _, nl, hdl⟩ := ht
  unfold pyNext
  refine wpAny_bind (wpAny_attempt (wpAny_callSpecial?_slot (name := Str.ofString "__next__") hit'.typeIs slot_tupleiter_next
    (wpAny_call_entry slot_tupleiter_next hit'.typeIs entry_tupleiter_next ?_ (args_tupleiter_next _))))
  show wpAny _ _ (field (.ref it) 0 >>= _) _ _ s
  refine wpAny_bind (wpAny_field ho hd (x := .ref t) rfl ?_)
  show wpAny _ _ (if (Value.ref t == Value.none) = true then _ else _) _ _ s
  rw [if_neg (show ¬ ((Value.ref t == Value.none) = true) from Bool.false_ne_true)]
  show wpAny _ _ (field (.ref it) 1 >>= _) _ _ s
  refine wpAny_bind (wpAny_field ho hd (x := .int i 0) rfl ?_)
  show wpAny _ _ (seqItems? (.ref t) >>= _) _ _ s
  refine wpAny_bind (wpAny_seqItems hol hdl ?_)
  have hx' : items[i]? = none := by simp [hx]
  simp only [Int.toNat_natCast, hx']
  refine wpAny_bind (wpAny_rule (wpAny_bind (wpAny_setField ho hd (by simp) ?_)))
  refine stop_raise2 (c := c) (A := A.in1) (a := a) (o := o) ((Heap.get?_update_ne _ _ _ _ hai).trans ha) hd2 h2 hA fun h' a' hk hcl => ?_
  refine wpAny_bind (wpAny_isInstance (T := "StopIteration") (b := true) hcl isSubtype_stop ?_)
  exact wpAny_pure (hq _ fun b o hb e => hk b o ((Heap.get?_update_ne _ _ _ _ hb).trans e))
theorem minH {c : Cx} {A : Around} {E : Value → Shared → Prop} {P : List HP} {s : Shared} {a b : Int} {t u : Tok} {Q : Value → Shared → Prop} (S : St c P s) (hA : A.handled = c.hx) (h : ∀ s' t, St c P s' → Q (.int (if b < a then b else a) t) s') : wpAny c.M A (call (.builtin "min") [.int a t, .int b u]) Q E s := by
  rcases c.hxp with hx | ⟨e, o, its, hx, hm, hd, h2⟩
  · exact minI S (hA.trans hx) h
  · have he : s.heap.get? e = some o := S.keep _ _ hm
    have hlt := Heap.lt_size he
    have hT : (s.heap.push { cls := .type "tuple", data := .seq #[.int a t, .int b u] }).IsTuple s.heap.objs.size (intItems #[(a, t), (b, u)]) := ⟨_, Heap.get?_push_size _ rfl, rfl, 0, by simp [intItems]⟩
    refine call_min_two (wpAny_pyIter_tuple hT ?_)
    have hsz : (s.heap.push { cls := .type "tuple", data := .seq #[.int a t, .int b u] }).objs.size = s.heap.objs.size + 1 := Heap.size_push ..
    have W : Walks Pg c.w A.in1 (s.heap.push { cls := .type "tuple", data := .seq #[.int a t, .int b u] }).objs.size [(s.heap.push { cls := .type "tuple", data := .seq #[.int a t, .int b u] }).objs.size, s.heap.objs.size, e] [(s.heap.push { cls := .type "tuple", data := .seq #[.int a t, .int b u] }).objs.size] (intItems #[(a, t), (b, u)]).size
        (fun i v => (intItems #[(a, t), (b, u)])[i]? = some v) (fun i h => h.IsTupleIter (s.heap.push { cls := .type "tuple", data := .seq #[.int a t, .int b u] }).objs.size s.heap.objs.size i ∧ h.IsTuple s.heap.objs.size (intItems #[(a, t), (b, u)]) ∧ h.get? e = some o) := by
      rw [hsz]
      have hne : s.heap.objs.size ≠ s.heap.objs.size + 1 := Nat.ne_of_lt (Nat.lt_succ_self _)
      have hne2 : e ≠ s.heap.objs.size + 1 := Nat.ne_of_lt (Nat.lt_succ_of_lt hlt)
      refine ⟨fun b hb => by simp at hb; simp [hb], fun _ _ _ st hk => ⟨st.1.at fun o e => hk _ (by simp) o e, st.2.1.at fun o e => hk _ (by simp) o e, hk _ (by simp) _ st.2.2⟩, fun i s Q E hi st hQ => ?_, fun s Q E st hQ => ?_, fun _ _ _ _ st hQ => wpAny_pyIter_tupleiter st.1 hQ⟩
      · refine wpAny_pyNext_tuple_item st.1 st.2.1 (x := (intItems #[(a, t), (b, u)])[i]) (by simp [hi]) fun h' hit' hs' => ?_
        exact hQ _ h' s.toks (by simp [hi]) ⟨hit', st.2.1.extBut hs'.extBut hne, (hs'.2 _ hne2).trans st.2.2⟩ fun b o hb e => hs'.extBut b o (fun h => hb (by simp [h])) e
      · exact tup_end2 st.2.2 hd h2 (hA.trans hx) st.1 st.2.1 (Nat.le_refl _) hne2 fun h' he' => hQ h' s.toks fun b o hb e => he' b o (fun h => hb (by simp [h])) e
    refine ⟨_, _, _, _, _, _, _, rfl, W, ⟨⟨_, Heap.get?_push_size _ rfl, rfl, rfl⟩, hT.push _, Heap.get?_push_of_some _ (Heap.get?_push_of_some _ he)⟩, fun c hc => ?_, by simp [intItems], CmpOf.ints_lt (numAt #[(a, t), (b, u)]) (fun _ _ => intItems_at), fun v h' tk hP hk => ?_⟩
    · show c < ((s.heap.push _).push _).objs.size
      rw [Heap.size_push, hsz]
      rw [hsz] at hc
      simp at hc
      have : e < s.heap.objs.size := hlt
      rcases hc with rfl | rfl | rfl
      · exact Nat.lt_succ_self _
      · exact Nat.lt_succ_of_lt (Nat.lt_succ_self _)
      · exact Nat.lt_succ_of_lt (Nat.lt_succ_of_lt this)
    · have hold : ∀ c o, s.heap.get? c = some o → h'.get? c = some o := fun c o e => by
        refine hk c o (fun hm => ?_) (Heap.get?_push_of_some _ (Heap.get?_push_of_some _ e))
        rcases List.mem_cons.mp hm with e1 | hm
        · have := Heap.lt_size e; rw [e1, hsz] at this; exact Nat.lt_irrefl _ (Nat.lt_of_succ_lt this)
        · cases hm
      have S2 : St c P { s with heap := h', toks := tk } := (S.ext (s' := { s with heap := h' }) hold).tok
      have hP' : (intItems #[(a, t), (b, u)])[argBest (fun i j => decide (numAt #[(a, t), (b, u)] i < numAt #[(a, t), (b, u)] j)) 1]? = some v := by
        have hsz2 : (intItems #[(a, t), (b, u)]).size - 1 = 1 := by simp [intItems]
        rw [← hsz2]; exact hP
      by_cases hba : b < a
      · have e : argBest (fun i j => decide (numAt #[(a, t), (b, u)] i < numAt #[(a, t), (b, u)] j)) 1 = 1 := by simp [argBest, numAt, hba]
        rw [e] at hP'
        have hv : v = .int b u := by simpa [intItems] using hP'.symm
        have := h _ u S2
        rw [if_pos hba] at this
        rw [hv]; exact this
      · have e : argBest (fun i j => decide (numAt #[(a, t), (b, u)] i < numAt #[(a, t), (b, u)] j)) 1 = 0 := by simp [argBest, numAt, hba]
        rw [e] at hP'
        have hv : v = .int a t := by simpa [intItems] using hP'.symm
        have := h _ t S2
        rw [if_neg hba] at this
        rw [hv]; exact this

theorem bt_StopIteration : bootBuiltins "StopIteration" = some (.type "StopIteration") := by decide +kernel
section
variable {c : Cx} {A : Around} {E : Value → Shared → Prop} {s : Shared} {P R R2 : List HP} {K : Type} {dec : DecidableEq K} {knd : KeyKind Pg c.w K} {d it v : Addr} {kvs : List (K × Value)} {i ep : Nat}
theorem gm_itemsAt {pl : Sem Bool} {Q : Value × List Value → Shared → Prop} (S : St c P s) (t : Take (dAt c knd d kvs ep) P R) (h : Q (.builtin "dict.items", [.ref d]) s) : wpAny c.M A (getMethod (.ref d) "items" pl) Q E s :=
  have hm := (dR_of (dAt_dR (S.get t))).mapOf; getMethod_builtin hm.typeIs PySem.F.plainAttrs_dict PySem.F.slot_dict_items PySem.F.type_dict_items hm.noDict h
theorem d_itemsAt {Q : Value → Shared → Prop} (S : St c P s) (t : Take (dAt c knd d kvs ep) P R) (h : ∀ s' v, St c (vw "dict_items" v d :: P) s' → Q (.ref v) s') : wpAny c.M A (call (.builtin "dict.items") [.ref d]) Q E s := by
  have hm := dR_of (dAt_dR (S.get t))
  exact call_meetsIn PySem.F.slot_dict_items hm.typeIs PySem.F.entry_dict_items (PySem.F.args_dict_items_1 _) (meets_dict_items knd d (S.notSys t dAt_owns)) ⟨⟨kvs, hm⟩, h _ _ (S.alloc rfl ⟨_, one_self, rfl, rfl⟩)⟩
theorem i_iterAt {Q : Value → Shared → Prop} (S : St c P s) (t : Takes [vw "dict_items" v d, dAt c knd d kvs ep] P R) (h : ∀ s' it, St c (iIt it d 0 kvs.length ep :: dAt c knd d kvs ep :: R) s' → Q (.ref it) s') : wpAny c.M A (pyIter (.ref v)) Q E s := by
  have S1 := S.takes t
  have hv : s.heap.IsItemsView v d := S1.get0
  exact wpAny_pyIter_items hv (S1.get (.tail .head) : dAt c knd d kvs ep s.heap.get?) (h _ _ (S1.drop.alloc rfl ⟨_, _, one_self⟩))
theorem i_walkAt (hA : A.handled = c.hx) : Iter c A (.ref it) kvs.length (fun i => [iIt it d i kvs.length ep, dAt c knd d kvs ep]) (fun i v => True) (fun i v => [iOut it d (i + 1) kvs.length ep v, dAt c knd d kvs ep, iTup c knd kvs i v]) [dAt c knd d kvs ep] := by
  refine ⟨(i_walkH hA).next, fun P s Q E S h => ?_⟩
  have S1 : St c (gIt it d kvs.length kvs.length ep :: dAt c knd d kvs ep :: P) s := S.head_mono fun _ => iIt_gIt
  exact gi_end hA S1 .head (Nat.le_refl _) fun s' S' => h _ S'
end
section
variable {c : Cx} {A : Around} {E : Value → Shared → Prop} {s : Shared} {P R R1 R2 : List HP} {e tb L : Addr} {fl : Value} {a b : Int} {t u : Tok} {Q : Value → Shared → Prop}
theorem geI (h : Q (.bool (decide (b ≤ a))) s) : wpAny c.M A (compareOp .GtE (.int a t) (.int b u)) Q E s := ge_int h
theorem isubI (S : St c P s) (h : ∀ s' t, St c P s' → Q (.int (a - b) t) s') : wpAny c.M A (inplaceOp .Sub (.int a t) (.int b u)) Q E s := isub_int (h _ _ S.tok)
theorem noted0 {env : Env} (S : St c (exA e tb :: exB tb (rawInt L) :: P) s) (hf : env.frame = some L) (h : E (.ref e) s) : notedBy c.M A env E (.ref e) s := note0 S hf h
theorem came0 {env : Env} (S : St c (exA e tb :: exB tb fl :: P) s) (hf : env.frame = some L) (h : ∀ s', St c (exA e tb :: exB tb (rawInt L) :: P) s' → E (.ref e) s') : cameBackBy c.M A env E (.ref e) s := by
  obtain ⟨o, vs, ho, hc, hd, h1, h2⟩ := S.get0
  unfold cameBackBy
  refine wpAny_bind (wpAny_field ho hd h1 ?_)
  rw [if_neg (by simp)]
  refine flight S fun s' S' => h s' ?_
  rw [hf] at S'; exact S'
theorem sub_stop_base : isSubtype (.type "StopIteration") (.type "BaseException") = pure true := by rw [isSubtype_type]; kernel_rfl
theorem sub_stop_tup : isSubtype (.type ((Manifest.find? "StopIteration").elim "type" fun x => x.metatype)) (.type "tuple") = pure false := by
  have : (Manifest.find? "StopIteration").elim "type" (fun x => x.metatype) = "type" := by kernel_rfl
  rw [this, isSubtype_type]; kernel_rfl
def CMeth (name : Str) (f : Addr) : Prop := ∀ P : Params, plainGet (hd.heap_39 P) 469 name = true ∧ findIn (hd.heap_39 P) (.ref 469) name = some (some (.ref f)) ∧ isFn (hd.heap_39 P) (.ref f) = true ∧ keepIn (hd.heap_39 P) (.ref f) = true
theorem ce_get_m : CMeth "get" 444 := fun P => ⟨by kernel_rfl, by kernel_rfl, by kernel_rfl, by kernel_rfl⟩
theorem ce_move_m : CMeth "move_to_next" 451 := fun P => ⟨by kernel_rfl, by kernel_rfl, by kernel_rfl, by kernel_rfl⟩
theorem ce_rewind_m : CMeth "_rewind" 458 := fun P => ⟨by kernel_rfl, by kernel_rfl, by kernel_rfl, by kernel_rfl⟩
theorem ce_method {x dx : Addr} {sl : Array (Option Value)} {name : Str} {f : Addr} {pl : Sem Bool} {Q : Value × List Value → Shared → Prop} (S : St c P s) (g : CMeth name f) (t1 : Take (pt x (slO dx sl)) P R1) (t2 : Take (dS c dx []) P R2) (h : Q (.ref f, [.ref x]) s) : wpAny c.M A (getMethod (.ref x) name pl) Q E s := by
  obtain ⟨od, I, hl⟩ := sl_at S t1 t2
  obtain ⟨h1, h2, h3, h4⟩ := g c.w.params
  exact method_fn S.K I (plainGet_of h1).1 (plainGet_of h1).2 h2 (beq_iff_eq.mp h3) (by show (lookIn name od).map _ = _; rw [hl]; rfl) h
end

end Mine
namespace Mine
local macro_rules | `(tactic| wtm_at "oth") => `(tactic| repeat' (first | apply Oth.nil | (apply Oth.par; (exact rfl)) | apply Oth.new | apply Oth.skip))
local macro_rules | `(tactic| wtm_at "memf") => `(tactic| first | with_reducible assumption | exact mem_range (by assumption) | exact mem_range (by omega))
local macro_rules | `(tactic| wtm_at "take") => `(tactic| ((repeat (first | with_reducible exact Take.head | (refine' Take.famAt2 ?e ?h; (case e => with_reducible exact rfl); (case h => wtm_at "memf")) | apply Take.tail)); done))
local macro_rules | `(tactic| wtm_at "vat") => `(tactic| first | with_reducible assumption | exact valueAt_idx (by first | assumption | omega) | exact (At.val (by wtm_at "at")))
local macro_rules | `(tactic| wtm_at "len") => `(tactic| first | (simp [idx_length]; done) | (simp [idx_length]; omega) | omega)
local macro_rules | `(tactic| wtm_at "takes") => `(tactic| first | exact Takes.nil | (refine' Takes.cons ?a ?b; (case a => wtm_at "take"); (case b => wtm_at "takes")))
local macro_rules | `(tactic| wtm_at "drop") => `(tactic| ((repeat (first | exact Drop.refl | apply Drop.skip)); done))
local macro_rules | `(tactic| wtm_at "cov") => `(tactic| first | (refine' Cov.cons ?a ?b; (case a => wtm_at "take"); (case b => wtm_at "cov")) | (refine Cov.nil ?_; wtm_at "drop"))
local macro_rules | `(tactic| wtm_at "fin") => `(tactic| (refine' St.cov (by assumption) ?a; (case a => wtm_at "cov")))
local macro_rules | `(tactic| wtm_at "mem") => `(tactic| ((repeat (first | with_reducible exact List.mem_cons_self | apply List.mem_cons_of_mem)); done))
local macro_rules | `(tactic| wtm_at "put") => `(tactic| ((repeat (first | with_reducible exact Put.here | apply Put.there)); done))
local macro_rules | `(tactic| wtm_at "at") => `(tactic| first | with_reducible assumption | ((repeat (first | with_reducible exact At.here | (apply At.there; (exact rfl)))); done))
set_option hygiene false in
local macro_rules | `(tactic| wtm_at "sS") => `(tactic| (clear S; intro s S))
set_option hygiene false in
local macro_rules | `(tactic| wtm_at "stS") => `(tactic| (clear S; intro s t S))
set_option hygiene false in
local macro_rules | `(tactic| wtm_at "saS") => `(tactic| (clear S; intro s nw S))
set_option hygiene false in
local macro_rules | `(tactic| wtm_at "svS") => `(tactic| (clear S; intro s vw S))
set_option hygiene false in
local macro_rules | `(tactic| wtm_at "sitS") => `(tactic| (clear S; intro s it S))
set_option hygiene false in
local macro_rules | `(tactic| wtm_at "siteS") => `(tactic| (clear S; intro s it ep S))
local macro_rules | `(tactic| wtm_at "ld") => `(tactic| first | (refine' ld (by assumption) ?t ?g ?_ rfl rfl (by decide); (case t => wtm_at "take"); (case g => wtm_at "mem")) | (refine' ldG (by assumption) ?e ?_ rfl rfl (by decide); (case e => wtm_at "gl")) | (refine' ldB (by assumption) ?e ?hv (by decide) ?_ rfl rfl (by decide); (case e => exact rfl); (case hv => wtm_at "bt")) | (refine' ldC (by assumption) ?q ?t ?_ rfl rfl (by decide); (case q => exact rfl); (case t => wtm_at "take")) | (refine' ldF (by assumption) ?q ?t ?_ rfl rfl (by decide) (by decide); (case q => exact rfl); (case t => wtm_at "take")))
local macro_rules | `(tactic| wtm_at "bt") => `(tactic| first | with_reducible exact bt_isinstance | with_reducible exact bt_iter | with_reducible exact bt_next | with_reducible exact bt_len | with_reducible exact bt_min | with_reducible exact bt_max | with_reducible exact bt_sum | with_reducible exact bt_callable | with_reducible exact bt_sorted | with_reducible exact bt_abs | with_reducible exact bt_getattr | with_reducible exact bt_list | with_reducible exact bt_range | with_reducible exact bt_float | with_reducible exact bt_int | with_reducible exact bt_bool | with_reducible exact bt_str | with_reducible exact bt_dict | with_reducible exact bt_tuple | with_reducible exact bt_super)
local macro_rules | `(tactic| wtm_at "gl") => `(tactic| first | with_reducible exact gl_Graph _ | with_reducible exact gl_EdgeView _ | with_reducible exact gl_DiGraph _ | with_reducible exact gl_CurrentEdge _ | with_reducible exact gl_build_residual_network _ | with_reducible exact gl__capacity_function _ | with_reducible exact gl_shortest_augmenting_path_impl _ | with_reducible exact gl_shortest_augmenting_path _ | with_reducible exact gl__law_cuts _ | with_reducible exact gl__law_spread _ | with_reducible exact gl_deque _)
local macro_rules | `(tactic| wtm_at "ldn") => `(tactic| (refine' loadL (by assumption) ?t ?g ?_ rfl rfl; (case t => wtm_at "take"); (case g => wtm_at "mem")))
local macro_rules | `(tactic| wtm_at "st") => `(tactic| first | (refine' st (by assumption) ?t ?p ?_ rfl rfl; (case t => wtm_at "take"); (case p => wtm_at "put"); wtm_at "sS") | (refine' stC (by assumption) ?q ?t ?_ rfl rfl; (case q => exact rfl); (case t => wtm_at "take"); wtm_at "sS"))
local macro_rules | `(tactic| wtm_at "s") => `(tactic| first | ((with_reducible show wpAny _ _ (execs _ _) _ _ _); first | ((with_reducible show wpAny _ _ (execs (_ :: _) _) _ _ _); refine wpAny_execs_cons ?_) | ((with_reducible show wpAny _ _ (execs [] _) _ _ _); refine wpAny_execs_nil ?_)) | ((with_reducible show wpAny _ _ (exec _ _) _ _ _); first | ((with_reducible show wpAny _ _ (exec (Stmt.Assign [Expr.Name _ _] _ _) _) _ _ _); refine wpAny_Assign_Name ?_) | ((with_reducible show wpAny _ _ (exec (Stmt.Assign [Expr.Attribute _ _ _] _ _) _) _ _ _); refine plainObj_wpAny_Assign_Attribute ?_) | ((with_reducible show wpAny _ _ (exec (Stmt.Assign [Expr.Subscript _ _ _] _ _) _) _ _ _); refine wpAny_Assign_Subscript ?_) | ((with_reducible show wpAny _ _ (exec (Stmt.Assign [Expr.Tuple _ _ _] _ _) _) _ _ _); first | refine Assign_Tuple ?_ | refine Assign_Tuple_swapped ?_ rfl rfl) | ((with_reducible show wpAny _ _ (exec (Stmt.Return (some _) _) _) _ _ _); refine wpAny_Return_some ?_) | ((with_reducible show wpAny _ _ (exec (Stmt.Expr _ _) _) _ _ _); refine wpAny_Expr ?_) | ((with_reducible show wpAny _ _ (exec (Stmt.If _ _ _ _) _) _ _ _); refine wpAny_If ?_) | ((with_reducible show wpAny _ _ (exec (Stmt.AugAssign (Expr.Name _ _) _ _ _) _) _ _ _); refine wpAny_AugAssign_Name ?_) | ((with_reducible show wpAny _ _ (exec (Stmt.AugAssign (Expr.Subscript _ _ _) _ _ _) _) _ _ _); refine wpAny_AugAssign_SubscriptAny ?_) | ((with_reducible show wpAny _ _ (exec (Stmt.Break _) _) _ _ _); refine wpAny_Break ?_) | ((with_reducible show wpAny _ _ (exec (Stmt.For _ _ _ _ _) _) _ _ _); refine wpAny_For ?_)))
local macro_rules | `(tactic| wtm_at "e") => `(tactic| first | ((with_reducible show wpAny _ _ (eval _ _) _ _ _); first | ((with_reducible show wpAny _ _ (eval (Expr.Name _ _) _) _ _ _); wtm_at "ld") | ((with_reducible show wpAny _ _ (eval (Expr.Constant (Const.int _) _ _) _) _ _ _); (refine cI (by assumption) ?_; wtm_at "stS")) | ((with_reducible show wpAny _ _ (eval (Expr.Constant (Const.str _) _ _) _) _ _ _); (refine cS (by assumption) ?_; wtm_at "stS")) | ((with_reducible show wpAny _ _ (eval (Expr.Constant Const.none _ _) _) _ _ _); refine wpAny_Constant_none ?_) | ((with_reducible show wpAny _ _ (eval (Expr.Attribute (Expr.Name _ _) _ _) _) _ _ _); refine Attribute_name ?_) | ((with_reducible show wpAny _ _ (eval (Expr.Subscript _ _ _) _) _ _ _); refine Subscript_ ?_) | ((with_reducible show wpAny _ _ (eval (Expr.BinOp _ _ _ _) _) _ _ _); refine wpAny_BinOp ?_) | ((with_reducible show wpAny _ _ (eval (Expr.Compare _ [_] [_] _) _) _ _ _); refine wpAny_Compare1 ?_) | ((with_reducible show wpAny _ _ (eval (Expr.IfExp _ _ _ _) _) _ _ _); refine wpAny_IfExp ?_) | ((with_reducible show wpAny _ _ (eval (Expr.UnaryOp _ _ _) _) _ _ _); refine wpAny_UnaryOp ?_) | ((with_reducible show wpAny _ _ (eval (Expr.Call (Expr.Attribute _ _ _) _ [] _) _) _ _ _); refine MethodCall_ ?_) | ((with_reducible show wpAny _ _ (eval (Expr.Call (Expr.Name _ _) _ [] _) _) _ _ _); refine Call_ ?_) | ((with_reducible show wpAny _ _ (eval (Expr.Tuple _ _ _) _) _ _ _); refine Tuple_ ?_) | ((with_reducible show wpAny _ _ (eval (Expr.List _ _) _) _ _ _); refine List_ ?_)) | ((with_reducible show wpAny _ _ (isTrue _ _ _) _ _ _); first | ((with_reducible show wpAny _ _ (isTrue (Expr.Compare _ [_] [_] _) _ _) _ _ _); refine wpAny_isTrue_Compare1 ?_) | ((with_reducible show wpAny _ _ (isTrue (Expr.UnaryOp UnaryOp.Not _ _) _ _) _ _ _); refine wpAny_isTrue_Not ?_) | ((with_reducible show wpAny _ _ (isTrue (Expr.BoolOp _ _ _) _ _) _ _ _); refine wpAny_isTrue_BoolOp ?_) | ((with_reducible show wpAny _ _ (isTrue (Expr.Name _ _) _ _) _ _ _); refine wpAny_isTrue_value ?_) | ((with_reducible show wpAny _ _ (isTrue (Expr.Attribute _ _ _) _ _) _ _ _); refine wpAny_isTrue_value ?_)) | ((with_reducible show wpAny _ _ (allTrue _ _ _) _ _ _); first | ((with_reducible show wpAny _ _ (allTrue BoolOp.And [] _) _ _ _); refine wpAny_allTrue_And_nil ?_) | ((with_reducible show wpAny _ _ (allTrue BoolOp.And (_ :: _) _) _ _ _); refine wpAny_allTrue_And_cons ?_)) | ((with_reducible show wpAny _ _ (spliced (backTo _ (starEach [] _))) _ _ _); refine args_nil ?_) | ((with_reducible show wpAny _ _ (spliced (backTo _ (starEach (_ :: _) _))) _ _ _); refine args_cons ?_))
local macro_rules | `(tactic| wtm_at "v") => `(tactic| first | ((with_reducible show wpAny _ _ (callWith _ _ _ _ _) _ _ _); first | ((with_reducible show wpAny _ _ (callWith _ (Value.builtin _) _ (backTo _ (starEach (_ :: _) _)) []) _ _ _); refine callB ?_) | ((with_reducible show wpAny _ _ (callWith _ (Value.builtin _) _ (backTo _ (starEach [] _)) []) _ _ _); refine callB0 ?_) | ((with_reducible show wpAny _ _ (callWith _ (Value.type _) _ (backTo _ (starEach (_ :: _) _)) []) _ _ _); refine PyProof.Rows.callWith_type1 ?_) | ((with_reducible show wpAny _ _ (callWith _ (Value.ref _) _ (backTo _ (starEach (_ :: _) _)) []) _ _ _); refine callF (by assumption) (by exact rfl) ?_) | ((with_reducible show wpAny _ _ (callWith _ (Value.ref _) _ (backTo _ (starEach [] _)) []) _ _ _); refine callF0 (by assumption) (by exact rfl) ?_)) | ((with_reducible show wpAny _ _ (call _ _ _) _ _ _); first | ((with_reducible show wpAny _ _ (call _ ([] ++ _) _) _ _ _); refine call_app0 ?_) | ((with_reducible show wpAny _ _ (call _ ([_] ++ _) _) _ _ _); refine call_app1 ?_) | ((with_reducible show wpAny _ _ (call (Value.builtin "list.append") [Value.ref _, _]) _ _ _); (refine' l_append (by assumption) ?t ?z ?_; (case t => wtm_at "take"); (case z => wtm_at "len"); wtm_at "sS")) | ((with_reducible show wpAny _ _ (call (Value.builtin "dict.items") [Value.ref _]) _ _ _); (refine' d_items (by assumption) ?t ?_; (case t => wtm_at "take"); wtm_at "svS")) | ((with_reducible show wpAny _ _ (call (Value.builtin "dict.values") [Value.ref _]) _ _ _); (refine' d_values (by assumption) ?t ?_; (case t => wtm_at "take"); wtm_at "svS")) | ((with_reducible show wpAny _ _ (call (Value.builtin "iter") [_]) _ _ _); refine iter_of ?_)) | ((with_reducible show wpAny _ _ (getMethod _ _ _) _ _ _); first | ((with_reducible show wpAny _ _ (getMethod (Value.ref _) "items" _) _ _ _); (refine' gm_items (by assumption) ?t ?_; (case t => wtm_at "take"))) | ((with_reducible show wpAny _ _ (getMethod (Value.ref _) "values" _) _ _ _); (refine' gm_values (by assumption) ?t ?_; (case t => wtm_at "take"))) | ((with_reducible show wpAny _ _ (getMethod (Value.ref _) "append" _) _ _ _); (refine' gm_append (by assumption) ?t ?_; (case t => wtm_at "take"))) | ((with_reducible show wpAny _ _ (getMethod (Value.ref _) _ _) _ _ _); (refine' getGM (by assumption) ?g ?t1 ?t2 ?z ?_; (case g => first | with_reducible exact gme_add_node | with_reducible exact gme_add_nodes_from | with_reducible exact gme_add_edge | with_reducible exact gme_remove_edge | with_reducible exact gme_has_edge | with_reducible exact gme_is_multigraph | with_reducible exact gme_is_directed | with_reducible exact gme_edge_rows); (case t1 => wtm_at "take"); (case t2 => wtm_at "take"); (case z => exact rfl)))) | ((with_reducible show wpAny _ _ (storeName _ _ _) _ _ _); wtm_at "st") | ((with_reducible show wpAny _ _ (loadName _ _) _ _ _); wtm_at "ldn") | ((with_reducible show wpAny _ _ (assign _ _ _) _ _ _); first | ((with_reducible show wpAny _ _ (assign (Expr.Name _ _) _ _) _ _ _); refine assign_Name ?_) | ((with_reducible show wpAny _ _ (assign (Expr.Tuple [_, _] _ _) _ (Value.ref _)) _ _ _); (refine' asg2 (by assumption) ?hA ?t ?_; (case t => wtm_at "take"); (case hA => assumption); wtm_at "sS"))) | ((with_reducible show wpAny _ _ (pyIter (Value.ref _)) _ _ _); first | (refine' l_iter (by assumption) ?t ?_; (case t => wtm_at "take"); wtm_at "sitS") | (refine' i_iter (by assumption) ?tt ?_; (case tt => wtm_at "takes"); wtm_at "siteS") | (refine' v_iter (by assumption) ?tt ?_; (case tt => wtm_at "takes"); wtm_at "siteS")) | ((with_reducible show wpAny _ _ (truthy _) _ _ _); first | ((with_reducible show wpAny _ _ (truthy (Value.bool _)) _ _ _); refine wpAny_truthy_bool ?_) | ((with_reducible show wpAny _ _ (truthy (Value.ref _)) _ _ _); (refine' d_truthy (by assumption) ?t ?z ?_; (case t => wtm_at "take"); rotate_left; wtm_at "sS"))) | ((with_reducible show wpAny _ _ (binaryOp _ _ _) _ _ _); first | ((with_reducible show wpAny _ _ (binaryOp Operator.Mult (Value.int _ _) (Value.int _ _)) _ _ _); (refine mulI (by assumption) (by first | exact IntMulOk.of_left (by decide) | exact IntMulOk.of_right (by decide)) ?_; wtm_at "stS")) | ((with_reducible show wpAny _ _ (binaryOp Operator.Add (Value.int _ _) (Value.int _ _)) _ _ _); (refine addI (by assumption) ?_; wtm_at "stS")) | ((with_reducible show wpAny _ _ (binaryOp Operator.Sub (Value.int _ _) (Value.int _ _)) _ _ _); (refine subI (by assumption) ?_; wtm_at "stS"))) | ((with_reducible show wpAny _ _ (subscriptTail _ _ _ _) _ _ _); first | ((with_reducible show wpAny _ _ (subscriptTail _ _ (Value.ref _) (Value.int _ _)) _ _ _); first | (refine' dI_sub (by assumption) ?t ?v ?_ (by with_unfolding_all rfl); (case t => wtm_at "take"); (case v => wtm_at "vat"); wtm_at "sS") | (refine' l_sub (by assumption) ?t ?h0 ?hz ?hx ?_ (by with_unfolding_all rfl); (case t => wtm_at "take"); rotate_left 3)) | ((with_reducible show wpAny _ _ (subscriptTail _ _ (Value.ref _) (Value.str _ _)) _ _ _); (refine' dS_sub (by assumption) ?t ?v ?_ (by with_unfolding_all rfl); (case t => wtm_at "take"); (case v => wtm_at "vat"); wtm_at "sS"))) | ((with_reducible show wpAny _ _ (getItem _ _) _ _ _); first | ((with_reducible show wpAny _ _ (getItem (Value.ref _) (Value.int _ _)) _ _ _); first | (refine' dI_get (by assumption) ?t ?v ?_; (case t => wtm_at "take"); (case v => wtm_at "vat"); wtm_at "sS") | (refine' l_get (by assumption) ?t ?h0 ?hz ?hx ?_; (case t => wtm_at "take"); rotate_left 3)) | ((with_reducible show wpAny _ _ (getItem (Value.ref _) (Value.str _ _)) _ _ _); (refine' dS_get (by assumption) ?t ?v ?_; (case t => wtm_at "take"); (case v => wtm_at "vat"); wtm_at "sS"))) | ((with_reducible show wpAny _ _ (setItem _ _ _) _ _ _); first | ((with_reducible show wpAny _ _ (setItem (Value.ref _) (Value.int _ _) _) _ _ _); first | (refine' dI_set (by assumption) ?t ?z ?_; (case t => wtm_at "take"); (case z => wtm_at "len"); wtm_at "sS") | (refine' l_set (by assumption) ?t ?h0 ?hz ?hz2 ?_; (case t => wtm_at "take"); rotate_left 3; wtm_at "sS")) | ((with_reducible show wpAny _ _ (setItem (Value.ref _) (Value.str _ _) _) _ _ _); (refine' dS_set (by assumption) ?t ?z ?_; (case t => wtm_at "take"); (case z => wtm_at "len"); wtm_at "sS"))) | ((with_reducible show wpAny _ _ (compareOp _ _ _) _ _ _); first | ((with_reducible show wpAny _ _ (compareOp CmpOp.In (Value.int _ _) (Value.ref _)) _ _ _); (refine' dI_in (by assumption) ?t ?_; (case t => wtm_at "take"); wtm_at "sS")) | ((with_reducible show wpAny _ _ (compareOp CmpOp.NotIn (Value.int _ _) (Value.ref _)) _ _ _); (refine' dI_notin (by assumption) ?t ?_; (case t => wtm_at "take"); wtm_at "sS")) | ((with_reducible show wpAny _ _ (compareOp CmpOp.Lt (Value.int _ _) (Value.int _ _)) _ _ _); refine ltI ?_) | ((with_reducible show wpAny _ _ (compareOp CmpOp.Gt (Value.int _ _) (Value.int _ _)) _ _ _); refine gtI ?_) | ((with_reducible show wpAny _ _ (compareOp CmpOp.Eq (Value.int _ _) (Value.int _ _)) _ _ _); refine eqI ?_) | ((with_reducible show wpAny _ _ (compareOp CmpOp.NotEq (Value.int _ _) (Value.int _ _)) _ _ _); refine neI ?_) | ((with_reducible show wpAny _ _ (compareOp CmpOp.Is _ Value.none) _ _ _); refine is_none ?_)) | ((with_reducible show wpAny _ _ (inplaceOp Operator.Add (Value.int _ _) (Value.int _ _)) _ _ _); (refine iaddI (by assumption) ?_; wtm_at "stS")) | ((with_reducible show wpAny _ _ (newList _) _ _ _); (refine' l_new (by assumption) ?z ?_; (case z => (simp; done)); wtm_at "saS")) | ((with_reducible show wpAny _ _ (newTuple _) _ _ _); (refine' t_new (by assumption) ?z ?_; (case z => (simp; done)); wtm_at "saS")) | ((with_reducible show wpAny _ _ (getAttr (Value.ref _) _ _) _ _ _); wtm_at "getA"))
local macro_rules | `(tactic| wtm_at "getA") => `(tactic| (refine' getG2 (by assumption) ?g ?t1 ?t2 ?v ?d ?_; (case g => first | with_reducible exact gattr_adj | with_reducible exact gattr_node | with_reducible exact gattr_pred | with_reducible exact gattr_graph); (case t1 => wtm_at "take"); (case t2 => wtm_at "take"); (case v => wtm_at "at"); (case d => exact rfl); wtm_at "sS"))
local macro_rules | `(tactic| wtm_at "k") => `(tactic| ((with_reducible show (Frag.In _ _ ∧ wpAny _ _ _ _ _ _)); refine ⟨St.K (by assumption), ?_⟩))
local macro_rules | `(tactic| wtm_at "if") => `(tactic| ((with_reducible show ite _ _ _); first | refine ite_T (by decide) ?_ | refine ite_F (by decide) ?_ | refine ite_F (by exact Bool.false_ne_true) ?_ | refine ite_T (by exact rfl) ?_))
local macro_rules | `(tactic| wtm_at "w") => `(tactic| first | wtm_at "if" | wtm_at "k" | wtm_at "s" | wtm_at "e" | wtm_at "v")
local macro_rules | `(tactic| wtm_at "ws") => `(tactic| repeat (wtm_at "w"))
set_option hygiene false in
local macro_rules | `(tactic| wtm_at "hk") => `(tactic| (intro n x hx; (repeat (rcases List.mem_cons.mp hx with rfl | hx; focus (first | exact Or.inl rfl | exact Or.inr ⟨rfl, rfl⟩))); cases hx))
set_option hygiene false in
local macro_rules | `(tactic| wtm_at "enter") => `(tactic| ((case oth => wtm_at "oth"); (case nd => exact rfl); clear S; intro A L s rm hh S env; (first | replace hA := hh.trans hA | skip); simp only [boundF, List.map_cons, List.map_nil, List.cons_append, List.nil_append, List.append_nil] at S))
local macro_rules | `(tactic| wtm_at "v") => `(tactic| first | ((with_reducible show wpAny _ _ (call _ _ _) _ _ _); first | ((with_reducible show wpAny _ _ (call (Value.builtin "min") [Value.int _ _, Value.int _ _]) _ _ _); (refine minH (by assumption) (by assumption) ?_; wtm_at "stS")) | ((with_reducible show wpAny _ _ (call (Value.builtin "dict.items") [Value.ref _]) _ _ _); (refine' d_itemsAt (by assumption) ?t ?_; (case t => wtm_at "take"); wtm_at "svS")) | ((with_reducible show wpAny _ _ (call (Value.builtin "collections.deque.append") [Value.ref _, _]) _ _ _); (refine' dq_append (by assumption) ?t ?z ?_; (case t => wtm_at "take"); rotate_left; wtm_at "sS")) | ((with_reducible show wpAny _ _ (call (Value.builtin "collections.deque.popleft") [Value.ref _]) _ _ _); (refine' dq_popleft (by assumption) ?t ?z ?_; (case t => wtm_at "take"); rotate_left; wtm_at "sS"))) | ((with_reducible show wpAny _ _ (getMethod _ _ _) _ _ _); first | ((with_reducible show wpAny _ _ (getMethod (Value.ref _) "items" _) _ _ _); (refine' gm_itemsAt (by assumption) ?t ?_; (case t => wtm_at "take");)) | ((with_reducible show wpAny _ _ (getMethod (Value.ref _) "append" _) _ _ _); (refine' gm_dqAppend (by assumption) ?t ?_; (case t => wtm_at "take");)) | ((with_reducible show wpAny _ _ (getMethod (Value.ref _) "popleft" _) _ _ _); (refine' gm_popleft (by assumption) ?t ?_; (case t => wtm_at "take");)) | ((with_reducible show wpAny _ _ (getMethod (Value.ref _) _ _) _ _ _); (refine' ce_method (by assumption) ?g ?t1 ?t2 ?_; (case g => first | with_reducible exact ce_get_m | with_reducible exact ce_move_m | with_reducible exact ce_rewind_m); (case t1 => wtm_at "take"); (case t2 => wtm_at "take")))) | ((with_reducible show wpAny _ _ (pyIter (Value.ref _)) _ _ _); (refine' i_iterAt (by assumption) ?tt ?_; (case tt => wtm_at "takes"); wtm_at "sitS")) | ((with_reducible show wpAny _ _ (truthy (Value.ref _)) _ _ _); (refine' dq_truthy (by assumption) ?t ?z ?_; (case t => wtm_at "take"); rotate_left; wtm_at "sS")) | ((with_reducible show wpAny _ _ (subscriptTail _ _ (Value.ref _) (Value.int _ _)) _ _ _); (refine' dI_subAt (by assumption) ?t ?v ?_ (by with_unfolding_all rfl); (case t => wtm_at "take"); (case v => wtm_at "vat"); wtm_at "sS")) | ((with_reducible show wpAny _ _ (getAttr (Value.ref _) _ _) _ _ _); (refine' sl_get (by assumption) ?g ?t1 ?t2 ?v ?d ?_; (case g => first | with_reducible exact sl_curr | with_reducible exact sl_edges | with_reducible exact sl_it); (case t1 => wtm_at "take"); (case t2 => wtm_at "take"); (case v => first | with_reducible assumption | exact rfl); (case d => exact rfl); wtm_at "sS")) | ((with_reducible show wpAny _ _ (setAttr (Value.ref _) _ _) _ _ _); (refine' sl_set (by assumption) ?g ?t1 ?t2 ?hi ?_; (case g => first | with_reducible exact sl_curr | with_reducible exact sl_edges | with_reducible exact sl_it); (case t1 => wtm_at "take"); (case t2 => wtm_at "take"); (case hi => decide); wtm_at "sS")) | ((with_reducible show wpAny _ _ (compareOp CmpOp.GtE (Value.int _ _) (Value.int _ _)) _ _ _); refine geI ?_) | ((with_reducible show wpAny _ _ (inplaceOp Operator.Sub (Value.int _ _) (Value.int _ _)) _ _ _); (refine isubI (by assumption) ?_; wtm_at "stS")))
local macro_rules | `(tactic| wtm_at "w1") => `(tactic| ((fail_if_success (with_reducible show wpAny _ _ (exec (Stmt.For _ _ _ _ _) _) _ _ _)); (fail_if_success (with_reducible show wpAny _ _ (exec (Stmt.While _ _ _ _) _) _ _ _)); (fail_if_success (with_reducible show wpAny _ _ (exec (Stmt.Try _ _ _ _ _) _) _ _ _)); wtm_at "w"))
local macro_rules | `(tactic| wtm_at "ww") => `(tactic| repeat (wtm_at "w1"))
local macro_rules | `(tactic| wtm_at "bt") => `(tactic| with_reducible exact bt_StopIteration)

/-! CurrentEdge -/
def d458 : { d : FnD // FnAs 458 (.ref 457) d } := ⟨⟨_, _, _, _, _⟩, fun P => ⟨_, _, _, _, _, _, _, _, _, by exact rfl⟩⟩
section
variable {c : Cx} {A : Around} {s : Shared} {P R : List HP} {k : Nat} {x dx ed : Addr} {sl : Array (Option Value)} {kvs : List (Int × Value)} {ep i : Nat} {Rr : Result → Shared → Prop}
def ceSl (tc ed it : Addr) : Array (Option Value) := #[some (.ref tc), some (.ref ed), some (.ref it)]
theorem ce_rewind (S : St c P s) (rm : Rm A (k + 2)) (hA : A.handled = c.hx) (hsl : sl = #[none, some (.ref ed)] ∨ ∃ a b, sl = #[some a, some (.ref ed), some b]) (hne : 0 < kvs.length) (tk : Takes [pt x (slO dx sl), dS c dx [], dAt c (intKind Pg c.w) ed kvs ep] P R)
    (h : ∀ s' tc it key k0 v0, kvs[0]? = some (k0, v0) → (intKind Pg c.w).is k0 key = true → St c (pt x (slO dx (ceSl tc ed it)) :: dS c dx [] :: dAt c (intKind Pg c.w) ed kvs ep :: gIt it ed 1 kvs.length ep :: tup tc [key, v0] :: R) s' → Rr (.ok (.ret .none)) s') :
    codeAny c.M A (.call (.ref 458) ⟨[.ref x], []⟩) Rr s := by
  replace S := S.takes tk
  have h1 : (sl[1]?).join = some (Value.ref ed) := by rcases hsl with rfl | ⟨a, b, rfl⟩ <;> rfl
  refine' call_K (binds := [("self", .ref x)]) S rm (by exact rfl) (by rfl) (BindsTo.of_eq rfl) (locs rfl) ?oth ?nd ?_
  wtm_at "enter"
  wtm_at "ws"
  obtain ⟨⟨k0, v0⟩, r, rfl⟩ := List.exists_cons_of_ne_nil (List.length_pos_iff.mp hne)
  obtain ⟨o0, e⟩ : ∃ o0, ((sl ++ Array.replicate (2 + 1 - sl.size) none).setIfInBounds 2 (some (Value.ref it))) = #[o0, some (.ref ed), some (.ref it)] := by
    rcases hsl with rfl | ⟨a, b, rfl⟩
    · exact ⟨none, rfl⟩
    · exact ⟨some a, rfl⟩
  rw [e] at S
  wtm_at "ws"
  refine next_gi (kvs := (k0, v0) :: r) (knd := intKind Pg c.w) (d := ed) (ep := ep) (i := 0) (((S.take (X := iIt it ed 0 ((k0, v0) :: r).length ep) (by wtm_at "take"))).head_mono fun _ => iIt_gIt) (.tail (by wtm_at "take")) rfl ?_
  clear S; intro s tc kv hkv S
  wtm_at "ws"
  refine h _ tc it kv k0 v0 rfl hkv ?_
  have e1 : (((#[o0, some (.ref ed), some (.ref it)] : Array (Option Value)) ++ Array.replicate (0 + 1 - (#[o0, some (.ref ed), some (.ref it)] : Array (Option Value)).size) none).setIfInBounds 0 (some (.ref tc))) = ceSl tc ed it := rfl
  rw [e1] at S
  wtm_at "fin"
theorem ce_init (S : St c P s) (rm : Rm A (k + 4)) (hA : A.handled = c.hx) (hz : kvs.length ≤ 1000) (tk : Takes [pt x (slO dx #[]), dS c dx [], dAt c (intKind Pg c.w) ed kvs ep] P R)
    (h0 : kvs = [] → ∀ s', St c (pt x (slO dx #[none, some (.ref ed)]) :: dS c dx [] :: dAt c (intKind Pg c.w) ed kvs ep :: R) s' → Rr (.ok (.ret .none)) s')
    (h : ∀ s' tc it key k0 v0, kvs[0]? = some (k0, v0) → (intKind Pg c.w).is k0 key = true → St c (pt x (slO dx (ceSl tc ed it)) :: dS c dx [] :: dAt c (intKind Pg c.w) ed kvs ep :: gIt it ed 1 kvs.length ep :: tup tc [key, v0] :: R) s' → Rr (.ok (.ret .none)) s') :
    codeAny c.M A (.call (.ref 437) ⟨[.ref x, .ref ed], []⟩) Rr s := by
  replace S := S.takes tk
  refine' call_K (binds := [("self", .ref x), ("edges", .ref ed)]) S rm (by exact rfl) (by rfl) (BindsTo.of_eq rfl) (locs rfl) ?oth ?nd ?_
  wtm_at "enter"
  wtm_at "ws"
  have e1 : (((#[] : Array (Option Value)) ++ Array.replicate (1 + 1 - (#[] : Array (Option Value)).size) none).setIfInBounds 1 (some (.ref ed))) = #[none, some (.ref ed)] := rfl
  rw [e1] at S
  refine' wpAny_truthy_dict (knd := intKind Pg c.w) (kvs := kvs) ?zz1 ?zz2 (by omega) ?_
  case zz1 => exact S.notSys (X := dAt c (intKind Pg c.w) ed kvs ep) (by wtm_at "take") dAt_owns
  case zz2 => exact dR_of (dAt_dR (S.get (X := dAt c (intKind Pg c.w) ed kvs ep) (by wtm_at "take")))
  have S2 := S.tok (t := s.toks + 1 + 1)
  clear S
  revert S2
  generalize ({ s with toks := s.toks + 1 + 1 } : Shared) = s2
  intro S
  rcases kvs with _ | ⟨p, r⟩
  · refine ite_F (by simp) ?_
    wtm_at "ws"
    refine h0 rfl _ ?_
    wtm_at "fin"
  · refine ite_T (by simp) ?_
    wtm_at "ws"
    refine' wpAny_call (ce_rewind (k := k) (kvs := p :: r) (ed := ed) (ep := ep) S (rm.le (by omega)) hA (.inl rfl) (by simp) ?zz3 ?_)
    case zz3 => wtm_at "takes"
    clear S; intro s tc it key k0 v0 hk0 hkey S
    dsimp only
    wtm_at "ws"
    refine h _ tc it key k0 v0 hk0 hkey ?_
    wtm_at "fin"
theorem ce_get {tc it : Addr} (S : St c P s) (rm : Rm A (k + 1)) (hA : A.handled = c.hx) (tk : Takes [pt x (slO dx (ceSl tc ed it)), dS c dx []] P R)
    (h : ∀ s', St c (pt x (slO dx (ceSl tc ed it)) :: dS c dx [] :: R) s' → Rr (.ok (.ret (.ref tc))) s') : codeAny c.M A (.call (.ref 444) ⟨[.ref x], []⟩) Rr s := by
  replace S := S.takes tk
  refine' call_K (binds := [("self", .ref x)]) S rm (by exact rfl) (by rfl) (BindsTo.of_eq rfl) (locs rfl) ?oth ?nd ?_
  wtm_at "enter"
  wtm_at "ws"
  refine h _ ?_
  wtm_at "fin"
end

section
variable {c : Cx} {A : Around} {s : Shared} {P : List HP} {k : Nat} {f : Addr} {name qual : Str} {params : Arguments} {body : List Stmt} {scope : Scope} {cl : List (Str × Addr)} {dV kV doc pm cdv ct oc : Value} {an od : Option Addr} {osl : Array (Option Value)}
  {args : Args} {binds : List (Str × Value)} {oth : List (Str × Option Value)} {Rr : Result → Shared → Prop} {outer : List Env}
/-- a call that may raise -/
theorem call_KE (S : St c P s) (rm : Rm A (k + 1)) (hfr : A.frames = some outer) (ho : (hd.heap_39 c.w.params).lookup f = some ⟨oc, od, .func (fnX name qual params body scope cl dV kV doc pm an cdv ct), osl⟩) (hcd : codeIn (hd.heap_39 c.w.params) cdv qual = true)
    (hbind : BindsTo s (fnX name qual params body scope cl dV kV doc pm an cdv ct) args binds) (hloc : ∀ y ∈ binds, scope.names.lookup y.1 = some .local)
    (hoth : Oth (binds.map (·.1)) scope.names oth) (hnd : nodupB (binds.map (·.1) ++ oth.map (·.1)) = true)
    (h : ∀ B L s₁, Rm B k → B.handled = A.handled → B.frames = some (envX qual scope L f cdv cl :: outer) → St c (frm L (boundF binds ++ oth) :: P) s₁ → (let env := envX qual scope L f cdv cl; wpAny c.M B (execs body env)
        (fun fl s' => Rr (.ok (.ret (match fl with | .ret v => v | _ => .none))) s') (fun e s' => wpAny c.M B (leaving env e) (fun _ s'' => Rr (.error e) s'') (fun e' s'' => Rr (.error e') s'') s') s₁))
    (hco : scope.isCoroutine = false := by rfl) (hgen : scope.isGenerator = false := by rfl) (hk : scope.kind = .function := by rfl) (hcell : ∀ x ∈ scope.names, x.2 ≠ .cell := by decide) :
    codeAny c.M A (.call (.ref f) args) Rr s :=
  call_at S rm (S.K _ _ ho) rfl (codeRec_of S.K hcd) hbind hloc hoth hnd (fun L s₁ S₁ => h _ L s₁ rm.deeper rfl (Around.frames_deeper hfr) S₁) hco hgen hk hcell
end
theorem St.uncons {c : Cx} {s : Shared} {R : List HP} {ι : Type} {l : List ι} {f : ι → HP} {u : ι} (S : St c (fam (u :: l) f :: R) s) : St c (f u :: fam l f :: R) s :=
  S.mono fun _ h => Sat.cons_mono (fun _ h => Sat.unflat (l := l.map f) h) (Sat.flat (l := (u :: l).map f) h)
theorem ce_move {c : Cx} {A : Around} {s : Shared} {P R : List HP} {k : Nat} {x dx ed tc it : Addr} {kvs : List (Int × Value)} {ep i : Nat} {outer : List Env} {frs : List (Addr × List (Str × Option Value))} {Rr : Result → Shared → Prop}
    (S : St c P s) (rm : Rm A (k + 6)) (hh : A.handled = none) (hx : c.hx = none) (hfr : A.frames = some outer) (F : FrOk outer frs)
    (tk : Takes [pt x (slO dx (ceSl tc ed it)), dS c dx [], dAt c (intKind Pg c.w) ed kvs ep, gIt it ed (i + 1) kvs.length ep, fam frs frP] P R) (hne : 0 < kvs.length)
    (h1 : i + 1 < kvs.length → ∀ s' tc' key k0 v0, kvs[i + 1]? = some (k0, v0) → (intKind Pg c.w).is k0 key = true → St c (pt x (slO dx (ceSl tc' ed it)) :: dS c dx [] :: dAt c (intKind Pg c.w) ed kvs ep :: gIt it ed (i + 1 + 1) kvs.length ep :: tup tc' [key, v0] :: fam frs frP :: R) s' → Rr (.ok (.ret .none)) s')
    (h2 : kvs.length ≤ i + 1 → ∀ s' e tb tc' it' key k0 v0, kvs[0]? = some (k0, v0) → (intKind Pg c.w).is k0 key = true → St c (exA e tb :: exB tb .none :: pt x (slO dx (ceSl tc' ed it')) :: dS c dx [] :: dAt c (intKind Pg c.w) ed kvs ep :: gIt it' ed 1 kvs.length ep :: tup tc' [key, v0] :: fam frs frP :: R) s' → Rr (.error (.ref e)) s') :
    codeAny c.M A (.call (.ref 451) ⟨[.ref x], []⟩) Rr s := by
  replace S := S.takes tk
  refine' call_KE (binds := [("self", .ref x)]) S rm hfr (by exact rfl) (by rfl) (BindsTo.of_eq rfl) (locs rfl) ?oth ?nd ?_
  case oth => wtm_at "oth"
  case nd => exact rfl
  clear S
  intro B L s rm hhB hfrB S env
  replace hhB := hhB.trans hh
  simp only [boundF, List.map_cons, List.map_nil, List.cons_append, List.nil_append, List.append_nil] at S
  refine wpAny_execs_cons (wpAny_Try_except ?_)
  wtm_at "ws"
  by_cases hi : i + 1 < kvs.length
  · have hxi : kvs[i + 1]? = some (kvs[i + 1].1, kvs[i + 1].2) := List.getElem?_eq_getElem hi
    refine next_gi (kvs := kvs) (knd := intKind Pg c.w) (d := ed) (ep := ep) (i := i + 1) (S.take (X := gIt it ed (i + 1) kvs.length ep) (by wtm_at "take")) (.tail (by wtm_at "take")) hxi ?_
    clear S; intro s tc' kv hkv S
    wtm_at "ws"
    refine h1 hi _ tc' kv _ _ hxi hkv ?_
    have e1 : ((ceSl tc ed it ++ Array.replicate (0 + 1 - (ceSl tc ed it).size) none).setIfInBounds 0 (some (.ref tc'))) = ceSl tc' ed it := rfl
    rw [e1] at S
    wtm_at "fin"
  · refine next_gi_end (kvs := kvs) (knd := intKind Pg c.w) (d := ed) (ep := ep) (i := i + 1) hhB (S.take (X := gIt it ed (i + 1) kvs.length ep) (by wtm_at "take")) (.tail (by wtm_at "take")) (by omega) ?_
    clear S; intro s e S
    have e0 : ∃ l : List (Str × Option Value), l = [(Str.ofString "self", some (Value.ref x))] := ⟨_, rfl⟩
    obtain ⟨l, hl⟩ := e0
    rw [← hl] at S
    have S1 := S.takes (Xs := [exN e, frm L l, fam frs frP]) (by wtm_at "takes")
    have S2 : St c (exN e :: fam ((L, l) :: frs) frP :: _) s := S1.mono fun _ h => Sat.cons_mono (fun _ h => Sat.consFam (f := frP) (u := (L, l)) h) h
    have hF : FrOk (env :: outer) ((L, l) :: frs) := ⟨show ScopeKind.function ≠ .module by decide, rfl, F⟩
    refine note1 S2 hfrB (L := L) rfl hF ?_
    clear S S1 S2; intro s tb S
    refine flight (fr := none) S ?_
    clear S; intro s S
    refine wpAny_handleBy_builtin (X := "StopIteration") (T := "StopIteration") (b := true) sub_stop_base sub_stop_tup isSubtype_stop ?_
    wtm_at "w"
    refine ⟨rfl, ?_, ?_⟩
    · obtain ⟨o, vs, ho, hc, -⟩ := S.get0
      exact ⟨o, ho, hc⟩
    rw [if_pos rfl]
    refine flight (fr := none) S ?_
    clear S; intro s S
    have S3 : St c (exA e tb :: exB tb .none :: fam ((L, l) :: frs) frP :: pt x (slO dx (ceSl tc ed it)) :: dS c dx [] :: dAt c (intKind Pg c.w) ed kvs ep :: R) s := by
      simp only [List.append_eq, List.cons_append, List.nil_append] at S
      wtm_at "fin"
    obtain ⟨d, hd, Sh, back⟩ := S3.hold
    have S4 := Sh.uncons
    clear S S3 Sh
    have S5 : St (c.hold e d hd) (frm L l :: fam frs frP :: pt x (slO dx (ceSl tc ed it)) :: dS (c.hold e d hd) dx [] :: dAt (c.hold e d hd) (intKind Pg (c.hold e d hd).w) ed kvs ep :: R) s := S4
    clear S4
    have back2 : ∀ s' P', St (c.hold e d hd) P' s' → St c (exA e tb :: exB tb .none :: P') s' := back
    clear back
    rw [hl] at S5
    have S := S5
    clear S5
    show wpAny (c.hold e d hd).M _ _ _ _ _
    have hH : (B.mark (some (.ref e))).handled = (c.hold e d hd).hx := rfl
    wtm_at "ws"
    refine' wpAny_call (ce_rewind (c := c.hold e d hd) (k := k) (sl := ceSl tc ed it) (kvs := kvs) (ed := ed) (ep := ep) S (rm.mark.le (by omega)) hH (.inr ⟨_, _, rfl⟩) hne ?zz3 ?_)
    case zz3 =>
      wtm_at "takes"
    clear S; intro s tc' it' key k0 v0 hk0 hkey S
    dsimp only
    refine wpAny_execs_cons ?_
    show wpAny c.M _ _ _ _ _
    replace S := back2 _ _ S
    refine reraise S rfl (L := L) rfl ?_
    clear S; intro s S
    refine noted0 S rfl (came0 S rfl ?_)
    clear S; intro s S
    refine leave0 S rfl ?_
    clear S; intro s S
    refine h2 (by omega) _ e tb tc' it' key k0 v0 hk0 hkey ?_
    have S6 : St c (exA e tb :: exB tb .none :: pt x (slO dx (ceSl tc' ed it')) :: dS c dx [] :: dAt c (intKind Pg c.w) ed kvs ep :: gIt it' ed 1 kvs.length ep :: tup tc' [key, v0] :: frm L [("self", some (.ref x))] :: fam frs frP :: R) s := S
    clear S
    wtm_at "fin"

section
variable {c : Cx} {A : Around} {E : Value → Shared → Prop} {P R : List HP} {s : Shared} {env : Env} {k v : Expr} {pos : Pos} {Q : Value → Shared → Prop}
/-- a dict of one pair is written down -/
theorem dict1 (S : St c P s) (h : ∀ s' a, St c (dI c a [] :: P) s' → wpAny c.M A (eval k env) (fun kv s₁ => wpAny c.M A (eval v env) (fun vv s₂ => ∃ (n : Int) (t : Tok) (P2 R2 : List HP), kv = .int n t ∧ St c P2 s₂ ∧ Take (dI c a []) P2 R2 ∧ ∀ s3, St c (dI c a [(n, vv)] :: R2) s3 → Q (.ref a) s3) E s₁) E s') :
    wpAny c.M A (eval (.Dict [some k] [v] pos) env) Q E s := by
  refine wpAny_Dict_walk (knd := intKind Pg c.w) rfl rfl (by simp) (by simp) (pairTrees_cons_walk ?_)
  have S1 := S.alloc (o := { cls := .type "dict", data := .dict #[] }) (X := dI c s.heap.objs.size []) rfl ⟨_, _, _, one_self, ⟨rfl, rfl, rfl⟩, rfl, fun e he => by simp at he, .nil, .nil⟩
  refine wpAny_mono (h _ _ S1) (fun kv s₁ h₁ => wpAny_mono h₁ (fun vv s₂ h₂ => ?_) fun _ _ z => z) fun _ _ z => z
  obtain ⟨n, t, P2, R2, rfl, S2, tk, hq⟩ := h₂
  refine pairTrees_nil_walk ?_
  have S3 := S2.take tk
  refine ⟨[(n, vv)], ⟨isI c n t, rfl, trivial⟩, dR_of S3.get0, fun h' hm hs => hq _ ?_⟩
  exact (S3.upd (s' := { s₂ with heap := h' }) dR_owns (fun b hb => hs.2 b hb) (dR_one hm)).tok
end
/-! the residual graph while paths are sought -/
def e0R (c : Cx) (a : Addr) (cv : Int) : HP := fun D => ∃ t1, dS c a [("capacity", .int cv t1)] D
def eR (c : Cx) (a : Addr) (cv fv : Int) : HP := fun D => ∃ t1 t2, dS c a [("capacity", .int cv t1), ("flow", .int fv t2)] D
instance {c a cv} : Up (e0R c a cv) := ⟨fun _ _ s ⟨t1, h⟩ => ⟨t1, Up.up _ _ s h⟩⟩
instance {c a cv fv} : Up (eR c a cv fv) := ⟨fun _ _ s ⟨t1, t2, h⟩ => ⟨t1, t2, Up.up _ _ s h⟩⟩
theorem St.openE {c : Cx} {P R : List HP} {s : Shared} {a : Addr} {cv fv : Int} (S : St c P s) (t : Take (eR c a cv fv) P R) : ∃ t1 t2, St c (dS c a [("capacity", .int cv t1), ("flow", .int fv t2)] :: R) s := by
  obtain ⟨⟨t1, t2⟩, S⟩ := (S.take t).ofHead (f := fun p : Tok × Tok => dS c a [("capacity", .int cv p.1), ("flow", .int fv p.2)]) (fun D ⟨t1, t2, h⟩ => ⟨(t1, t2), h⟩)
  exact ⟨t1, t2, S⟩
theorem St.openE0 {c : Cx} {P R : List HP} {s : Shared} {a : Addr} {cv : Int} (S : St c P s) (t : Take (e0R c a cv) P R) : ∃ t1, St c (dS c a [("capacity", .int cv t1)] :: R) s :=
  (S.take t).ofHead fun D ⟨t1, h⟩ => ⟨t1, h⟩
noncomputable abbrev gBase (c : Cx) (b : GA) (n : Nat) (gat : List (Str × Value)) : List HP :=
  [pt b.g (instObj 420 b.dx), dS c b.dx [("_pred", .ref b.pd), ("graph", .ref b.gd), ("_node", .ref b.nd), ("_adj", .ref b.ad)], dS c b.gd gat, dI c b.nd (idx n b.na), dI c b.ad (idx n b.aa), dI c b.pd (idx n b.pa)]
abbrev F493 (G s t cap res tp cut R Rp u e hs q ht v at_ cn au re fv pa d do_ ce : Option Value) : List (Str × Option Value) :=
  [("G", G), ("s", s), ("t", t), ("capacity", cap), ("residual", res), ("two_phase", tp), ("cutoff", cut), ("R", R), ("R_pred", Rp), ("u", u), ("e", e), ("heights", hs), ("q", q), ("height", ht), ("v", v), ("attr", at_), ("counts", cn), ("augment", au), ("relabel", re), ("flow_value", fv), ("path", pa), ("d", d), ("done", do_), ("curr_edge", ce)]
noncomputable abbrev env493 (L : Addr) : Env := envX d493.1.qual d493.1.scope L 493 (.ref 492) [("n", L + 4), ("inf", L + 3), ("R_succ", L + 2), ("R_nodes", L + 1)]
theorem St.backX {c : Cx} {s : Shared} {P P1 P2 : List HP} {ι : Type} [DecidableEq ι] {l : List ι} {f : ι → HP} {u : ι} {X : HP} (S : St c P s) (t1 : Take (fam (l.erase u) f) P P1) (t2 : Take X P1 P2) (hX : ∀ D, X D → f u D) (hu : u ∈ l) : St c (fam l f :: P2) s :=
  ((((S.takes (.cons t1 (.cons t2 .nil)))).mono fun _ => Sat.swap).head_mono hX).shutS (.tail .head) .head hu
theorem while_rule {c : Cx} {A : Around} {E : Value → Shared → Prop} {s : Shared} {test : Expr} {body : List Stmt} {pos : Pos} {env : Env} {Q : Flow → Shared → Prop} (I : Nat → Shared → Prop)
    (turn : ∀ n s, I n s → wpAny c.M A (isTrue test env (eval test env)) (fun b s₂ => if b = true then wpAny c.M A (execs body env) (fun f s₃ => match f with
      | .next | .cont => ∃ m, m < n ∧ I m s₃
      | .brk => Q .next s₃
      | .ret v => Q (.ret v) s₃) NoE s₂ else Q .next s₂) NoE s) (n : Nat) (h : I n s) : wpAny c.M A (exec (.While test body [] pos) env) Q E s := by
  have no : ∀ {α : Type} {t : Sem α} {Q : α → Shared → Prop} {E : Value → Shared → Prop} {s : Shared}, wpAny c.M A t Q NoE s → wpAny c.M A t Q E s := fun h => wpAny_mono h (fun _ _ x => x) fun _ _ x => x.elim
  refine wpAny_While (codeAny_whileLoop I (fun n s hI => no (wpAny_mono (turn n s hI) (fun b s₂ h₂ => ?_) fun _ _ x => x)) n h)
  cases b with
  | true =>
    simp only [if_true] at h₂ ⊢
    refine no (wpAny_mono h₂ (fun f s₃ h₃ => ?_) fun _ _ x => x)
    cases f <;> exact h₃
  | false =>
    simp only [Bool.false_eq_true, if_false] at h₂ ⊢
    exact wpAny_execs_nil h₂

/-! the flows are laid at nothing -/
def doneE (el : List (Nat × Nat)) (i : Nat) : List (Nat × Nat) := (List.range i).flatMap fun u => el.filter fun e => e.1 == u
theorem doneE_succ (el : List (Nat × Nat)) (i : Nat) : doneE el (i + 1) = doneE el i ++ el.filter fun e => e.1 == i := by
  unfold doneE; rw [List.range_succ, List.flatMap_append]; simp
theorem doneE_mem {el : List (Nat × Nat)} {i : Nat} {e : Nat × Nat} : e ∈ doneE el i ↔ e ∈ el ∧ e.1 < i := by
  unfold doneE
  rw [List.mem_flatMap]
  constructor
  · rintro ⟨u, hu, he⟩
    have h1 := List.mem_filter.mp he
    have : e.1 = u := by simpa using h1.2
    exact ⟨h1.1, by rw [this]; exact List.mem_range.mp hu⟩
  · rintro ⟨a, b⟩
    exact ⟨e.1, List.mem_range.mpr b, List.mem_filter.mpr ⟨a, by simp⟩⟩
def fzR (c : Cx) (b : GA) (cap : Nat × Nat → Int) (D : List (Nat × Nat)) (e : Nat × Nat) : HP := if e ∈ D then eR c (b.ea e) (cap e) 0 else e0R c (b.ea e) (cap e)
theorem succE_at {el : List (Nat × Nat)} {ea : Nat × Nat → Addr} {u j : Nat} {k : Int} {v : Value} (h : (succE el ea u)[j]? = some (k, v)) : ∃ e, (el.filter fun e => e.1 == u)[j]? = some e ∧ e ∈ el ∧ e.1 = u ∧ k = e.2 ∧ v = .ref (ea e) := by
  unfold succE at h
  rw [List.getElem?_map] at h
  obtain ⟨e, he, hq⟩ := Option.map_eq_some_iff.mp h
  cases hq
  have hm := List.mem_of_getElem? he
  have h2 := List.mem_filter.mp hm
  exact ⟨e, he, h2.1, by simpa using h2.2, rfl, rfl⟩
theorem iterGb {c : Cx} {A : Around} {E : Value → Shared → Prop} {s : Shared} {P R : List HP} {k n : Nat} {g dx nd : Addr} {na : Nat → Addr} {kvs : List (Str × Value)} {Q : Value → Shared → Prop} (S : St c P s) (rm : Rm A (k + 2)) (tk : Takes [pt g (instObj 420 dx), dS c dx kvs, dI c nd (idx n na)] P R) (hk : At kvs "_node" (.ref nd))
    (h : ∀ s' it ep, St c (kIt it nd 0 n ep :: dAt c (intKind Pg c.w) nd (idx n na) ep :: pt g (instObj 420 dx) :: dS c dx kvs :: R) s' → Q (.ref it) s') : wpAny c.M A (pyIter (.ref g)) Q E s := by
  replace S := S.takes tk
  simp only [List.cons_append, List.nil_append] at S
  refine' iterG S .head (.tail .head) (g_iter (k := k) (n := n) (na := na) S (rm.le (by omega)) ?zz1 hk ?_)
  case zz1 => wtm_at "takes"
  clear S; intro s it ep S
  dsimp only
  refine ⟨?_, h _ _ _ S⟩
  obtain ⟨o, h1, h2, _⟩ := (S.get0 : kIt it nd 0 n ep s.heap.get?)
  exact ⟨o, h1, h2⟩
theorem idx_walk {c : Cx} {A : Around} {it nd : Addr} {n ep : Nat} {na : Nat → Addr} (hh : A.handled = none) : Iter c A (.ref it) n (fun i => [kIt it nd i n ep, dAt c (intKind Pg c.w) nd (idx n na) ep]) (fun i v => ∃ t, v = .int i t) (fun i _ => [kIt it nd (i + 1) n ep, dAt c (intKind Pg c.w) nd (idx n na) ep]) [dI c nd (idx n na)] := by
  have X := keys_iter (c := c) (A := A) (it := it) (knd := intKind Pg c.w) (d := nd) (kvs := idx n na) (ep := ep) hh
  rw [idx_length] at X
  refine ⟨fun i hi P s Q E S h => X.next i hi P s Q E S fun s' v hv S' => h s' v ?_ S', X.stop⟩
  obtain ⟨k0, w, h1, h2⟩ := hv
  obtain ⟨rfl, -⟩ := idx_get h1
  exact isI_shape h2
theorem im_flow {c : Cx} {A : Around} {s : Shared} {P R : List HP} {k : Nat} {L : Addr} {b : GA} {n : Nat} {el : List (Nat × Nat)} {gat : List (Str × Value)} {cap : Nat × Nat → Int} {vG vs vt vcap vres vtp vcut vRp vu ve vhs vq vht vv vat vcn vau vre vfv vpa vd vdo vce : Option Value} {Q : Flow → Shared → Prop}
    (S : St c P s) (rm : Rm A (k + 8)) (hh : A.handled = none) (hA : A.handled = c.hx) (hn : n ≤ 100) (hnd : el.Nodup) (hlt : ∀ e ∈ el, e.1 < n ∧ e.2 < n) (hfew : el.length ≤ 1000)
    (tk : Takes (frm L (F493 vG vs vt vcap vres vtp vcut (some (.ref b.g)) vRp vu ve vhs vq vht vv vat vcn vau vre vfv vpa vd vdo vce) :: cel (L + 2) (some (.ref b.ad)) :: (gBase c b n gat ++ [fam (List.range n) fun i => dI c (b.aa i) (succE el b.ea i), fam el fun e => e0R c (b.ea e) (cap e)])) P R)
    (h : ∀ s' vu ve, St c (frm L (F493 vG vs vt vcap vres vtp vcut (some (.ref b.g)) vRp vu ve vhs vq vht vv vat vcn vau vre vfv vpa vd vdo vce) :: cel (L + 2) (some (.ref b.ad)) :: (gBase c b n gat ++ (fam (List.range n) (fun i => dI c (b.aa i) (succE el b.ea i)) :: fam el (fun e => eR c (b.ea e) (cap e) 0) :: R))) s' → Q .next s') :
    wpAny c.M A (exec (stAt d493.1.body 7) (env493 L)) Q NoE s := by
  generalize henv : env493 L = env
  dsimp only [d493, stAt, List.drop]
  unfold env493 at henv
  replace S := S.takes tk
  clear tk
  simp only [F493, gBase, List.cons_append, List.nil_append] at S
  subst henv
  refine wpAny_For ?_
  wtm_at "w"
  refine' iterGb (k := k) S (rm.le (by omega)) ?zz1 ?zz2 ?_
  case zz1 => wtm_at "takes"
  case zz2 => wtm_at "at"
  clear S; intro s it ep S
  refine' for_rule (Ex := fun _ _ => []) (idx_walk (it := it) (nd := b.nd) (n := n) (ep := ep) (na := b.na) hh) (fun i P' => ∃ vu ve, P' = frm L (F493 vG vs vt vcap vres vtp vcut (some (.ref b.g)) vRp vu ve vhs vq vht vv vat vcn vau vre vfv vpa vd vdo vce) :: cel (L + 2) (some (.ref b.ad)) :: pt b.g (instObj 420 b.dx) :: dS c b.dx [("_pred", .ref b.pd), ("graph", .ref b.gd), ("_node", .ref b.nd), ("_adj", .ref b.ad)] :: dS c b.gd gat :: dI c b.ad (idx n b.aa) :: dI c b.pd (idx n b.pa) :: fam (List.range n) (fun i => dI c (b.aa i) (succE el b.ea i)) :: fam el (fzR c b cap (doneE el i)) :: R)
    (S.cov ?zzm) ⟨vu, ve, rfl⟩ ?_ ?_ ?_
  case zzm =>
    have e0 : fzR c b cap (doneE el 0) = fun e => e0R c (b.ea e) (cap e) := by
      funext e; unfold fzR; rw [if_neg]; intro z; have := doneE_mem.mp z; omega
    rw [e0]
    wtm_at "cov"
  · intro i v P' s hv S Q hq
    exact own_name (hq _ S)
  · clear S vu ve
    rintro i hi _ s v ⟨vu, ve, rfl⟩ ⟨tu, rfl⟩ S
    simp only [F493, List.cons_append, List.nil_append] at S
    revert it ep S
    intro it0 ep0 S
    wtm_at "ws"
    refine' for_rule (Ex := fun _ _ => []) (v_walk (c := c) (it := it) (d := b.aa i) (kvs := succE el b.ea i) (knd := intKind Pg c.w) (ep := ep) hh) (fun j P' => ∃ ve, P' = frm L (F493 vG vs vt vcap vres vtp vcut (some (.ref b.g)) vRp (some (.int i tu)) ve vhs vq vht vv vat vcn vau vre vfv vpa vd vdo vce) :: kIt it0 b.nd (i + 1) n ep0 :: dAt c (intKind Pg c.w) b.nd (idx n b.na) ep0 :: cel (L + 2) (some (.ref b.ad)) :: pt b.g (instObj 420 b.dx) :: dS c b.dx [("_pred", .ref b.pd), ("graph", .ref b.gd), ("_node", .ref b.nd), ("_adj", .ref b.ad)] :: dS c b.gd gat :: dI c b.ad (idx n b.aa) :: dI c b.pd (idx n b.pa) ::
      fam ((List.range n).erase i) (fun i => dI c (b.aa i) (succE el b.ea i)) :: fam el (fzR c b cap (doneE el i ++ (el.filter fun e => e.1 == i).take j)) :: R)
      (S.cov ?zzn) ⟨ve, rfl⟩ ?_ ?_ ?_
    case zzn =>
      rw [List.take_zero, List.append_nil]
      wtm_at "cov"
    · intro j v P' s hv S Q hq
      exact own_name (hq _ S)
    · clear S
      rintro j hj _ s v ⟨ve, rfl⟩ ⟨kk, hv⟩ S
      obtain ⟨e, he, hel, he1, -, rfl⟩ := succE_at hv
      simp only [F493, List.cons_append, List.nil_append] at S
      have hnew : e ∉ doneE el i ++ (el.filter fun e => e.1 == i).take j := by
        intro z
        rcases List.mem_append.mp z with z | z
        · have := (doneE_mem.mp z).2; omega
        · have hn2 := hnd.filter fun e => e.1 == i
          rw [← List.take_append_drop (j + 1) (el.filter fun e => e.1 == i), List.take_add_one, he] at hn2
          exact (List.nodup_append.mp (List.nodup_append.mp hn2).1).2.2 e z e (by simp) rfl
      have S2 := S.take (X := fzR c b cap (doneE el i ++ (el.filter fun e => e.1 == i).take j) e) (by wtm_at "take")
      rw [show fzR c b cap (doneE el i ++ (el.filter fun e => e.1 == i).take j) e = e0R c (b.ea e) (cap e) from if_neg hnew] at S2
      obtain ⟨t1, S3⟩ := S2.openE0 .head
      clear S S2
      have S := S3
      clear S3
      wtm_at "w"
      wtm_at "w"
      wtm_at "w"
      wtm_at "w"
      wtm_at "w"
      wtm_at "w"
      wtm_at "w"
      wtm_at "w"
      wtm_at "w"
      have htk : (el.filter fun e => e.1 == i).take (j + 1) = (el.filter fun e => e.1 == i).take j ++ [e] := by rw [List.take_add_one, he]; rfl
      refine ⟨_, ⟨some (.ref (b.ea e)), rfl⟩, ?_⟩
      have S2 := (S.head_mono (X' := eR c (b.ea e) (cap e) 0) fun D hD => ⟨_, _, hD⟩).shutX (l := el) (f := fzR c b cap (doneE el i ++ (el.filter fun e => e.1 == i).take j)) (u := e) (X := eR c (b.ea e) (cap e) 0) (fzR c b cap (doneE el i ++ (el.filter fun e => e.1 == i).take (j + 1))) (by wtm_at "take") (by wtm_at "take")
        (by unfold fzR; rw [if_pos (by rw [htk]; simp)]) hel hnd (fun e' _ hne => by
          unfold fzR
          have : (e' ∈ doneE el i ++ (el.filter fun e => e.1 == i).take (j + 1)) = (e' ∈ doneE el i ++ (el.filter fun e => e.1 == i).take j) := by
            rw [htk]; simp [hne]
          simp only [this])
      clear S
      wtm_at "fin"
    · rintro _ s ⟨ve, rfl⟩ S
      have e1 : doneE el i ++ (el.filter fun e => e.1 == i).take (succE el b.ea i).length = doneE el (i + 1) := by
        rw [doneE_succ, List.take_of_length_le (by unfold succE; rw [List.length_map]; exact Nat.le_refl _)]
      rw [e1] at S
      simp only [F493, List.cons_append, List.nil_append] at S
      have S2 := S.shutS (l := List.range n) (f := fun i => dI c (b.aa i) (succE el b.ea i)) (u := i) (by wtm_at "take") (by wtm_at "take") (mem_range hi)
      clear S
      dsimp only
      refine wpAny_execs_nil ?_
      refine ⟨_, ⟨some (.int i tu), ve, rfl⟩, ?_⟩
      wtm_at "fin"
  · rintro _ s ⟨vu, ve, rfl⟩ S
    have e1 : fam el (fzR c b cap (doneE el n)) = fam el (fun e => eR c (b.ea e) (cap e) 0) := by
      refine fam_congr fun e he => ?_
      unfold fzR
      rw [if_pos (doneE_mem.mpr ⟨he, (hlt e he).1⟩)]
    rw [e1] at S
    simp only [F493, List.cons_append, List.nil_append] at S
    refine' h _ vu ve ?zzk
    case zzk =>
      simp only [gBase, F493, List.cons_append, List.nil_append]
      wtm_at "fin"

/-! the search backwards -/
abbrev HTok := Nat × Nat × Tok
def hk (hs : List HTok) : List (Int × Value) := hs.map fun p => ((p.1 : Int), Value.int p.2.1 p.2.2)
def pr (hs : List HTok) : List (Nat × Nat) := hs.map fun p => (p.1, p.2.1)
theorem hk_none {hs : List HTok} {v : Nat} : valueAt (hk hs) (v : Int) = none ↔ v ∉ (pr hs).map (·.1) := by
  unfold valueAt hk pr
  rw [Option.map_eq_none_iff, List.find?_eq_none]
  simp only [List.map_map, List.mem_map, Function.comp_def]
  constructor
  · rintro h ⟨p, hp, rfl⟩
    have := h _ ⟨p, hp, rfl⟩
    simp at this
  · rintro h x ⟨p, hp, rfl⟩
    simp only [decide_eq_true_eq]
    intro e
    exact h ⟨p, hp, by omega⟩
theorem hk_isSome {hs : List HTok} {v : Nat} : (valueAt (hk hs) (v : Int)).isSome = decide (v ∈ (pr hs).map (·.1)) := by
  cases q : valueAt (hk hs) (v : Int) with
  | none => have := hk_none.mp q; simp [this]
  | some w =>
    have : v ∈ (pr hs).map (·.1) := Classical.byContradiction fun z => by rw [hk_none.mpr z] at q; cases q
    simp only [Option.isSome_some]; exact (decide_eq_true this).symm
theorem hk_len {hs : List HTok} : (hk hs).length = hs.length := by simp [hk]
theorem pr_len {hs : List HTok} : (pr hs).length = hs.length := by simp [pr]
theorem hk_add {hs : List HTok} {v d : Nat} {t : Tok} : hk hs ++ [((v : Int), Value.int ((d : Nat) : Int) t)] = hk (hs ++ [(v, d, t)]) := by simp [hk]
theorem pr_add {hs : List HTok} {v d : Nat} {t : Tok} : pr (hs ++ [(v, d, t)]) = pr hs ++ [(v, d)] := by simp [pr]
def tR (p : Addr × (Nat × Nat)) : HP := fun D => ∃ t1 t2, tup p.1 [.int p.2.1 t1, .int p.2.2 t2] D
instance {p : Addr × (Nat × Nat)} : Up (tR p) := ⟨fun _ _ s ⟨t1, t2, n, h⟩ => ⟨t1, t2, n, s _ _ h⟩⟩
theorem predE_at {el : List (Nat × Nat)} {ea : Nat × Nat → Addr} {u j : Nat} {k : Int} {v : Value} (h : (predE el ea u)[j]? = some (k, v)) : ∃ w, (predL el u)[j]? = some w ∧ (w, u) ∈ el ∧ k = w ∧ v = .ref (ea (w, u)) := by
  unfold predE at h
  rw [List.getElem?_map] at h
  obtain ⟨e, he, hq⟩ := Option.map_eq_some_iff.mp h
  cases hq
  have h2 := List.mem_filter.mp (List.mem_of_getElem? he)
  have e2 : e.2 = u := by simpa using h2.2
  refine ⟨e.1, ?_, by rw [← e2]; exact h2.1, rfl, by rw [← e2]⟩
  unfold predL; rw [List.getElem?_map, he]; rfl
theorem predE_len {el : List (Nat × Nat)} {ea : Nat × Nat → Addr} {u : Nat} : (predE el ea u).length = (predL el u).length := by simp [predE, predL]
theorem im_pred {c : Cx} {A : Around} {s : Shared} {P R : List HP} {L hd qd : Addr} {b : GA} {n s0 t0 u d : Nat} {el q : List (Nat × Nat)} {hs : List HTok} {qs : List Addr} {cF : Nat → Nat → Int} {tu th : Tok} {vG vs vt vcap vres vtp vcut vR ve vv vat vcn vau vre vfv vpa vd vdo vce : Option Value} {Q : Flow → Shared → Prop}
    (S : St c P s) (hh : A.handled = none) (hA : A.handled = c.hx) (hn : n ≤ 100) (N : Net n s0 t0 el cF) (hnd : el.Nodup) (hfew : el.length ≤ 1000) (B : BJ n t0 el cF u d 0 (pr hs) q) (hqs : qs.length = q.length) (hql : q.length ≤ hs.length)
    (tk : Takes (frm L (F493 vG vs vt vcap vres vtp vcut vR (some (.ref b.pd)) (some (.int u tu)) ve (some (.ref hd)) (some (.ref qd)) (some (.int ((d + 1 : Nat) : Int) th)) vv vat vcn vau vre vfv vpa vd vdo vce) :: dI c hd (hk hs) :: dq qd (qs.map Value.ref) :: fam (qs.zip q) tR :: dI c b.pd (idx n b.pa) :: fam (List.range n) (fun i => dI c (b.pa i) (predE el b.ea i)) :: [fam el fun e => eR c (b.ea e) (cF e.1 e.2) 0]) P R)
    (h : ∀ (s' : Shared) (hs' : List HTok) (q' : List (Nat × Nat)) (qs' : List Addr) (vv vat : Option Value), BI n t0 el cF (pr hs') q' → qs'.length = q'.length → hs'.length + q.length = hs.length + q'.length → q'.length ≤ hs'.length → hs.length ≤ hs'.length →
      St c (frm L (F493 vG vs vt vcap vres vtp vcut vR (some (.ref b.pd)) (some (.int u tu)) ve (some (.ref hd)) (some (.ref qd)) (some (.int ((d + 1 : Nat) : Int) th)) vv vat vcn vau vre vfv vpa vd vdo vce) :: dI c hd (hk hs') :: dq qd (qs'.map Value.ref) :: fam (qs'.zip q') tR :: dI c b.pd (idx n b.pa) :: fam (List.range n) (fun i => dI c (b.pa i) (predE el b.ea i)) :: fam el (fun e => eR c (b.ea e) (cF e.1 e.2) 0) :: R) s' → Q .next s') :
    wpAny c.M A (exec (stAt (bodyOf (stAt d493.1.body 10)) 2) (env493 L)) Q NoE s := by
  dsimp only [d493, stAt, List.drop, bodyOf]
  have hu : u < n := B.lt u d B.top
  replace S := S.takes tk
  clear tk
  simp only [F493, List.cons_append, List.nil_append] at S
  refine wpAny_For ?_
  wtm_at "ws"
  refine' for_rule (i_walk (it := it) (d := b.pa u) (kvs := predE el b.ea u) (ep := ep) (knd := intKind Pg c.w) hh) (Ex := fun j v => [iTup c (intKind Pg c.w) (predE el b.ea u) j v]) (fun j P' => ∃ (hs' : List HTok) (q' : List (Nat × Nat)) (qs' : List Addr) (vv vat : Option Value), BJ n t0 el cF u d j (pr hs') q' ∧ qs'.length = q'.length ∧ hs'.length + q.length = hs.length + q'.length ∧ q'.length ≤ hs'.length ∧ hs.length ≤ hs'.length ∧
      P' = frm L (F493 vG vs vt vcap vres vtp vcut vR (some (.ref b.pd)) (some (.int u tu)) ve (some (.ref hd)) (some (.ref qd)) (some (.int ((d + 1 : Nat) : Int) th)) vv vat vcn vau vre vfv vpa vd vdo vce) :: dI c hd (hk hs') :: dq qd (qs'.map Value.ref) :: fam (qs'.zip q') tR :: dI c b.pd (idx n b.pa) :: fam ((List.range n).erase u) (fun i => dI c (b.pa i) (predE el b.ea i)) :: fam el (fun e => eR c (b.ea e) (cF e.1 e.2) 0) :: R)
      (S.cov ?zz3) ⟨hs, q, qs, vv, vat, B, hqs, rfl, hql, Nat.le_refl _, rfl⟩ ?_ ?_ ?_
  case zz3 => wtm_at "cov"
  · exact fun j w P' s _ S Q hq => i_own S fun s' S' => hq _ S'
  · clear S vv vat h
    rintro j hj _ s w ⟨hs', q', qs', vv, vat, B', hqs', hl1, hl2, hl3, rfl⟩ - S
    simp only [F493, List.cons_append, List.nil_append] at S
    obtain ⟨ta, k0, key, w2, rfl, hk0, his, S⟩ := S.openTup (knd := intKind Pg c.w) (kvs := predE el b.ea u) (i := j) (by wtm_at "take")
    obtain ⟨v, hv, hvel, rfl, rfl⟩ := predE_at hk0
    obtain ⟨tv, rfl⟩ := isI_shape his
    wtm_at "ws"
    rw [hk_isSome]
    by_cases hvm : v ∈ (pr hs').map (·.1)
    · refine ite_F (by simp [hvm]) (ite_F (by simp) ?_)
      wtm_at "ws"
      refine ⟨_, ⟨hs', q', qs', some (.int v tv), some (.ref (b.ea (v, u))), B'.skip hv (.inl hvm), hqs', hl1, hl2, hl3, rfl⟩, ?_⟩
      wtm_at "fin"
    · refine ite_T (by simp [hvm]) ?_
      obtain ⟨c1, c2, S⟩ := S.openE (a := b.ea (v, u)) (cv := cF v u) (fv := 0) (by wtm_at "take")
      wtm_at "ws"
      by_cases hc : 0 < cF v u
      · refine ite_T (by simp [hc]) ?_
        wtm_at "ws"
        have hln := B'.len
        rw [pr_len] at hln
        refine' dI_set (kvs := hk hs') S ?zz4 (by rw [hk_len]; omega) ?_
        case zz4 => wtm_at "take"
        clear S; intro s S
        rw [stored_new (hk_none.mpr hvm), hk_add] at S
        wtm_at "ws"
        rotate_left
        · rw [List.length_map]; omega
        have S2 := S.backX (l := el) (f := fun e => eR c (b.ea e) (cF e.1 e.2) 0) (u := (v, u)) (X := dS c (b.ea (v, u)) [("capacity", .int (cF v u) c1), ("flow", .int 0 c2)]) (by wtm_at "take") (by wtm_at "take") (fun D hD => ⟨_, _, hD⟩) hvel
        clear S
        have S3 := ((S2.take (X := tup nw [.int (v : Int) tv, .int ((d + 1 : Nat) : Int) th]) (by wtm_at "take")).head_mono (X' := tR (nw, (v, d + 1))) fun D hD => ⟨_, _, hD⟩).growE (l := qs'.zip q') (u := (nw, (v, d + 1))) (f := tR) (X := tR (nw, (v, d + 1))) (by wtm_at "take") (by wtm_at "take") tR rfl (fun _ _ => rfl)
        clear S2
        rw [← zip_snoc hqs'] at S3
        have em : List.map Value.ref qs' ++ [Value.ref nw] = List.map Value.ref (qs' ++ [nw]) := by simp
        rw [em] at S3
        refine ⟨_, ⟨hs' ++ [(v, d + 1, th)], q' ++ [(v, d + 1)], qs' ++ [nw], some (.int v tv), some (.ref (b.ea (v, u))), by rw [pr_add]; exact B'.add N hv hvm, by simp [hqs'], by simp; omega, by simp; omega, by simp; omega, rfl⟩, ?_⟩
        wtm_at "fin"
      · refine ite_F (by simp [hc]) ?_
        wtm_at "ws"
        have S2 := S.backX (l := el) (f := fun e => eR c (b.ea e) (cF e.1 e.2) 0) (u := (v, u)) (X := dS c (b.ea (v, u)) [("capacity", .int (cF v u) c1), ("flow", .int 0 c2)]) (by wtm_at "take") (by wtm_at "take") (fun D hD => ⟨_, _, hD⟩) hvel
        clear S
        refine ⟨_, ⟨hs', q', qs', some (.int v tv), some (.ref (b.ea (v, u))), B'.skip hv (.inr hc), hqs', hl1, hl2, hl3, rfl⟩, ?_⟩
        wtm_at "fin"
  · rintro _ s ⟨hs', q', qs', vv, vat, B', hqs', hl1, hl2, hl3, rfl⟩ S
    rw [predE_len] at B'
    have S2 := S.shut0 (l := List.range n) (f := fun i => dI c (b.pa i) (predE el b.ea i)) (u := u) (by simp only [F493]; wtm_at "take") (by wtm_at "take") (mem_range hu) List.nodup_range
    clear S
    refine' h _ hs' q' qs' vv vat (B'.fin (Nat.le_refl _)) hqs' hl1 hl2 hl3 ?zzk
    case zzk =>
      simp only [F493]
      wtm_at "fin"

theorem zip_cons' {α β : Type} {a : α} {b : β} {l : List α} {m : List β} : (a :: l).zip (b :: m) = (a, b) :: l.zip m := rfl
theorem im_bfs {c : Cx} {A : Around} {s : Shared} {P R : List HP} {L hd qd : Addr} {b : GA} {n s0 t0 : Nat} {el q : List (Nat × Nat)} {hs : List HTok} {qs : List Addr} {cF : Nat → Nat → Int} {vG vs vt vcap vres vtp vcut vR vu ve vht vv vat vcn vau vre vfv vpa vd vdo vce : Option Value} {Q : Flow → Shared → Prop}
    (S : St c P s) (hh : A.handled = none) (hA : A.handled = c.hx) (hn : n ≤ 100) (N : Net n s0 t0 el cF) (hnd : el.Nodup) (hfew : el.length ≤ 1000) (B : BI n t0 el cF (pr hs) q) (hqs : qs.length = q.length) (hql : q.length ≤ hs.length)
    (tk : Takes (frm L (F493 vG vs vt vcap vres vtp vcut vR (some (.ref b.pd)) vu ve (some (.ref hd)) (some (.ref qd)) vht vv vat vcn vau vre vfv vpa vd vdo vce) :: dI c hd (hk hs) :: dq qd (qs.map Value.ref) :: fam (qs.zip q) tR :: dI c b.pd (idx n b.pa) :: fam (List.range n) (fun i => dI c (b.pa i) (predE el b.ea i)) :: [fam el fun e => eR c (b.ea e) (cF e.1 e.2) 0]) P R)
    (h : ∀ (s' : Shared) (hs' : List HTok) (vu vht vv vat : Option Value), BI n t0 el cF (pr hs') [] →
      St c (frm L (F493 vG vs vt vcap vres vtp vcut vR (some (.ref b.pd)) vu ve (some (.ref hd)) (some (.ref qd)) vht vv vat vcn vau vre vfv vpa vd vdo vce) :: dI c hd (hk hs') :: dI c b.pd (idx n b.pa) :: fam (List.range n) (fun i => dI c (b.pa i) (predE el b.ea i)) :: fam el (fun e => eR c (b.ea e) (cF e.1 e.2) 0) :: R) s' → Q .next s') :
    wpAny c.M A (exec (stAt d493.1.body 10) (env493 L)) Q NoE s := by
  replace S := S.takes tk
  clear tk
  refine while_rule (fun m s' => ∃ (hs : List HTok) (q : List (Nat × Nat)) (qs : List Addr) (vu vht vv vat : Option Value), BI n t0 el cF (pr hs) q ∧ m = 2 * (n - hs.length) + q.length ∧ qs.length = q.length ∧ q.length ≤ hs.length ∧
    St c (frm L (F493 vG vs vt vcap vres vtp vcut vR (some (.ref b.pd)) vu ve (some (.ref hd)) (some (.ref qd)) vht vv vat vcn vau vre vfv vpa vd vdo vce) :: dI c hd (hk hs) :: dq qd (qs.map Value.ref) :: fam (qs.zip q) tR :: dI c b.pd (idx n b.pa) :: fam (List.range n) (fun i => dI c (b.pa i) (predE el b.ea i)) :: fam el (fun e => eR c (b.ea e) (cF e.1 e.2) 0) :: R) s') ?_ (2 * (n - hs.length) + q.length) ⟨hs, q, qs, vu, vht, vv, vat, B, rfl, hqs, hql, S⟩
  clear S B hqs hql hs q qs vu vht vv vat s
  rintro m s ⟨hs, q, qs, vu, vht, vv, vat, B, rfl, hqs, hql, S⟩
  simp only [F493] at S
  have hln := B.len
  rw [pr_len] at hln
  refine wpAny_isTrue_value ?_
  wtm_at "w"
  wtm_at "w"
  rotate_left
  · rw [List.length_map]; omega
  rcases q with _ | ⟨⟨u, d⟩, q⟩
  · have : qs = [] := List.length_eq_zero_iff.mp (by simpa using hqs)
    subst this
    refine ite_F (by simp) ?_
    refine' h _ hs vu vht vv vat B ?zz1
    case zz1 => simp only [F493]; wtm_at "fin"
  · obtain ⟨qa, qs, rfl⟩ : ∃ a r, qs = a :: r := by
      rcases qs with _ | ⟨a, r⟩
      · simp at hqs
      · exact ⟨a, r, rfl⟩
    refine ite_T (by simp) ?_
    simp only [List.length_cons] at hqs hql
    rw [List.map_cons, zip_cons'] at S
    have S2 := (S.take (X := fam ((qa, u, d) :: qs.zip q) tR) (by wtm_at "take")).uncons
    obtain ⟨⟨tu, td⟩, S3⟩ := S2.ofHead (f := fun p : Tok × Tok => tup qa [.int u p.1, .int d p.2]) (fun D ⟨t1, t2, h⟩ => ⟨(t1, t2), h⟩)
    clear S S2
    have S := S3
    clear S3
    dsimp only at S
    wtm_at "ww"
    rotate_left
    · rw [List.length_map]; omega
    have ed : ((d : Int) + 1) = ((d + 1 : Nat) : Int) := by omega
    rw [ed] at S
    refine' im_pred (hs := hs) (q := q) (qs := qs) (u := u) (d := d) (n := n) (s0 := s0) (t0 := t0) (el := el) (cF := cF) S hh hA hn N hnd hfew B.pop (by omega) (by omega) ?zz2 ?_
    case zz2 => simp only [F493]; wtm_at "takes"
    clear S; intro s hs' q' qs' vv vat B' hqs' h1 h2 h3 S
    have hln' := B'.len
    rw [pr_len] at hln'
    dsimp only
    refine wpAny_execs_nil ?_
    exact ⟨2 * (n - hs'.length) + q'.length, by simp only [List.length_cons]; omega, hs', q', qs', some (.int u tu), some (.int ((d + 1 : Nat) : Int) t), vv, vat, B', rfl, hqs', h2, by simp only [F493] at S ⊢; wtm_at "fin"⟩

section
variable {c : Cx} {A : Around} {E : Value → Shared → Prop} {P R R1 R2 : List HP} {s : Shared} {l : Addr} {vs : List Value} {v : Value} {x dx : Addr} {kvs : List (Str × Value)}
theorem l_mul1 {k : Int} {t : Tok} {Q : Value → Shared → Prop} (S : St c P s) (tk : Take (lst l [v]) P R) (h0 : 0 ≤ k) (h1 : k ≤ 100000) (h : ∀ s' a, St c (lst a (List.replicate k.toNat v) :: P) s' → Q (.ref a) s') : wpAny c.M A (binaryOp .Mult (.ref l) (.int k t)) Q E s := by
  obtain ⟨n, hl⟩ := S.get tk
  refine wpAny_binaryOp_repeat_ref (T := "list") (U := "int") (by decide) ⟨_, hl, rfl⟩ (fun s' => typeIs_int s' k t) noFill_list_mul PySem.F.fills_int_mul PySem.F.slot_int_rmul repeat_list PySem.F.slot_int_index.lookup
    (call_meets PySem.F.slot_int_rmul (typeIs_int s k t) PySem.F.entry_int_rmul (PySem.F.args_int_rmul_2 _ _) (int___rmul___int_list k t l _ n)
      ⟨hl, rfl, ⟨_, hl, rfl⟩, call_meets PySem.F.slot_list_mul ⟨_, hl, rfl⟩ PySem.F.entry_list_mul (PySem.F.args_list_mul_2 _ _)
        (AutoListH.list___mul___list_int_3 l _ n k t (by simp [Builtin.List.listFitsIndex]; omega) (by have h1 : (#[v] : Array Value).size = 1 := rfl; rw [h1]; omega) (by simp [Builtin.List.listTooLong, sizeLine]; omega))
        ⟨hl, h _ _ (S.alloc rfl ⟨0, one_self.trans (congrArg some ?_)⟩)⟩⟩)
  have : ∀ m, List.foldl (fun x1 x2 => x1 ++ x2) (#[] : Array Value) (List.replicate m #[v]) = (List.replicate m v).toArray := by
    intro m
    have g : ∀ m (a : Array Value), List.foldl (fun x1 x2 => x1 ++ x2) a (List.replicate m #[v]) = a ++ (List.replicate m v).toArray := by
      intro m
      induction m with
      | zero => intro a; simp
      | succ m ih => intro a; rw [List.replicate_succ, List.foldl_cons, ih, List.replicate_succ]; apply Array.toList_inj.mp; simp
    rw [g]; simp
  simp only [List.size_toArray, List.length_singleton, Array.isEmpty]
  simp [this]
theorem l_neg {t : Tok} {k : Int} {Q : Value → Shared → Prop} (S : St c P s) (tk : Take (lst l vs) P R) (h0 : k = -1) (hx : vs[vs.length - 1]? = some v) (h : Q v s) (hz : vs.length ≤ 100000) : wpAny c.M A (getItem (.ref l) (.int k t)) Q E s := by
  subst h0
  have hl := lst_isList (S.get tk)
  have hp : 0 < vs.length := by
    rcases vs with _ | ⟨a, r⟩
    · simp at hx
    · simp
  refine wpAny_getItem_list_neg hl (by decide) (by simp; omega) (by decide) ?_ h
  have : ((-1 : Int) + (vs.toArray.size : Int)).toNat = vs.length - 1 := by simp; omega
  rw [this]; simpa using hx
theorem lenG {Q : Value → Shared → Prop} (S : St c P s) (t1 : Take (pt x (instObj 420 dx)) P R1) (t2 : Take (dS c dx kvs) P R2)
    (h : codeAny c.M A.in1 (.call (.ref 210) ⟨[.ref x], []⟩) (fun r s' => match r with | .ok (.ret (.int n t)) => (0 ≤ n ∧ n < 2 ^ 63) ∧ (∀ t, Q (.int n t) { s' with toks := s'.toks + 1 }) | _ => False) s) : wpAny c.M A (call (.builtin "len") [.ref x]) Q E s := by
  obtain ⟨od, I, hl⟩ := inst_at S t1 t2
  refine Calls.call_function_entry kind_len plain_len entry_len (args_len1 _) ?_
  unfold Builtin.«len»
  refine wpAny_bind (m := oneArg "len" _) (wpAny_pure ?_)
  refine wpAny_bind (m := callSpecial? (.ref x) (Str.ofString "__len__")) (special_fn S.K I (gs_len c.w.params).1 (beq_iff_eq.mp (gs_len c.w.params).2.1) (wpAny_call (codeAny_mono h fun r s' hr => ?_)))
  rcases r with e | (_ | _ | _ | v) <;> first | exact hr.elim | skip
  cases v <;> first | exact hr.elim | skip
  rename_i n u
  obtain ⟨⟨h0, h1⟩, hq⟩ := hr
  refine wpAny_bind (wpAny_holding (wpAny_pure ?_))
  refine wpAny_bind (wpAny_letGo ?_)
  show wpAny _ _ (if n < 0 then _ else _) _ _ _
  rw [if_neg (by omega)]
  show wpAny _ _ (if n ≥ 2 ^ 63 then _ else _) _ _ _
  rw [if_neg (by omega)]
  exact wpAny_bind (wpAny_mkInt (wpAny_pure ⟨_, rfl, hq _⟩))
theorem gm_pop {pl : Sem Bool} {Q : Value × List Value → Shared → Prop} (S : St c P s) (t : Take (lst l vs) P R) (h : Q (.builtin "list.pop", [.ref l]) s) : wpAny c.M A (getMethod (.ref l) "pop" pl) Q E s := by
  obtain ⟨n, hl⟩ := lst_isL (S.get t)
  exact getMethod_builtin ⟨_, hl, rfl⟩ PySem.F.plainAttrs_list PySem.F.slot_list_pop PySem.F.type_list_pop (fun b e => by cases e; exact ⟨_, hl, rfl⟩) h
theorem l_pop {Q : Value → Shared → Prop} (S : St c P s) (t : Take (lst l vs) P R) (hz : vs.length ≤ 100000) (hv : vs[vs.length - 1]? = some v) (h : ∀ s', St c (lst l vs.dropLast :: R) s' → Q v s') : wpAny c.M A (call (.builtin "list.pop") [.ref l]) Q E s := by
  have S' := S.take t
  obtain ⟨n, hl⟩ := lst_isL S'.get0
  refine call_meets PySem.F.slot_list_pop ⟨_, hl, rfl⟩ PySem.F.entry_list_pop (PySem.F.args_list_pop_1 _) (PySem.MeetsSeq.list_pop_last l vs.toArray n v (by simpa using hv) (by rw [List.size_toArray, sizeLine_eq]; omega)) ⟨hl, h _ (S'.upd lst_owns (fun b hb => Heap.get?_update_ne _ _ _ _ hb) ?_)⟩
  have := IsL.update (n := n) hl (fun xs => xs.eraseIdxIfInBounds (vs.toArray.size - 1))
  have e : vs.toArray.eraseIdxIfInBounds (vs.toArray.size - 1) = vs.dropLast.toArray := by
    apply Array.toList_inj.mp
    have hp : 0 < vs.length := by
      rcases vs with _ | ⟨a, r⟩
      · simp at hv
      · simp
    rw [Array.toList_eraseIdxIfInBounds]
    simp [List.eraseIdx_length_sub_one]
  rw [e] at this
  exact ⟨_, one_self.trans this⟩
end

/-! lists of ints -/
def IntsOf (vs : List Value) (xs : List Int) : Prop := vs.length = xs.length ∧ ∀ (i : Nat) (x : Int), xs[i]? = some x → ∃ t : Tok, vs[i]? = some (Value.int x t)
def li (a : Addr) (xs : List Int) : HP := fun D => ∃ vs, IntsOf vs xs ∧ lst a vs D
instance {a xs} : Up (li a xs) := ⟨fun _ _ s ⟨vs, h, q⟩ => ⟨vs, h, Up.up _ _ s q⟩⟩
theorem IntsOf.set {vs : List Value} {xs : List Int} (h : IntsOf vs xs) (i : Nat) (x : Int) (t : Tok) : IntsOf (vs.set i (.int x t)) (xs.set i x) := by
  refine ⟨by simp [h.1], fun j y hy => ?_⟩
  rw [List.getElem?_set] at hy ⊢
  by_cases e : i = j
  · subst e
    simp only [if_true] at hy ⊢
    split at hy
    · rename_i hl
      rw [if_pos (by rw [h.1]; exact hl)]
      cases hy; exact ⟨t, rfl⟩
    · cases hy
  · simp only [e, if_false] at hy ⊢
    exact h.2 j y hy
theorem IntsOf.rep (k : Nat) (x : Int) (t : Tok) : IntsOf (List.replicate k (.int x t)) (List.replicate k x) := by
  refine ⟨by simp, fun j y hy => ?_⟩
  rw [List.getElem?_replicate] at hy ⊢
  split at hy
  · rename_i hl; rw [if_pos hl]; cases hy; exact ⟨t, rfl⟩
  · cases hy
theorem IntsOf.push {vs : List Value} {xs : List Int} (h : IntsOf vs xs) (x : Int) (t : Tok) : IntsOf (vs ++ [.int x t]) (xs ++ [x]) := by
  refine ⟨by simp [h.1], fun j y hy => ?_⟩
  by_cases hl : j < xs.length
  · rw [List.getElem?_append_left hl] at hy
    rw [List.getElem?_append_left (by rw [h.1]; exact hl)]
    exact h.2 j y hy
  · rw [List.getElem?_append_right (by omega)] at hy
    rw [List.getElem?_append_right (by rw [h.1]; omega), h.1]
    have : j - xs.length = 0 := by
      have := (List.getElem?_eq_some_iff.mp hy).1
      simp at this; omega
    rw [this] at hy ⊢
    cases hy; exact ⟨t, rfl⟩
theorem St.openLi {c : Cx} {P R : List HP} {s : Shared} {a : Addr} {xs : List Int} (S : St c P s) (t : Take (li a xs) P R) : ∃ vs, IntsOf vs xs ∧ St c (lst a vs :: R) s := by
  obtain ⟨⟨vs, h⟩, S⟩ := (S.take t).ofHead (f := fun p : { vs // IntsOf vs xs } => lst a p.1) (fun D ⟨vs, h, q⟩ => ⟨⟨vs, h⟩, q⟩)
  exact ⟨vs, h, S⟩
section
variable {c : Cx} {A : Around} {E : Value → Shared → Prop} {P R : List HP} {s : Shared} {l : Addr} {xs : List Int} {i : Nat} {x y : Int} {t : Tok}
theorem li_get {k : Int} {Q : Value → Shared → Prop} (S : St c P s) (tk : Take (li l xs) P R) (hk : k = (i : Nat)) (hx : xs[i]? = some x) (hz : i < 100000) (h : ∀ t, Q (.int x t) s) : wpAny c.M A (getItem (.ref l) (.int k t)) Q E s := by
  obtain ⟨vs, hv, S1⟩ := S.openLi tk
  obtain ⟨tv, hv⟩ := hv.2 i x hx
  subst hk
  exact l_get (vs := vs) S1 .head (by omega) (by omega) (by simpa using hv) (h tv)
theorem li_sub {k : Int} {value slice : Expr} {Q : Value → Shared → Prop} (S : St c P s) (tk : Take (li l xs) P R) (hk : k = (i : Nat)) (hx : xs[i]? = some x) (hz : i < 100000) (h : ∀ t, Q (.int x t) s)
    (hs : subscripted slice false (.ref l) (.int k t) = operate [.ref l, .int k t] (getItem (.ref l) (.int k t)) := by with_unfolding_all rfl) : wpAny c.M A (subscriptTail value slice (.ref l) (.int k t)) Q E s := by
  obtain ⟨vs, hv, S1⟩ := S.openLi tk
  obtain ⟨tv, hv⟩ := hv.2 i x hx
  subst hk
  exact l_sub (vs := vs) S1 .head (by omega) (by omega) (by simpa using hv) (h tv) hs
theorem li_set {k : Int} {u : Tok} {Q : Unit → Shared → Prop} (S : St c P s) (tk : Take (li l xs) P R) (hk : k = (i : Nat)) (hi : i < xs.length) (hz : i < 100000) (h : ∀ s', St c (li l (xs.set i y) :: R) s' → Q () s') : wpAny c.M A (setItem (.ref l) (.int k t) (.int y u)) Q E s := by
  obtain ⟨vs, hv, S1⟩ := S.openLi tk
  subst hk
  exact l_set (vs := vs) S1 .head (by omega) (by have := hv.1; omega) (by omega) fun s' S2 => h s' (S2.head_mono fun D hD => ⟨_, hv.set i y u, by simpa using hD⟩)
theorem li_new {v : Value} {k : Int} {Q : Value → Shared → Prop} (S : St c P s) (tk : Take (lst l [.int x t]) P R) (h0 : 0 ≤ k) (h1 : k ≤ 100000) {u : Tok} (h : ∀ s' a, St c (li a (List.replicate k.toNat x) :: P) s' → Q (.ref a) s') : wpAny c.M A (binaryOp .Mult (.ref l) (.int k u)) Q E s :=
  l_mul1 S tk h0 h1 fun s' a S' => h s' a (S'.head_mono fun D hD => ⟨_, IntsOf.rep _ _ _, hD⟩)
end
/-! CurrentEdge objects, one for each node -/
def ceR (c : Cx) (x ed : Addr) (kvs : List (Int × Value)) (ep i : Nat) : HP := fun D => (kvs = [] ∧ ∃ dx, all [pt x (slO dx #[none, some (.ref ed)]), dS c dx []] D) ∨
  ∃ dx tc it key k0 v0, kvs[i]? = some (k0, v0) ∧ (intKind Pg c.w).is k0 key = true ∧ all [pt x (slO dx (ceSl tc ed it)), dS c dx [], gIt it ed (i + 1) kvs.length ep, tup tc [key, v0]] D
def nR (c : Cx) (a : Addr) (hv : Nat) (ce : Addr) : HP := fun D => ∃ t, dS c a [("height", .int (hv : Nat) t), ("curr_edge", .ref ce)] D
theorem St.openN {c : Cx} {P R : List HP} {s : Shared} {a ce : Addr} {hv : Nat} (S : St c P s) (t : Take (nR c a hv ce) P R) : ∃ t1, St c (dS c a [("height", .int (hv : Nat) t1), ("curr_edge", .ref ce)] :: R) s :=
  (S.take t).ofHead fun D ⟨t1, h⟩ => ⟨t1, h⟩
theorem St.openCe {c : Cx} {P R : List HP} {s : Shared} {x ed : Addr} {kvs : List (Int × Value)} {ep i : Nat} (S : St c P s) (t : Take (ceR c x ed kvs ep i) P R) (hne : kvs ≠ []) :
    ∃ dx tc it key k0 v0, kvs[i]? = some (k0, v0) ∧ (intKind Pg c.w).is k0 key = true ∧ St c (pt x (slO dx (ceSl tc ed it)) :: dS c dx [] :: gIt it ed (i + 1) kvs.length ep :: tup tc [key, v0] :: R) s := by
  have S1 := S.take t
  obtain ⟨d, h1, h2, h3, d1, d2, g1, g2, g3, g4, g5⟩ := S1.own
  rcases g4 with ⟨e, _⟩ | ⟨dx, tc, it, key, k0, v0, q1, q2, q3⟩
  · exact absurd e hne
  · have S2 : St c (all [pt x (slO dx (ceSl tc ed it)), dS c dx [], gIt it ed (i + 1) kvs.length ep, tup tc [key, v0]] :: R) s := ⟨S1.keep, ⟨d, h1, h2, h3, d1, d2, g1, g2, g3, q3, g5⟩, S1.os, S1.gens⟩
    exact ⟨dx, tc, it, key, k0, v0, q1, q2, S2.flat⟩
theorem St.closeCe {c : Cx} {R : List HP} {s : Shared} {x ed dx tc it : Addr} {kvs : List (Int × Value)} {ep i : Nat} {key v0 : Value} {k0 : Int} (S : St c (pt x (slO dx (ceSl tc ed it)) :: dS c dx [] :: gIt it ed (i + 1) kvs.length ep :: tup tc [key, v0] :: R) s)
    (h : kvs[i]? = some (k0, v0)) (hk : (intKind Pg c.w).is k0 key = true) : St c (ceR c x ed kvs ep i :: R) s :=
  (St.unflat (l := [pt x (slO dx (ceSl tc ed it)), dS c dx [], gIt it ed (i + 1) kvs.length ep, tup tc [key, v0]]) S).head_mono fun D hD => .inr ⟨dx, tc, it, key, k0, v0, h, hk, hD⟩
/-- the epochs of a family of dicts -/
theorem St.famEp {c : Cx} {s : Shared} {f : Nat → Addr} {g : Nat → List (Int × Value)} : ∀ {l : List Nat} {R : List HP}, l.Nodup → St c (fam l (fun i => dI c (f i) (g i)) :: R) s → ∃ eps : Nat → Nat, St c (fam l (fun i => dAt c (intKind Pg c.w) (f i) (g i) (eps i)) :: R) s
  | [], R, _, S => ⟨fun _ => 0, S⟩
  | x :: l, R, hn, S => by
    rw [List.nodup_cons] at hn
    have S1 := S.uncons
    obtain ⟨ep, S2⟩ := S1.fixEp .head
    have S3 : St c (fam l (fun i => dI c (f i) (g i)) :: dAt c (intKind Pg c.w) (f x) (g x) ep :: R) s := S2.mono fun _ => Sat.swap
    obtain ⟨eps, S4⟩ := St.famEp hn.2 S3
    refine ⟨fun i => if i = x then ep else eps i, ?_⟩
    have S5 : St c (dAt c (intKind Pg c.w) (f x) (g x) ep :: fam l (fun i => dAt c (intKind Pg c.w) (f i) (g i) (eps i)) :: R) s := S4.mono fun _ => Sat.swap
    refine S5.mono fun d hd => Sat.consFam (f := fun i => dAt c (intKind Pg c.w) (f i) (g i) (if i = x then ep else eps i)) (u := x) ?_
    rw [if_pos rfl, fam_congr (l := l) (f := fun i => dAt c (intKind Pg c.w) (f i) (g i) (if i = x then ep else eps i)) (g := fun i => dAt c (intKind Pg c.w) (f i) (g i) (eps i)) fun i hi => by rw [if_neg (fun e : i = x => hn.1 (by rw [← e]; exact hi))]]
    exact hd
theorem hk_val {n u : Nat} : ∀ {hs : List HTok}, u ∈ (pr hs).map (·.1) → ∃ t, valueAt (hk hs) (u : Int) = some (.int ((hOf n (pr hs) u : Nat) : Int) t)
  | [], h => by simp [pr] at h
  | (x, d, t) :: r, h => by
    by_cases e : u = x
    · subst e
      exact ⟨t, by simp [valueAt, hk, hOf, pr]⟩
    · have h' : u ∈ (pr r).map (·.1) := by simpa [pr, e] using h
      obtain ⟨t', ht⟩ := hk_val h'
      refine ⟨t', ?_⟩
      have e1 : valueAt (hk ((x, d, t) :: r)) (u : Int) = valueAt (hk r) (u : Int) := by
        have : ¬ ((x : Int) = u) := by omega
        simp [valueAt, hk, this]
      have e2 : hOf n (pr ((x, d, t) :: r)) u = hOf n (pr r) u := by
        have : (u == x) = false := by simpa using e
        simp [hOf, pr, List.lookup_cons, this]
      rw [e1, e2]; exact ht
theorem hOf_no {n u : Nat} {hs : List (Nat × Nat)} (h : u ∉ hs.map (·.1)) : hOf n hs u = n := by
  unfold hOf
  have : hs.lookup u = none := by
    rw [List.lookup_eq_none_iff]
    intro p hp
    rw [bne_iff_ne]
    rintro rfl
    exact h (List.mem_map.mpr ⟨p, hp, rfl⟩)
  rw [this]; rfl
theorem IntsOf.dropLast {vs : List Value} {xs : List Int} (h : IntsOf vs xs) : IntsOf vs.dropLast xs.dropLast := by
  refine ⟨by simp [h.1], fun j y hy => ?_⟩
  have hl := (List.getElem?_eq_some_iff.mp hy).1
  rw [List.length_dropLast] at hl
  rw [List.dropLast_eq_take, List.getElem?_take_of_lt (by have := h.1; omega)]
  rw [List.dropLast_eq_take, List.getElem?_take_of_lt (by omega)] at hy
  exact h.2 j y hy
section
variable {c : Cx} {A : Around} {E : Value → Shared → Prop} {P R : List HP} {s : Shared} {l : Addr} {xs : List Int} {x : Int} {t : Tok}
theorem gm_popI {pl : Sem Bool} {Q : Value × List Value → Shared → Prop} (S : St c P s) (t : Take (li l xs) P R) (h : Q (.builtin "list.pop", [.ref l]) s) : wpAny c.M A (getMethod (.ref l) "pop" pl) Q E s := by
  obtain ⟨vs, hv, S1⟩ := S.openLi t
  exact gm_pop S1 .head h
theorem gm_appI {pl : Sem Bool} {Q : Value × List Value → Shared → Prop} (S : St c P s) (t : Take (li l xs) P R) (h : Q (.builtin "list.append", [.ref l]) s) : wpAny c.M A (getMethod (.ref l) "append" pl) Q E s := by
  obtain ⟨vs, hv, S1⟩ := S.openLi t
  exact gm_append S1 .head h
theorem li_pop {Q : Value → Shared → Prop} (S : St c P s) (tk : Take (li l xs) P R) (hz : xs.length ≤ 100000) (hx : xs[xs.length - 1]? = some x) (h : ∀ s' t, St c (li l xs.dropLast :: R) s' → Q (.int x t) s') : wpAny c.M A (call (.builtin "list.pop") [.ref l]) Q E s := by
  obtain ⟨vs, hv, S1⟩ := S.openLi tk
  obtain ⟨tv, hv2⟩ := hv.2 _ x hx
  exact l_pop (vs := vs) S1 .head (by have := hv.1; omega) (by rw [hv.1]; exact hv2) fun s' S2 => h s' tv (S2.head_mono fun D hD => ⟨_, hv.dropLast, hD⟩)
theorem li_neg {Q : Value → Shared → Prop} (S : St c P s) (tk : Take (li l xs) P R) (hz : xs.length ≤ 100000) (hx : xs[xs.length - 1]? = some x) (h : ∀ t, Q (.int x t) s) : wpAny c.M A (getItem (.ref l) (.int (-1) t)) Q E s := by
  obtain ⟨vs, hv, S1⟩ := S.openLi tk
  obtain ⟨tv, hv2⟩ := hv.2 _ x hx
  exact l_neg (vs := vs) S1 .head rfl (by rw [hv.1]; exact hv2) (h tv) (by have := hv.1; omega)
theorem li_app {u : Tok} {Q : Value → Shared → Prop} (S : St c P s) (tk : Take (li l xs) P R) (hz : xs.length ≤ 100000) (h : ∀ s', St c (li l (xs ++ [x]) :: R) s' → Q .none s') : wpAny c.M A (call (.builtin "list.append") [.ref l, .int x u]) Q E s := by
  obtain ⟨vs, hv, S1⟩ := S.openLi tk
  exact l_append (vs := vs) S1 .head (by have := hv.1; omega) fun s' S2 => h s' (S2.head_mono fun D hD => ⟨_, hv.push x u, hD⟩)
end
theorem negI {c : Cx} {A : Around} {E : Value → Shared → Prop} {P : List HP} {s : Shared} {a : Int} {t : Tok} {Q : Value → Shared → Prop} (S : St c P s) (h : ∀ s' t, St c P s' → Q (.int (-a) t) s') : wpAny c.M A (unaryOp .USub (.int a t)) Q E s := neg_int (h _ _ S.tok)
theorem li_negsub {c : Cx} {A : Around} {E : Value → Shared → Prop} {P R : List HP} {s : Shared} {l : Addr} {xs : List Int} {x : Int} {t : Tok} {value slice : Expr} {Q : Value → Shared → Prop} (S : St c P s) (tk : Take (li l xs) P R) (hz : xs.length ≤ 100000) (hx : xs[xs.length - 1]? = some x) (h : ∀ t, Q (.int x t) s)
    (hs : subscripted slice false (.ref l) (.int (-1) t) = operate [.ref l, .int (-1) t] (getItem (.ref l) (.int (-1) t)) := by with_unfolding_all rfl) : wpAny c.M A (subscriptTail value slice (.ref l) (.int (-1) t)) Q E s := by
  obtain ⟨vs, hv, S1⟩ := S.openLi tk
  obtain ⟨tv, hv2⟩ := hv.2 _ x hx
  exact tail_any (lst_isList (S1.get (X := lst l vs) .head)).typeIs slot_list_getitem.lookup (l_neg (vs := vs) S1 .head rfl (by rw [hv.1]; exact hv2) (h tv) (by have := hv.1; omega)) hs

theorem ce_make {c : Cx} {A : Around} {s : Shared} {P R : List HP} {k : Nat} {x dx ed : Addr} {kvs : List (Int × Value)} {ep : Nat} {Rr : Result → Shared → Prop} (S : St c P s) (rm : Rm A (k + 4)) (hA : A.handled = c.hx) (hz : kvs.length ≤ 1000) (tk : Takes [pt x (slO dx #[]), dS c dx [], dAt c (intKind Pg c.w) ed kvs ep] P R)
    (h : ∀ s', St c (ceR c x ed kvs ep 0 :: dAt c (intKind Pg c.w) ed kvs ep :: R) s' → Rr (.ok (.ret .none)) s') : codeAny c.M A (.call (.ref 437) ⟨[.ref x, .ref ed], []⟩) Rr s := by
  refine ce_init S rm hA hz tk (fun he s' S' => h _ ?_) fun s' tc it key k0 v0 h0 hk S' => h _ ?_
  · have S2 : St c (all [pt x (slO dx #[none, some (.ref ed)]), dS c dx []] :: dAt c (intKind Pg c.w) ed kvs ep :: R) s' := St.unflat (l := [pt x (slO dx #[none, some (.ref ed)]), dS c dx []]) S'
    exact S2.head_mono fun D hD => .inl ⟨he, dx, hD⟩
  · refine St.closeCe (dx := dx) (tc := tc) (it := it) (key := key) (v0 := v0) (k0 := k0) ?_ h0 hk
    wtm_at "fin"
theorem if_eval {c : Cx} {A : Around} {E : Value → Shared → Prop} {P : List HP} {s : Shared} {b : Bool} {e1 e2 : Expr} {env : Env} {K : Value → Shared → Prop} {x : Int} (S : St c P s) (h1 : b = true → ∀ K' : Value → Shared → Prop, (∀ s' t, St c P s' → K' (.int x t) s') → wpAny c.M A (eval e1 env) K' E s)
    (h2 : b = false → ∀ K' : Value → Shared → Prop, (∀ s' t, St c P s' → K' (.int x t) s') → wpAny c.M A (eval e2 env) K' E s) (hk : ∀ s' t, St c P s' → K (.int x t) s') : if b = true then wpAny c.M A (eval e1 env) K E s else wpAny c.M A (eval e2 env) K E s := by
  cases b with
  | true => rw [if_pos rfl]; exact h1 rfl _ hk
  | false => rw [if_neg (by simp)]; exact h2 rfl _ hk
def nodeF (c : Cx) (b : GA) (H : Nat → Nat) (ce : Nat → Addr) (u i : Nat) : HP := if i < u then nR c (b.na i) (H i) (ce i) else dS c (b.na i) []
theorem im_nodes {c : Cx} {A : Around} {s : Shared} {P R : List HP} {k : Nat} {L hd : Addr} {b : GA} {n : Nat} {el : List (Nat × Nat)} {hs : List HTok} {gat : List (Str × Value)} {eps : Nat → Nat} {tn : Tok} {vG vs vt vcap vres vtp vcut vRp vu ve vq vht vv vat vcn vau vre vfv vpa vd vdo vce : Option Value} {Q : Flow → Shared → Prop}
    (S : St c P s) (rm : Rm A (k + 20)) (hh : A.handled = none) (hA : A.handled = c.hx) (hn : n ≤ 100) (hfew : el.length ≤ 1000)
    (tk : Takes (frm L (F493 vG vs vt vcap vres vtp vcut (some (.ref b.g)) vRp vu ve (some (.ref hd)) vq vht vv vat vcn vau vre vfv vpa vd vdo vce) :: cel (L + 1) (some (.ref b.nd)) :: cel (L + 2) (some (.ref b.ad)) :: cel (L + 4) (some (.int n tn)) :: dI c hd (hk hs) :: (gBase c b n gat ++ [fam (List.range n) fun i => dS c (b.na i) [], fam (List.range n) fun i => dAt c (intKind Pg c.w) (b.aa i) (succE el b.ea i) (eps i)])) P R)
    (h : ∀ (s' : Shared) (ce : Nat → Addr) (vu : Option Value), St c (frm L (F493 vG vs vt vcap vres vtp vcut (some (.ref b.g)) vRp vu ve (some (.ref hd)) vq vht vv vat vcn vau vre vfv vpa vd vdo vce) :: cel (L + 1) (some (.ref b.nd)) :: cel (L + 2) (some (.ref b.ad)) :: cel (L + 4) (some (.int n tn)) :: (gBase c b n gat ++ (fam (List.range n) (fun i => nR c (b.na i) (hOf n (pr hs) i) (ce i)) :: fam (List.range n) (fun i => dAt c (intKind Pg c.w) (b.aa i) (succE el b.ea i) (eps i)) :: fam (List.range n) (fun i => ceR c (ce i) (b.aa i) (succE el b.ea i) (eps i) 0) :: R))) s' → Q .next s') :
    wpAny c.M A (exec (stAt d493.1.body 13) (env493 L)) Q NoE s := by
  dsimp only [d493, stAt, List.drop]
  replace S := S.takes tk
  clear tk
  simp only [F493, gBase, List.cons_append, List.nil_append] at S
  refine wpAny_For ?_
  wtm_at "w"
  refine' iterGb (k := k) S (rm.le (by omega)) ?zz1 ?zz2 ?_
  case zz1 => wtm_at "takes"
  case zz2 => wtm_at "at"
  clear S; intro s it ep S
  refine' for_rule (Ex := fun _ _ => []) (idx_walk (it := it) (nd := b.nd) (n := n) (ep := ep) (na := b.na) hh) (fun u P' => ∃ (ce : Nat → Addr) (vu : Option Value), P' = frm L (F493 vG vs vt vcap vres vtp vcut (some (.ref b.g)) vRp vu ve (some (.ref hd)) vq vht vv vat vcn vau vre vfv vpa vd vdo vce) :: cel (L + 1) (some (.ref b.nd)) :: cel (L + 2) (some (.ref b.ad)) :: cel (L + 4) (some (.int n tn)) :: dI c hd (hk hs) :: pt b.g (instObj 420 b.dx) :: dS c b.dx [("_pred", .ref b.pd), ("graph", .ref b.gd), ("_node", .ref b.nd), ("_adj", .ref b.ad)] :: dS c b.gd gat :: dI c b.ad (idx n b.aa) :: dI c b.pd (idx n b.pa) ::
      fam (List.range n) (nodeF c b (hOf n (pr hs)) ce u) :: fam (List.range n) (fun i => dAt c (intKind Pg c.w) (b.aa i) (succE el b.ea i) (eps i)) :: fam (List.range u) (fun i => ceR c (ce i) (b.aa i) (succE el b.ea i) (eps i) 0) :: R)
    (St.cov (S.emp (ι := Nat) (fun i => ceR c 0 (b.aa i) (succE el b.ea i) (eps i) 0)) ?zzm) ⟨fun _ => 0, vu, rfl⟩ ?_ ?_ ?_
  case zzm =>
    have e0 : nodeF c b (hOf n (pr hs)) (fun _ => 0) 0 = fun i => dS c (b.na i) [] := by
      funext i; unfold nodeF; rw [if_neg (Nat.not_lt_zero _)]
    rw [e0, List.range_zero]
    wtm_at "cov"
  · intro i v P' s hv S Q hq
    exact own_name (hq _ S)
  · clear S vu h
    rintro u hu _ s v ⟨ce, vu, rfl⟩ ⟨tu, rfl⟩ S
    simp only [F493, List.cons_append, List.nil_append] at S
    have S2 := S.take (X := nodeF c b (hOf n (pr hs)) ce u u) (by wtm_at "take")
    rw [show nodeF c b (hOf n (pr hs)) ce u u = dS c (b.na u) [] from if_neg (Nat.lt_irrefl _)] at S2
    clear S
    have S := S2
    clear S2
    wtm_at "ws"
    refine if_eval (x := ((hOf n (pr hs) u : Nat) : Int)) S ?_ ?_ ?_
    · intro hb K hK
      rw [hk_isSome] at hb
      obtain ⟨th, hv⟩ := hk_val (n := n) (of_decide_eq_true hb)
      wtm_at "ws"
      exact hK _ _ S
    · intro hb K hK
      rw [hk_isSome] at hb
      have hno := hOf_no (n := n) (of_decide_eq_false hb)
      wtm_at "ws"
      rw [hno] at hK
      exact hK _ _ S
    clear S; intro s th S
    wtm_at "ws"
    rw [stored_nil] at S
    refine wpAny_call (call_cls (fI := 437) (k := k + 8) S (rm.le (by omega)) (by exact rfl) (by kernel_rfl) (by kernel_rfl) ?_)
    clear S; intro B s x dx rmB hhB S
    rw [slO_nil] at S
    have hz : (succE el b.ea u).length ≤ 1000 := Nat.le_trans succE_length hfew
    refine' ce_make (k := k) (kvs := succE el b.ea u) (ed := b.aa u) (ep := eps u) S (rmB.le (by omega)) (hhB.trans hA) hz ?zz3 ?_
    case zz3 => wtm_at "takes"
    clear S; intro s S
    refine ⟨rfl, ?_⟩
    dsimp only
    wtm_at "ws"
    refine ⟨_, ⟨fun i => if i = u then x else ce i, some (.int u tu), rfl⟩, ?_⟩
    have S2 := (S.take (X := dS c (b.na u) (stored [("height", .int ((hOf n (pr hs) u : Nat) : Int) th)] "curr_edge" (.ref x))) (by wtm_at "take")).head_mono (X' := nR c (b.na u) (hOf n (pr hs) u) x) fun D hD => ⟨th, hD⟩
    clear S
    have S3 := S2.shutX (l := List.range n) (f := nodeF c b (hOf n (pr hs)) ce u) (u := u) (X := nR c (b.na u) (hOf n (pr hs) u) x) (nodeF c b (hOf n (pr hs)) (fun i => if i = u then x else ce i) (u + 1)) (by wtm_at "take") (by wtm_at "take")
      (by unfold nodeF; rw [if_pos (Nat.lt_succ_self u)]; simp) (mem_range hu) List.nodup_range (fun i _ hi => by
        unfold nodeF
        by_cases hlt : i < u
        · rw [if_pos hlt, if_pos (Nat.lt_succ_of_lt hlt)]; simp [hi]
        · rw [if_neg hlt, if_neg (by omega)])
    clear S2
    have S4 := S3.shutS (l := List.range n) (f := fun i => dAt c (intKind Pg c.w) (b.aa i) (succE el b.ea i) (eps i)) (u := u) (by wtm_at "take") (by wtm_at "take") (mem_range hu)
    clear S3
    have S5 := S4.growP (n := u) (f := fun i => ceR c (ce i) (b.aa i) (succE el b.ea i) (eps i) 0) (X := ceR c x (b.aa u) (succE el b.ea u) (eps u) 0) (by wtm_at "take") (by wtm_at "take") (fun i => ceR c (if i = u then x else ce i) (b.aa i) (succE el b.ea i) (eps i) 0) (by simp) (fun i hi => by rw [if_neg (by omega)])
    clear S4
    wtm_at "fin"
  · rintro _ s ⟨ce, vu, rfl⟩ S
    have e1 : fam (List.range n) (nodeF c b (hOf n (pr hs)) ce n) = fam (List.range n) (fun i => nR c (b.na i) (hOf n (pr hs) i) (ce i)) := by
      refine fam_congr fun i hi => ?_
      unfold nodeF; rw [if_pos (List.mem_range.mp hi)]
    rw [e1] at S
    simp only [F493, List.cons_append, List.nil_append] at S
    refine' h _ ce vu ?zzk
    case zzk =>
      simp only [gBase, F493, List.cons_append, List.nil_append]
      wtm_at "fin"

theorem im_counts {c : Cx} {A : Around} {s : Shared} {P R : List HP} {k : Nat} {L ca : Addr} {b : GA} {n m : Nat} {H : Nat → Nat} {ce : Nat → Addr} {gat : List (Str × Value)} {vG vs vt vcap vres vtp vcut vRp vu ve vhs vq vht vv vat vau vre vfv vpa vd vdo vce : Option Value} {Q : Flow → Shared → Prop}
    (S : St c P s) (rm : Rm A (k + 8)) (hh : A.handled = none) (hA : A.handled = c.hx) (hn : n ≤ 100) (hm : m ≤ 1000) (hH : ∀ i < n, H i < m)
    (tk : Takes (frm L (F493 vG vs vt vcap vres vtp vcut (some (.ref b.g)) vRp vu ve vhs vq vht vv vat (some (.ref ca)) vau vre vfv vpa vd vdo vce) :: cel (L + 1) (some (.ref b.nd)) :: li ca (List.replicate m 0) :: (gBase c b n gat ++ [fam (List.range n) fun i => nR c (b.na i) (H i) (ce i)])) P R)
    (h : ∀ (s' : Shared) (vu : Option Value), St c (frm L (F493 vG vs vt vcap vres vtp vcut (some (.ref b.g)) vRp vu ve vhs vq vht vv vat (some (.ref ca)) vau vre vfv vpa vd vdo vce) :: cel (L + 1) (some (.ref b.nd)) :: li ca (cL H n m) :: (gBase c b n gat ++ (fam (List.range n) (fun i => nR c (b.na i) (H i) (ce i)) :: R))) s' → Q .next s') :
    wpAny c.M A (exec (stAt d493.1.body 15) (env493 L)) Q NoE s := by
  dsimp only [d493, stAt, List.drop]
  replace S := S.takes tk
  clear tk
  simp only [F493, gBase, List.cons_append, List.nil_append] at S
  refine wpAny_For ?_
  wtm_at "w"
  refine' iterGb (k := k) S (rm.le (by omega)) ?zz1 ?zz2 ?_
  case zz1 => wtm_at "takes"
  case zz2 => wtm_at "at"
  clear S; intro s it ep S
  refine' for_rule (Ex := fun _ _ => []) (idx_walk (it := it) (nd := b.nd) (n := n) (ep := ep) (na := b.na) hh) (fun u P' => ∃ (vu : Option Value), P' = frm L (F493 vG vs vt vcap vres vtp vcut (some (.ref b.g)) vRp vu ve vhs vq vht vv vat (some (.ref ca)) vau vre vfv vpa vd vdo vce) :: cel (L + 1) (some (.ref b.nd)) :: li ca (cL H u m) :: pt b.g (instObj 420 b.dx) :: dS c b.dx [("_pred", .ref b.pd), ("graph", .ref b.gd), ("_node", .ref b.nd), ("_adj", .ref b.ad)] :: dS c b.gd gat :: dI c b.ad (idx n b.aa) :: dI c b.pd (idx n b.pa) ::
      fam (List.range n) (fun i => nR c (b.na i) (H i) (ce i)) :: R)
    (S.cov ?zzm) ⟨vu, rfl⟩ ?_ ?_ ?_
  case zzm => rw [cL_zero]; wtm_at "cov"
  · intro i v P' s hv S Q hq
    exact own_name (hq _ S)
  · clear S vu h
    rintro u hu _ s v ⟨vu, rfl⟩ ⟨tu, rfl⟩ S
    simp only [F493, List.cons_append, List.nil_append] at S
    obtain ⟨th, S2⟩ := S.openN (a := b.na u) (hv := H u) (ce := ce u) (by wtm_at "take")
    clear S
    have S := S2
    clear S2
    wtm_at "ws"
    have hHu := hH u hu
    refine' li_get (i := H u) (xs := cL H u m) (x := cnt H u (H u)) S ?zz3 rfl (cL_get hHu) (by omega) ?_
    case zz3 => wtm_at "take"
    intro tc
    wtm_at "ws"
    refine' li_set (i := H u) (xs := cL H u m) S ?zz4 rfl (by rw [cL_len]; exact hHu) (by omega) ?_
    case zz4 => wtm_at "take"
    clear S; intro s S
    rw [cL_succ] at S
    wtm_at "ws"
    refine ⟨_, ⟨some (.int u tu), rfl⟩, ?_⟩
    have S2 := S.backX (l := List.range n) (f := fun i => nR c (b.na i) (H i) (ce i)) (u := u) (X := dS c (b.na u) [("height", .int ((H u : Nat) : Int) th), ("curr_edge", .ref (ce u))]) (by wtm_at "take") (by wtm_at "take") (fun D hD => ⟨th, hD⟩) (mem_range hu)
    clear S
    wtm_at "fin"
  · rintro _ s ⟨vu, rfl⟩ S
    simp only [F493, List.cons_append, List.nil_append] at S
    refine' h _ vu ?zzk
    case zzk =>
      simp only [gBase, F493, List.cons_append, List.nil_append]
      wtm_at "fin"

theorem Iter.shift {c : Cx} {A : Around} {it : Value} {n : Nat} {I : Nat → List HP} {V : Nat → Value → Prop} {O : Nat → Value → List HP} {Fin : List HP} (X : Iter c A it n I V O Fin) (hn : 1 ≤ n) : Iter c A it (n - 1) (fun i => I (i + 1)) (fun i => V (i + 1)) (fun i => O (i + 1)) Fin := by
  refine ⟨fun i hi P s Q E S h => X.next (i + 1) (by omega) P s Q E S h, fun P s Q E S h => X.stop P s Q E ?_ h⟩
  have : n - 1 + 1 = n := by omega
  rw [this] at S; exact S
def zp (p : List Nat) : List Int := p.map fun x : Nat => (x : Int)
theorem zp_get {p : List Nat} {i x : Nat} (h : p[i]? = some x) : (zp p)[i]? = some (x : Int) := by unfold zp; rw [List.getElem?_map, h]; rfl
theorem zp_len {p : List Nat} : (zp p).length = p.length := by simp [zp]
abbrev FAug (pa fl it u v at_ : Option Value) : List (Str × Option Value) := [("path", pa), ("flow", fl), ("it", it), ("u", u), ("v", v), ("attr", at_)]
noncomputable abbrev envA (L au c' : Addr) (K : Addr) : Env := envX dAug.qual dAug.scope L au (.ref c') [("inf", K + 3), ("R_succ", K + 2)]
/-- the least room along the path -/
theorem aug_min {c : Cx} {A : Around} {s : Shared} {P R : List HP} {L au c' K pa itA : Addr} {b : GA} {n s0 t0 : Nat} {el : List (Nat × Nat)} {eps : Nat → Nat} {cF f : Nat → Nat → Int} {hgt : Nat → Nat} {p : List Nat} {vs : List Value} {inf : Int} {ti tu : Tok} {vv vat : Option Value} {Q : Flow → Shared → Prop}
    (S : St c P s) (hh : A.handled = none) (hA : A.handled = c.hx) (hn : n ≤ 100) (N : Net n s0 t0 el cF) (PI0 : PI el cF f hgt s0 p t0) (hp2 : 2 ≤ p.length) (hz : p.length ≤ 1000) (hvs : IntsOf vs (zp p)) (hinf : 1 ≤ inf)
    (tk : Takes (frm L (FAug (some (.ref pa)) (some (.int inf ti)) (some (.ref itA)) (some (.int s0 tu)) vv vat) :: lIt itA pa 1 :: lst pa vs :: cel (K + 2) (some (.ref b.ad)) :: dI c b.ad (idx n b.aa) :: fam (List.range n) (fun i => dAt c (intKind Pg c.w) (b.aa i) (succE el b.ea i) (eps i)) :: [fam el fun e => eR c (b.ea e) (cF e.1 e.2) (f e.1 e.2)]) P R)
    (h : ∀ (s' : Shared) (d : Int) (td : Tok) (vu vv vat : Option Value), 1 ≤ d → d ≤ inf → (∀ i x y, p[i]? = some x → p[i + 1]? = some y → d ≤ cF x y - f x y) → St c (frm L (FAug (some (.ref pa)) (some (.int d td)) (some (.ref itA)) vu vv vat) :: lst pa vs :: cel (K + 2) (some (.ref b.ad)) :: dI c b.ad (idx n b.aa) :: fam (List.range n) (fun i => dAt c (intKind Pg c.w) (b.aa i) (succE el b.ea i) (eps i)) :: fam el (fun e => eR c (b.ea e) (cF e.1 e.2) (f e.1 e.2)) :: R) s' → Q .next s') :
    wpAny c.M A (exec (stAt dAug.body 3) (envA L au c' K)) Q NoE s := by
  dsimp only [dAug, fnOf, d493, stAt, List.drop]
  replace S := S.takes tk
  clear tk
  simp only [FAug, List.cons_append, List.nil_append] at S
  have hvl : vs.length = p.length := by rw [hvs.1, zp_len]
  refine wpAny_For ?_
  wtm_at "w"
  refine' l_self (l := pa) (i := 1) S ?zz1 _ _ ?_
  case zz1 => wtm_at "take"
  refine' for_rule (Ex := fun _ _ => []) ((l_walk (it := itA) (l := pa) (vs := vs) hh).shift (by omega)) (fun j P' => ∃ (d : Int) (td tu : Tok) (u : Nat) (vv vat : Option Value), p[j]? = some u ∧ 1 ≤ d ∧ d ≤ inf ∧ (∀ i x y, i < j → p[i]? = some x → p[i + 1]? = some y → d ≤ cF x y - f x y) ∧
      P' = frm L (FAug (some (.ref pa)) (some (.int d td)) (some (.ref itA)) (some (.int u tu)) vv vat) :: cel (K + 2) (some (.ref b.ad)) :: dI c b.ad (idx n b.aa) :: fam (List.range n) (fun i => dAt c (intKind Pg c.w) (b.aa i) (succE el b.ea i) (eps i)) :: fam el (fun e => eR c (b.ea e) (cF e.1 e.2) (f e.1 e.2)) :: R)
      (S.cov ?zz3) ⟨inf, ti, tu, s0, vv, vat, PI0.start, hinf, Int.le_refl _, by intro i x y hi; omega, rfl⟩ ?_ ?_ ?_
  case zz3 => wtm_at "cov"
  · intro i v P' s hv S Q hq
    exact own_name (hq _ S)
  · clear S vv vat
    rintro j hj _ s w ⟨d, td, tu, u, vv, vat, hu, hd1, hd2, hd3, rfl⟩ hw S
    obtain ⟨v, hv⟩ : ∃ v, p[j + 1]? = some v := ⟨_, List.getElem?_eq_getElem (by omega)⟩
    obtain ⟨tv, hv2⟩ := hvs.2 (j + 1) v (zp_get hv)
    rw [hv2] at hw
    cases hw
    obtain ⟨hel, hres, hht⟩ := PI0.chain j u v hu hv
    have hun := (N.lt hel).1
    have hsv : valueAt (succE el b.ea u) (v : Int) = some (.ref (b.ea (u, v))) := by rw [valueAt_succE, if_pos hel]
    simp only [FAug, List.cons_append, List.nil_append] at S
    obtain ⟨c1, c2, S⟩ := S.openE (a := b.ea (u, v)) (cv := cF u v) (fv := f u v) (by wtm_at "take")
    wtm_at "ws"
    refine ⟨_, ⟨if cF u v - f u v < d then cF u v - f u v else d, t, tv, v, some (.int v tv), some (.ref (b.ea (u, v))), hv, by split <;> omega, by split <;> omega, ?_, rfl⟩, ?_⟩
    · intro i x y hi hx hy
      by_cases e : i = j
      · subst e
        rw [hu] at hx; cases hx
        rw [hv] at hy; cases hy
        split <;> omega
      · have := hd3 i x y (by omega) hx hy
        split <;> omega
    have S2 := S.backX (l := el) (f := fun e => eR c (b.ea e) (cF e.1 e.2) (f e.1 e.2)) (u := (u, v)) (X := dS c (b.ea (u, v)) [("capacity", .int (cF u v) c1), ("flow", .int (f u v) c2)]) (by wtm_at "take") (by wtm_at "take") (fun D hD => ⟨_, _, hD⟩) hel
    clear S
    wtm_at "fin"
  · rintro _ s ⟨d, td, tu, u, vv, vat, hu, hd1, hd2, hd3, rfl⟩ S
    simp only [FAug, List.cons_append, List.nil_append] at S
    refine' h _ d td (some (.int u tu)) vv vat hd1 hd2 (fun i x y hx hy => hd3 i x y ?zz5 hx hy) ?zzk
    case zz5 => have := (List.getElem?_eq_some_iff.mp hy).1; omega
    case zzk =>
      simp only [FAug, List.cons_append, List.nil_append]
      wtm_at "fin"

/-- the path's arcs are filled -/
theorem aug_push {c : Cx} {A : Around} {s : Shared} {P R : List HP} {L au c' K pa itA : Addr} {b : GA} {n s0 t0 : Nat} {el : List (Nat × Nat)} {eps : Nat → Nat} {cF f : Nat → Nat → Int} {hgt : Nat → Nat} {p : List Nat} {vs : List Value} {d : Int} {td tu : Tok} {vv vat : Option Value} {Q : Flow → Shared → Prop}
    (S : St c P s) (hh : A.handled = none) (hA : A.handled = c.hx) (hn : n ≤ 100) (N : Net n s0 t0 el cF) (hnd : el.Nodup) (PI0 : PI el cF f hgt s0 p t0) (hp2 : 2 ≤ p.length) (hz : p.length ≤ 1000) (hvs : IntsOf vs (zp p)) (hd : 0 ≤ d) (hds : ∀ i x y, p[i]? = some x → p[i + 1]? = some y → d ≤ cF x y - f x y)
    (J0 : Psh n cF f f hgt s0 p d 0)
    (tk : Takes (frm L (FAug (some (.ref pa)) (some (.int d td)) (some (.ref itA)) (some (.int s0 tu)) vv vat) :: lIt itA pa 1 :: lst pa vs :: cel (K + 2) (some (.ref b.ad)) :: dI c b.ad (idx n b.aa) :: fam (List.range n) (fun i => dAt c (intKind Pg c.w) (b.aa i) (succE el b.ea i) (eps i)) :: [fam el fun e => eR c (b.ea e) (cF e.1 e.2) (f e.1 e.2)]) P R)
    (h : ∀ (s' : Shared) (g : Nat → Nat → Int) (vu vv vat : Option Value), Psh n cF f g hgt s0 p d (p.length - 1) → St c (frm L (FAug (some (.ref pa)) (some (.int d td)) (some (.ref itA)) vu vv vat) :: lst pa vs :: cel (K + 2) (some (.ref b.ad)) :: dI c b.ad (idx n b.aa) :: fam (List.range n) (fun i => dAt c (intKind Pg c.w) (b.aa i) (succE el b.ea i) (eps i)) :: fam el (fun e => eR c (b.ea e) (cF e.1 e.2) (g e.1 e.2)) :: R) s' → Q .next s') :
    wpAny c.M A (exec (stAt dAug.body 7) (envA L au c' K)) Q NoE s := by
  dsimp only [dAug, fnOf, d493, stAt, List.drop]
  replace S := S.takes tk
  clear tk
  simp only [FAug, List.cons_append, List.nil_append] at S
  have hvl : vs.length = p.length := by rw [hvs.1, zp_len]
  refine wpAny_For ?_
  wtm_at "w"
  refine' l_self (l := pa) (i := 1) S ?zz1 _ _ ?_
  case zz1 => wtm_at "take"
  refine' for_rule (Ex := fun _ _ => []) ((l_walk (it := itA) (l := pa) (vs := vs) hh).shift (by omega)) (fun j P' => ∃ (g : Nat → Nat → Int) (tu : Tok) (u : Nat) (vv vat : Option Value), p[j]? = some u ∧ Psh n cF f g hgt s0 p d j ∧
      P' = frm L (FAug (some (.ref pa)) (some (.int d td)) (some (.ref itA)) (some (.int u tu)) vv vat) :: cel (K + 2) (some (.ref b.ad)) :: dI c b.ad (idx n b.aa) :: fam (List.range n) (fun i => dAt c (intKind Pg c.w) (b.aa i) (succE el b.ea i) (eps i)) :: fam el (fun e => eR c (b.ea e) (cF e.1 e.2) (g e.1 e.2)) :: R)
      (S.cov ?zz3) ⟨f, tu, s0, vv, vat, PI0.start, J0, rfl⟩ ?_ ?_ ?_
  case zz3 => wtm_at "cov"
  · intro i v P' s hv S Q hq
    exact own_name (hq _ S)
  · clear S vv vat
    rintro j hj _ s w ⟨g, tu, u, vv, vat, hu, J, rfl⟩ hw S
    obtain ⟨v, hv⟩ : ∃ v, p[j + 1]? = some v := ⟨_, List.getElem?_eq_getElem (by omega)⟩
    obtain ⟨tv, hv2⟩ := hvs.2 (j + 1) v (zp_get hv)
    rw [hv2] at hw
    cases hw
    obtain ⟨hel, hres, hht⟩ := PI0.chain j u v hu hv
    have hel2 := N.sym hel
    have hne := N.ne hel
    have hun := (N.lt hel).1
    have hvn := (N.lt hel).2
    have hsv : valueAt (succE el b.ea u) (v : Int) = some (.ref (b.ea (u, v))) := by rw [valueAt_succE, if_pos hel]
    have hsu : valueAt (succE el b.ea v) (u : Int) = some (.ref (b.ea (v, u))) := by rw [valueAt_succE, if_pos hel2]
    simp only [FAug, List.cons_append, List.nil_append] at S
    obtain ⟨c1, c2, S⟩ := S.openE (a := b.ea (u, v)) (cv := cF u v) (fv := g u v) (by wtm_at "take")
    refine assign_Name ?_
    wtm_at "w"
    refine wpAny_execs_cons ?_
    wtm_at "ws"
    have S2 := ((S.head_mono (X' := eR c (b.ea (u, v)) (cF u v) (g u v + d)) fun D hD => ⟨_, _, hD⟩)).shutX (l := el) (f := fun e => eR c (b.ea e) (cF e.1 e.2) (g e.1 e.2)) (u := (u, v)) (X := eR c (b.ea (u, v)) (cF u v) (g u v + d)) (fun e => eR c (b.ea e) (cF e.1 e.2) (if e = (u, v) then g e.1 e.2 + d else g e.1 e.2)) (by wtm_at "take") (by wtm_at "take")
      (by simp) hel hnd (fun e _ he => by simp [he])
    clear S
    have hvu : ¬ ((v, u) : Nat × Nat) = (u, v) := fun z => hne (by cases z; rfl)
    have S3 := S2.take (X := eR c (b.ea (v, u)) (cF v u) (if ((v, u) : Nat × Nat) = (u, v) then g v u + d else g v u)) (by wtm_at "take")
    rw [if_neg hvu] at S3
    clear S2
    obtain ⟨c3, c4, S⟩ := S3.openE .head
    clear S3
    wtm_at "ws"
    have S2 := (((S.take (X := dS c (b.ea (v, u)) (stored [("capacity", .int (cF v u) c3), ("flow", .int (g v u) c4)] "flow" (.int (g v u - d) t))) (by wtm_at "take")).head_mono (X' := eR c (b.ea (v, u)) (cF v u) (g v u - d)) fun D hD => ⟨_, _, hD⟩)).shutX (l := el) (f := fun e => eR c (b.ea e) (cF e.1 e.2) (if e = (u, v) then g e.1 e.2 + d else g e.1 e.2)) (u := (v, u)) (X := eR c (b.ea (v, u)) (cF v u) (g v u - d)) (fun e => eR c (b.ea e) (cF e.1 e.2) (push g u v d e.1 e.2)) (by wtm_at "take") (by wtm_at "take")
      (by simp [push, hne, Ne.symm hne]) hel2 hnd (fun e _ he => by
        obtain ⟨x, y⟩ := e
        unfold push
        have h1 : ¬ (x = v ∧ y = u) := fun z => he (by rw [z.1, z.2])
        by_cases q : x = u ∧ y = v
        · obtain ⟨rfl, rfl⟩ := q; simp
        · have : ¬ ((x, y) : Nat × Nat) = (u, v) := fun z => q (by cases z; exact ⟨rfl, rfl⟩)
          simp [h1, q, this])
    clear S
    refine ⟨_, ⟨push g u v d, tv, v, some (.int v tv), vat, hv, J.next N PI0 hd hu hv (hds j u v hu hv), rfl⟩, ?_⟩
    wtm_at "fin"
  · rintro _ s ⟨g, tu, u, vv, vat, hu, J, rfl⟩ S
    simp only [FAug, List.cons_append, List.nil_append] at S
    rw [hvl] at J
    refine' h _ g (some (.int u tu)) vv vat J ?zzk
    case zzk =>
      simp only [FAug, List.cons_append, List.nil_append]
      wtm_at "fin"

def sapQ : List (Pos × Str) := [({ line := 383, col := 4, endLine := 399, endCol := 19 }, qAug), ({ line := 401, col := 4, endLine := 406, endCol := 25 }, qRel)]
noncomputable abbrev auO (K c' : Addr) (doc pm ctv : Value) : Obj := fnMade dAug.name qAug dAug.params dAug.body dAug.scope [("inf", K + 3), ("R_succ", K + 2)] doc pm c' ctv
noncomputable abbrev reO (K c' : Addr) (doc pm ctv : Value) : Obj := fnMade dRel.name qRel dRel.params dRel.body dRel.scope [("n", K + 4), ("R_succ", K + 2), ("R_nodes", K + 1)] doc pm c' ctv
theorem im_augment {c : Cx} {A : Around} {s : Shared} {P R : List HP} {k : Nat} {au c' K pa : Addr} {doc pm ctv : Value} {ks : List (Addr × Str)} {b : GA} {n s0 t0 : Nat} {el : List (Nat × Nat)} {eps : Nat → Nat} {cF f : Nat → Nat → Int} {hgt : Nat → Nat} {p : List Nat} {inf F : Int} {ti : Tok} {Rr : Result → Shared → Prop}
    (S : St c P s) (rm : Rm A (k + 2)) (hh : A.handled = none) (hA : A.handled = c.hx) (hn : n ≤ 100) (N : Net n s0 t0 el cF) (hnd : el.Nodup) (FL : Fl n s0 t0 cF f F) (PI0 : PI el cF f hgt s0 p t0) (hz : p.length ≤ 1000) (hinf : 1 ≤ inf) (hinf2 : ∀ x < n, ∀ y < n, 2 * (cF x y + cF y x) ≤ inf)
    (hks : (c', qAug) ∈ ks)
    (tk : Takes (pt au (auO K c' doc pm ctv) :: tabX 488 sapQ ks :: li pa (zp p) :: cel (K + 2) (some (.ref b.ad)) :: cel (K + 3) (some (.int inf ti)) :: dI c b.ad (idx n b.aa) :: fam (List.range n) (fun i => dAt c (intKind Pg c.w) (b.aa i) (succE el b.ea i) (eps i)) :: [fam el fun e => eR c (b.ea e) (cF e.1 e.2) (f e.1 e.2)]) P R)
    (h : ∀ (s' : Shared) (d : Int) (t : Tok) (g : Nat → Nat → Int), 1 ≤ d → Psh n cF f g hgt s0 p d (p.length - 1) → St c (pt au (auO K c' doc pm ctv) :: tabX 488 sapQ ks :: li pa (zp p) :: cel (K + 2) (some (.ref b.ad)) :: cel (K + 3) (some (.int inf ti)) :: dI c b.ad (idx n b.aa) :: fam (List.range n) (fun i => dAt c (intKind Pg c.w) (b.aa i) (succE el b.ea i) (eps i)) :: fam el (fun e => eR c (b.ea e) (cF e.1 e.2) (g e.1 e.2)) :: R) s' → Rr (.ok (.ret (.int d t))) s') :
    codeAny c.M A (.call (.ref au) ⟨[.ref pa], []⟩) Rr s := by
  replace S := S.takes tk
  clear tk
  simp only [List.cons_append, List.nil_append] at S
  have hp2 : 2 ≤ p.length := by
    have h1 := PI0.len
    have h2 := PI0.start
    have h3 := PI0.last
    rcases Nat.lt_or_ge p.length 2 with q | q
    · have : p.length - 1 = 0 := by omega
      rw [this, h2] at h3
      cases h3; exact absurd rfl N.st
    · exact q
  have hrec := tabX_rec (T := 488) (qs := sapQ) (ks := ks) (c' := c') (q := qAug) S (by wtm_at "take") hks
  refine' call_H (name := dAug.name) (qual := qAug) (params := dAug.params) (body := dAug.body) (scope := dAug.scope) (cl := [("inf", K + 3), ("R_succ", K + 2)]) (doc := doc) (pm := pm) (c' := c') (ct := ctv) (binds := [("path", .ref pa)]) S rm ?zz0 hrec (BindsTo.of_eq rfl) (locs rfl) ?oth ?nd ?_
  case zz0 => wtm_at "take"
  case oth => dsimp only [dAug, fnOf, d493, stAt, List.drop]; wtm_at "oth"
  case nd => exact rfl
  clear S; intro A2 L s rm hh2 S env
  replace hA := hh2.trans hA
  replace hh := hh2.trans hh
  simp only [boundF, List.map_cons, List.map_nil, List.cons_append, List.nil_append, List.append_nil] at S
  dsimp only [dAug, fnOf, d493, stAt, List.drop]
  obtain ⟨vs, hvs, S2⟩ := S.openLi (a := pa) (xs := zp p) (by wtm_at "take")
  clear S
  have S := S2
  clear S2
  wtm_at "ww"
  obtain ⟨tv, hv0⟩ := hvs.2 0 (s0 : Int) (zp_get PI0.start)
  refine' next_l (l := pa) (vs := vs) (i := 0) S ?zz1 ?zz2 hv0 ?_
  case zz1 => wtm_at "take"
  case zz2 => wtm_at "take"
  clear S; intro s S
  wtm_at "ww"
  refine' aug_min (inf := inf) (p := p) (vs := vs) S hh hA hn N PI0 hp2 hz hvs hinf ?zz3 ?_
  case zz3 => simp only [FAug]; wtm_at "takes"
  clear S; intro s d td vu vv vat hd1 hd2 hd3 S
  simp only [FAug] at S
  wtm_at "ww"
  have hle : d * 2 ≤ inf := by
    obtain ⟨y, hy⟩ : ∃ y, p[1]? = some y := ⟨_, List.getElem?_eq_getElem (by omega)⟩
    have hc := PI0.chain 0 s0 y PI0.start hy
    have hl := N.lt hc.1
    have h1 := hd3 0 s0 y PI0.start hy
    have h2 := FL.cap y hl.2 s0 hl.1
    have h3 := FL.anti s0 hl.1 y hl.2
    have h4 := hinf2 s0 hl.1 y hl.2
    omega
  refine ite_F (by simp; omega) ?_
  wtm_at "ww"
  refine' next_l (l := pa) (vs := vs) (i := 0) S ?zz4 ?zz5 hv0 ?_
  case zz4 => wtm_at "take"
  case zz5 => wtm_at "take"
  clear S; intro s S
  wtm_at "ww"
  refine' aug_push (d := d) (p := p) (vs := vs) S hh hA hn N hnd PI0 hp2 hz hvs (by omega) hd3 (Psh.zero FL hgt PI0.start d) ?zz6 ?_
  case zz6 => simp only [FAug]; wtm_at "takes"
  clear S; intro s g vu2 vv2 vat2 J S
  simp only [FAug] at S
  wtm_at "ww"
  have S2 := (S.take (X := lst pa vs) (by wtm_at "take")).head_mono (X' := li pa (zp p)) fun D hD => ⟨vs, hvs, hD⟩
  clear S
  refine' h _ d _ g hd1 J ?zz7
  case zz7 => wtm_at "fin"

theorem succE_at2 {el : List (Nat × Nat)} {ea : Nat × Nat → Addr} {u j : Nat} {k : Int} {v : Value} (h : (succE el ea u)[j]? = some (k, v)) : ∃ w, (succL el u)[j]? = some w ∧ (u, w) ∈ el ∧ k = w ∧ v = .ref (ea (u, w)) := by
  obtain ⟨e, he, hel, h1, h2, h3⟩ := succE_at h
  refine ⟨e.2, ?_, by rw [← h1]; exact hel, h2, by rw [h3, ← h1]⟩
  unfold succL; rw [List.getElem?_map, he]; rfl
theorem succE_len {el : List (Nat × Nat)} {ea : Nat × Nat → Addr} {u : Nat} : (succE el ea u).length = (succL el u).length := by simp [succE, succL]
theorem im_relabel {c : Cx} {A : Around} {s : Shared} {P R : List HP} {k : Nat} {re c' K : Addr} {doc pm ctv : Value} {ks : List (Addr × Str)} {b : GA} {n s0 t0 u : Nat} {el : List (Nat × Nat)} {eps H : Nat → Nat} {ce : Nat → Addr} {cF f : Nat → Nat → Int} {tn tu : Tok} {Rr : Result → Shared → Prop}
    (S : St c P s) (rm : Rm A (k + 2)) (hA : A.handled = c.hx) (hn : n ≤ 100) (N : Net n s0 t0 el cF) (hu : u < n) (hks : (c', qRel) ∈ ks)
    (tk : Takes (pt re (reO K c' doc pm ctv) :: tabX 488 sapQ ks :: cel (K + 1) (some (.ref b.nd)) :: cel (K + 2) (some (.ref b.ad)) :: cel (K + 4) (some (.int n tn)) :: dI c b.nd (idx n b.na) :: dI c b.ad (idx n b.aa) :: fam (List.range n) (fun i => nR c (b.na i) (H i) (ce i)) :: fam (List.range n) (fun i => dAt c (intKind Pg c.w) (b.aa i) (succE el b.ea i) (eps i)) :: [fam el fun e => eR c (b.ea e) (cF e.1 e.2) (f e.1 e.2)]) P R)
    (h : ∀ (s' : Shared) (k' : Nat) (t : Tok), NH n el cF f H u k' → St c (pt re (reO K c' doc pm ctv) :: tabX 488 sapQ ks :: cel (K + 1) (some (.ref b.nd)) :: cel (K + 2) (some (.ref b.ad)) :: cel (K + 4) (some (.int n tn)) :: dI c b.nd (idx n b.na) :: dI c b.ad (idx n b.aa) :: fam (List.range n) (fun i => nR c (b.na i) (H i) (ce i)) :: fam (List.range n) (fun i => dAt c (intKind Pg c.w) (b.aa i) (succE el b.ea i) (eps i)) :: fam el (fun e => eR c (b.ea e) (cF e.1 e.2) (f e.1 e.2)) :: R) s' → Rr (.ok (.ret (.int (k' : Nat) t))) s') :
    codeAny c.M A (.call (.ref re) ⟨[.int u tu], []⟩) Rr s := by
  replace S := S.takes tk
  clear tk
  simp only [List.cons_append, List.nil_append] at S
  have hrec := tabX_rec (T := 488) (qs := sapQ) (ks := ks) (c' := c') (q := qRel) S (by wtm_at "take") hks
  refine' call_H (name := dRel.name) (qual := qRel) (params := dRel.params) (body := dRel.body) (scope := dRel.scope) (cl := [("n", K + 4), ("R_succ", K + 2), ("R_nodes", K + 1)]) (doc := doc) (pm := pm) (c' := c') (ct := ctv) (binds := [("u", .int u tu)]) S rm ?zz0 hrec (BindsTo.of_eq rfl) (locs rfl) ?oth ?nd ?_
  case zz0 => wtm_at "take"
  case oth => dsimp only [dRel, fnOf, d493, stAt, List.drop]; wtm_at "oth"
  case nd => exact rfl
  clear S; intro A2 L s rm hh2 S env
  replace hA := hh2.trans hA
  simp only [boundF, List.map_cons, List.map_nil, List.cons_append, List.nil_append, List.append_nil] at S
  dsimp only [dRel, fnOf, d493, stAt, List.drop]
  wtm_at "ww"
  have en : (n : Int) - 1 = ((n - 1 : Nat) : Int) := by omega
  rw [en] at S
  refine wpAny_For ?_
  wtm_at "ws"
  refine' for_rule (i_walkAt (it := it) (d := b.aa u) (kvs := succE el b.ea u) (ep := eps u) (knd := intKind Pg c.w) hA) (Ex := fun j v => [iTup c (intKind Pg c.w) (succE el b.ea u) j v]) (fun j P' => ∃ (k' : Nat) (tk : Tok) (vv vat : Option Value), NK n el cF f H u j k' ∧
      P' = frm L [("u", some (.int u tu)), ("height", some (.int (k' : Nat) tk)), ("v", vv), ("attr", vat)] :: pt re (reO K c' doc pm ctv) :: tabX 488 sapQ ks :: cel (K + 1) (some (.ref b.nd)) :: cel (K + 2) (some (.ref b.ad)) :: cel (K + 4) (some (.int n tn)) :: dI c b.nd (idx n b.na) :: dI c b.ad (idx n b.aa) :: fam (List.range n) (fun i => nR c (b.na i) (H i) (ce i)) :: fam ((List.range n).erase u) (fun i => dAt c (intKind Pg c.w) (b.aa i) (succE el b.ea i) (eps i)) :: fam el (fun e => eR c (b.ea e) (cF e.1 e.2) (f e.1 e.2)) :: R)
      (S.cov ?zz3) ⟨n - 1, t, none, none, NK.start (by omega), rfl⟩ ?_ ?_ ?_
  case zz3 => wtm_at "cov"
  · exact fun j w P' s _ S Q hq => i_own S fun s' S' => hq _ S'
  · clear S
    rintro j hj _ s w ⟨k', tk, vv, vat, NK1, rfl⟩ - S
    simp only [List.cons_append, List.nil_append] at S
    obtain ⟨ta, k0, key, w2, rfl, hk0, his, S⟩ := S.openTup (knd := intKind Pg c.w) (kvs := succE el b.ea u) (i := j) (by wtm_at "take")
    obtain ⟨v, hv, hvel, rfl, rfl⟩ := succE_at2 hk0
    obtain ⟨tv, rfl⟩ := isI_shape his
    have hvn := (N.lt hvel).2
    obtain ⟨c1, c2, S⟩ := S.openE (a := b.ea (u, v)) (cv := cF u v) (fv := f u v) (by wtm_at "take")
    wtm_at "ws"
    by_cases hc : f u v < cF u v
    · refine ite_T (by simp [hc]) ?_
      obtain ⟨th, S⟩ := S.openN (a := b.na v) (hv := H v) (ce := ce v) (by wtm_at "take")
      wtm_at "ws"
      have em : (if ((H v : Nat) : Int) < ((k' : Nat) : Int) then ((H v : Nat) : Int) else ((k' : Nat) : Int)) = ((if H v < k' then H v else k' : Nat) : Int) := by split <;> split <;> omega
      rw [em] at S
      have S2 := S.backX (l := el) (f := fun e => eR c (b.ea e) (cF e.1 e.2) (f e.1 e.2)) (u := (u, v)) (X := dS c (b.ea (u, v)) [("capacity", .int (cF u v) c1), ("flow", .int (f u v) c2)]) (by wtm_at "take") (by wtm_at "take") (fun D hD => ⟨_, _, hD⟩) hvel
      clear S
      have S3 := S2.backX (l := List.range n) (f := fun i => nR c (b.na i) (H i) (ce i)) (u := v) (X := dS c (b.na v) [("height", .int ((H v : Nat) : Int) th), ("curr_edge", .ref (ce v))]) (by wtm_at "take") (by wtm_at "take") (fun D hD => ⟨th, hD⟩) (mem_range hvn)
      clear S2
      refine ⟨_, ⟨if H v < k' then H v else k', t, some (.int v tv), some (.ref (b.ea (u, v))), NK1.next hv hc, rfl⟩, ?_⟩
      wtm_at "fin"
    · refine ite_F (by simp [hc]) ?_
      wtm_at "ws"
      have S2 := S.backX (l := el) (f := fun e => eR c (b.ea e) (cF e.1 e.2) (f e.1 e.2)) (u := (u, v)) (X := dS c (b.ea (u, v)) [("capacity", .int (cF u v) c1), ("flow", .int (f u v) c2)]) (by wtm_at "take") (by wtm_at "take") (fun D hD => ⟨_, _, hD⟩) hvel
      clear S
      refine ⟨_, ⟨k', tk, some (.int v tv), some (.ref (b.ea (u, v))), NK1.skip hv hc, rfl⟩, ?_⟩
      wtm_at "fin"
  · rintro _ s ⟨k', tk, vv, vat, NK1, rfl⟩ S
    simp only [List.cons_append, List.nil_append] at S
    rw [succE_len] at NK1
    wtm_at "ws"
    have S2 := S.shutS (l := List.range n) (f := fun i => dAt c (intKind Pg c.w) (b.aa i) (succE el b.ea i) (eps i)) (u := u) (by wtm_at "take") (by wtm_at "take") (mem_range hu)
    clear S
    have ek : ((k' : Int) + 1) = ((k' + 1 : Nat) : Int) := by omega
    rw [ek]
    refine' h _ (k' + 1) t (NK1.fin (Nat.le_refl _)) ?zz8
    case zz8 => wtm_at "fin"

theorem fnAt {c : Cx} {s : Shared} {P R : List HP} {f : Addr} {name qual : Str} {params : Arguments} {body : List Stmt} {scope : Scope} {clos : List (Str × Addr)} {doc pm ctv : Value} {c' : Addr} (S : St c P s) (t : Take (pt f (fnMade name qual params body scope clos doc pm c' ctv)) P R) : FnAt f s.heap := ⟨_, _, _, _, S.get t⟩
theorem use_tail {c : Cx} {s : Shared} {P : List HP} {goal : Prop} (S : St c P s) (G : Shared → Prop) (T : ∀ s, St c P s → G s) (k : (∀ s, St c P s → G s) → goal) : goal := k T
structure MA where
  (ca au re c1 c2 pa : Addr)
  (d1 p1 t1 d2 p2 t2 : Value)
  ce : Nat → Addr
  eps : Nat → Nat
  ks : List (Addr × Str)
  inf : Int
  (ti tn ti2 : Tok)
noncomputable abbrev mR (c : Cx) (L : Addr) (b : GA) (a : MA) (n : Nat) (el : List (Nat × Nat)) (cF f : Nat → Nat → Int) (H : Nat → Nat) : List HP :=
  [cel (L + 1) (some (.ref b.nd)), cel (L + 2) (some (.ref b.ad)), cel (L + 3) (some (.int a.inf a.ti)), cel (L + 4) (some (.int n a.tn)), pt b.g (instObj 420 b.dx), dS c b.dx [("_pred", .ref b.pd), ("graph", .ref b.gd), ("_node", .ref b.nd), ("_adj", .ref b.ad)], dI c b.nd (idx n b.na), dI c b.ad (idx n b.aa),
   fam (List.range n) fun i => nR c (b.na i) (H i) (a.ce i), fam (List.range n) fun i => dAt c (intKind Pg c.w) (b.aa i) (succE el b.ea i) (a.eps i), fam el fun e => eR c (b.ea e) (cF e.1 e.2) (f e.1 e.2), pt a.au (auO L a.c1 a.d1 a.p1 a.t1), pt a.re (reO L a.c2 a.d2 a.p2 a.t2), tabX 488 sapQ a.ks]
noncomputable abbrev mS (c : Cx) (L : Addr) (b : GA) (a : MA) (n : Nat) (el : List (Nat × Nat)) (cF f : Nat → Nat → Int) (H : Nat → Nat) (p : List Nat) : List HP :=
  mR c L b a n el cF f H ++ [dS c b.gd [("inf", .int a.inf a.ti2)], li a.ca (cL H n (2 * n - 1)), li a.pa (zp p)]
/-- what stands at the end -/
noncomputable abbrev mE (c : Cx) (b : GA) (a : MA) (n : Nat) (el : List (Nat × Nat)) (cF f : Nat → Nat → Int) (F : Int) (t : Tok) : List HP :=
  [pt b.g (instObj 420 b.dx), dS c b.dx [("_pred", .ref b.pd), ("graph", .ref b.gd), ("_node", .ref b.nd), ("_adj", .ref b.ad)], dI c b.ad (idx n b.aa), fam (List.range n) fun i => dAt c (intKind Pg c.w) (b.aa i) (succE el b.ea i) (a.eps i), fam el fun e => eR c (b.ea e) (cF e.1 e.2) (f e.1 e.2), dS c b.gd [("inf", .int a.inf a.ti2), ("flow_value", .int F t)], tabX 488 sapQ a.ks]
theorem im_handler {c : Cx} {A : Around} {s : Shared} {P R : List HP} {k : Nat} {L : Addr} {b : GA} {a : MA} {n s0 t0 u : Nat} {el : List (Nat × Nat)} {cF f : Nat → Nat → Int} {H cur : Nat → Nat} {F : Int} {p : List Nat} {ts tt tu th tf td : Tok} {vG vcap vres vcut vRp ve vhs vq vv vat vce : Option Value} {Q : Flow → Shared → Prop}
    (S : St c P s) (rm : Rm A (k + 8)) (hA : A.handled = c.hx) (hn : n ≤ 100) (hn2 : 2 ≤ n) (N : Net n s0 t0 el cF) (I : AI n s0 t0 el cF f H cur F) (PI0 : PI el cF f H s0 p u) (hz : p.length ≤ 1000) (hut : u ≠ t0) (hHs : H s0 < n) (dry : Dry el cF f H u) (hks : (a.c2, qRel) ∈ a.ks)
    (tk : Takes (frm L (F493 vG (some (.int s0 ts)) (some (.int t0 tt)) vcap vres (some (.bool false)) vcut (some (.ref b.g)) vRp (some (.int u tu)) ve vhs vq (some (.int (H u : Nat) th)) vv vat (some (.ref a.ca)) (some (.ref a.au)) (some (.ref a.re)) (some (.int F tf)) (some (.ref a.pa)) (some (.int n td)) (some (.bool false)) vce) :: mS c L b a n el cF f H p) P R)
    (hret : ∀ s' t, Best n s0 t0 cF f F → St c (mE c b a n el cF f F t ++ R) s' → Q (.ret (.ref b.g)) s')
    (hbrk : ∀ (s' : Shared) (k' u' : Nat) (tu th : Tok), u ≠ s0 → H u < k' → AI n s0 t0 el cF f (upd H u k') (upd cur u 0) F → PI el cF f (upd H u k') s0 p.dropLast u' → u' ≠ t0 → p.dropLast.length < p.length → upd H u k' s0 < n →
      St c (frm L (F493 vG (some (.int s0 ts)) (some (.int t0 tt)) vcap vres (some (.bool false)) vcut (some (.ref b.g)) vRp (some (.int u' tu)) ve vhs vq (some (.int (k' : Nat) th)) vv vat (some (.ref a.ca)) (some (.ref a.au)) (some (.ref a.re)) (some (.int F tf)) (some (.ref a.pa)) (some (.int n td)) (some (.bool false)) vce) :: (mS c L b a n el cF f (upd H u k') p.dropLast ++ R)) s' → Q .brk s')
    (hnext : ∀ (s' : Shared) (k' : Nat) (th : Tok), u = s0 → H u < k' → k' < n → AI n s0 t0 el cF f (upd H u k') (upd cur u 0) F → PI el cF f (upd H u k') s0 p u →
      St c (frm L (F493 vG (some (.int s0 ts)) (some (.int t0 tt)) vcap vres (some (.bool false)) vcut (some (.ref b.g)) vRp (some (.int u tu)) ve vhs vq (some (.int (k' : Nat) th)) vv vat (some (.ref a.ca)) (some (.ref a.au)) (some (.ref a.re)) (some (.int F tf)) (some (.ref a.pa)) (some (.int n td)) (some (.bool false)) vce) :: (mS c L b a n el cF f (upd H u k') p ++ R)) s' → Q .next s') :
    wpAny c.M A (execs (handOf (lastOf dIn)) (env493 L)) Q NoE s := by
  dsimp only [dIn, bodyOf, handOf, lastOf, d493, stAt, List.drop]
  replace S := S.takes tk
  clear tk
  simp only [F493, mS, mR, List.cons_append, List.nil_append] at S
  have hu := PI0.ult N
  have hHu : H u < n := by have := PI0.hs; omega
  wtm_at "ww"
  have hm1 : H u < 2 * n - 1 := by omega
  refine' li_get (i := H u) (xs := cL H n (2 * n - 1)) (x := cnt H n (H u)) S ?zz1 rfl (cL_get hm1) (by omega) ?_
  case zz1 => wtm_at "take"
  intro tc
  wtm_at "ww"
  refine' li_set (i := H u) (xs := cL H n (2 * n - 1)) S ?zz2 rfl (by rw [cL_len]; exact hm1) (by omega) ?_
  case zz2 => wtm_at "take"
  clear S; intro s S
  wtm_at "ww"
  refine' li_sub (i := H u) (xs := (cL H n (2 * n - 1)).set (H u) (cnt H n (H u) - 1)) (x := cnt H n (H u) - 1) S ?zz3 rfl (by rw [List.getElem?_set_self (by rw [cL_len]; exact hm1)]) (by omega) ?_ (by with_unfolding_all rfl)
  case zz3 => wtm_at "take"
  intro tc2
  wtm_at "ww"
  by_cases hc0 : cnt H n (H u) - 1 = 0
  · refine ite_T (by simp [hc0]) ?_
    wtm_at "ww"
    refine' hret _ tf (I.gap N PI0 hut dry (cnt_one hu hc0)) ?zz4
    case zz4 =>
      rw [show stored ([(Str.ofString "inf", Value.int a.inf a.ti2)] : List (Str × Value)) (Str.ofString "flow_value") (Value.int F tf) = [(Str.ofString "inf", Value.int a.inf a.ti2), (Str.ofString "flow_value", Value.int F tf)] from rfl] at S
      simp only [mE, List.cons_append, List.nil_append]
      wtm_at "fin"
  · refine ite_F (by simp [hc0]) ?_
    refine wpAny_execs_nil ?_
    dsimp only
    wtm_at "ww"
    refine callWith_F (fnAt S (by wtm_at "take")) ?_
    wtm_at "ww"
    refine ⟨fnAt S (by wtm_at "take"), ?_⟩
    wtm_at "ww"
    refine' wpAny_call (im_relabel (k := k) (s0 := s0) (t0 := t0) (el := el) (cF := cF) (f := f) (H := H) (n := n) (u := u) S (rm.le (by omega)) hA hn N hu hks ?zz5 ?_)
    case zz5 => wtm_at "takes"
    clear S; intro s k' tk NHk S
    dsimp only
    have hgt := NHk.gt I dry hHu
    have hk1 : k' < 2 * n - 1 := by have := NHk.le; omega
    wtm_at "ww"
    refine use_tail S (fun s => (u = s0 → k' < n) → wpAny c.M A (execs ((handOf (lastOf dIn)).drop 4) (env493 L)) Q NoE s) ?_ fun tail => ?_
    · clear S; intro s S hlt
      dsimp only [dIn, bodyOf, handOf, lastOf, d493, stAt, List.drop]
      wtm_at "ww"
      refine' li_get (i := k') (xs := (cL H n (2 * n - 1)).set (H u) (cnt H n (H u) - 1)) (x := cnt H n k') S ?zz6 rfl (by rw [List.getElem?_set_ne (by omega)]; exact cL_get hk1) (by omega) ?_
      case zz6 => wtm_at "take"
      intro tc3
      wtm_at "ww"
      refine' li_set (i := k') (xs := (cL H n (2 * n - 1)).set (H u) (cnt H n (H u) - 1)) S ?zz7 rfl (by rw [List.length_set, cL_len]; exact hk1) (by omega) ?_
      case zz7 => wtm_at "take"
      clear S; intro s S
      rw [cL_upd hu hm1 (by omega)] at S
      obtain ⟨tq, S⟩ := S.openN (a := b.na u) (hv := H u) (ce := a.ce u) (by wtm_at "take")
      wtm_at "ww"
      have S2 := ((S.head_mono (X' := nR c (b.na u) k' (a.ce u)) fun D hD => ⟨_, hD⟩)).shutX (l := List.range n) (f := fun i => nR c (b.na i) (H i) (a.ce i)) (u := u) (X := nR c (b.na u) k' (a.ce u)) (fun i => nR c (b.na i) (upd H u k' i) (a.ce i)) (by wtm_at "take") (by wtm_at "take")
        (by simp) (mem_range hu) List.nodup_range (fun i _ hi => by simp [upd_ne hi])
      clear S
      have S := S2
      clear S2
      have AIn := I.relabel N hu hut dry hHu NHk
      by_cases hus : u = s0
      · refine ite_F (by simp [hus]) ?_
        wtm_at "ww"
        have hPI : PI el cF f (upd H u k') s0 p u := by
          have h1 := PI0.hs
          have h2 := PI0.len
          rw [← hus] at h1
          have e1 : p.length = 1 := by omega
          refine ⟨PI0.start, PI0.last, fun i x y hx hy => ?_⟩
          have := (List.getElem?_eq_some_iff.mp hy).1
          omega
        refine' hnext _ k' tk hus hgt (hlt hus) AIn hPI ?zz8
        case zz8 =>
          simp only [F493, mS, mR, List.cons_append, List.nil_append]
          wtm_at "fin"
      · obtain ⟨h2, u', hu', hne, PIn⟩ := PI0.pop (k := k') hus
        have hzl : (zp p).length = p.length := zp_len
        have : ¬ (u : Int) = s0 := by omega
        refine ite_T (by simp [this]) ?_
        wtm_at "ww"
        refine' gm_popI (xs := zp p) S ?zz9 ?_
        case zz9 => wtm_at "take"
        wtm_at "ww"
        refine' li_pop (xs := zp p) (x := (u : Int)) S ?zza (by omega) (by rw [hzl]; exact zp_get PI0.last) ?_
        case zza => wtm_at "take"
        clear S; intro s tz S
        have ezp : (zp p).dropLast = zp p.dropLast := by unfold zp; rw [List.map_dropLast]
        rw [ezp] at S
        wtm_at "ww"
        refine negI S ?_
        clear S; intro s tn1 S
        have hzd : (zp p.dropLast).length = p.length - 1 := by rw [zp_len, List.length_dropLast]
        refine' li_negsub (xs := zp p.dropLast) (x := (u' : Int)) S ?zzd (by omega) (by rw [hzd]; have := PIn.last; rw [List.length_dropLast] at this; exact zp_get this) ?_ (by with_unfolding_all rfl)
        case zzd => wtm_at "take"
        intro tu'
        wtm_at "ww"
        have hu't : u' ≠ t0 := by
          have hc := PI0.chain (p.length - 2) u' u hu' (by rw [show p.length - 2 + 1 = p.length - 1 by omega]; exact PI0.last)
          intro e
          have := I.h0
          rw [← e] at this
          omega
        refine' hbrk _ k' u' tu' tk hus hgt AIn PIn hu't (by rw [List.length_dropLast]; omega) ?zze ?zzf
        case zze => rw [upd_ne (Ne.symm hus)]; exact hHs
        case zzf =>
          simp only [F493, mS, mR, List.cons_append, List.nil_append]
          wtm_at "fin"
    · by_cases hus : u = s0
      · refine ite_T (by simp [hus]) ?_
        wtm_at "ww"
        by_cases hnk : n ≤ k'
        · refine ite_T (by simp; omega) ?_
          wtm_at "ww"
          refine' hret _ tf ?zzb ?zzc
          case zzb => subst hus; exact I.top N dry hHu NHk hnk
          case zzc =>
            rw [show stored ([(Str.ofString "inf", Value.int a.inf a.ti2)] : List (Str × Value)) (Str.ofString "flow_value") (Value.int F tf) = [(Str.ofString "inf", Value.int a.inf a.ti2), (Str.ofString "flow_value", Value.int F tf)] from rfl] at S
            simp only [mE, List.cons_append, List.nil_append]
            wtm_at "fin"
        · refine ite_F (by simp; omega) (ite_F (by simp) ?_)
          refine wpAny_execs_nil ?_
          exact tail _ S (fun _ => by omega)
      · have : ¬ (u : Int) = s0 := by omega
        refine ite_F (by simp [this]) (ite_F (by simp) ?_)
        refine wpAny_execs_nil ?_
        exact tail _ S (fun h => absurd h hus)

theorem St.endCe {c : Cx} {P R : List HP} {s : Shared} {n u j : Nat} {ce aa : Nat → Addr} {kv : Nat → List (Int × Value)} {eps cur cur' : Nat → Nat} {dx tc it : Addr} {key v0 : Value} {k0 : Int} (S : St c P s)
    (tk : Takes [fam ((List.range n).erase u) (fun i => ceR c (ce i) (aa i) (kv i) (eps i) (cur i)), pt (ce u) (slO dx (ceSl tc (aa u) it)), dS c dx [], gIt it (aa u) (j + 1) (kv u).length (eps u), tup tc [key, v0]] P R) (hu : u < n) (h0 : (kv u)[j]? = some (k0, v0)) (hk : (intKind Pg c.w).is k0 key = true)
    (hj : cur' u = j) (hc : ∀ i < n, i ≠ u → cur' i = cur i) : St c (fam (List.range n) (fun i => ceR c (ce i) (aa i) (kv i) (eps i) (cur' i)) :: R) s := by
  have S1 := S.takes tk
  have S2 : St c (pt (ce u) (slO dx (ceSl tc (aa u) it)) :: dS c dx [] :: gIt it (aa u) (j + 1) (kv u).length (eps u) :: tup tc [key, v0] :: fam ((List.range n).erase u) (fun i => ceR c (ce i) (aa i) (kv i) (eps i) (cur i)) :: R) s := S1.perm (by
    simp only [List.cons_append, List.nil_append]
    exact (List.Perm.swap _ _ _).trans (((List.Perm.swap _ _ _).cons _).trans ((((List.Perm.swap _ _ _).cons _).cons _).trans ((((List.Perm.swap _ _ _).cons _).cons _).cons _))))
  have S3 := S2.closeCe h0 hk
  refine S3.shutX (l := List.range n) (f := fun i => ceR c (ce i) (aa i) (kv i) (eps i) (cur i)) (u := u) (X := ceR c (ce u) (aa u) (kv u) (eps u) j) (fun i => ceR c (ce i) (aa i) (kv i) (eps i) (cur' i)) (.tail .head) .head (by rw [hj]) (mem_range hu) List.nodup_range (fun i hi hne => by rw [hc i (List.mem_range.mp hi) hne])
/-- what holds while the current edges of u are tried -/
structure InI (n s0 t0 : Nat) (el : List (Nat × Nat)) (cF f : Nat → Nat → Int) (F : Int) (H cur : Nat → Nat) (p : List Nat) (u : Nat) : Prop where
  ai : AI n s0 t0 el cF f H cur F
  pi : PI el cF f H s0 p u
  hs : H s0 < n
noncomputable abbrev iS (c : Cx) (L : Addr) (b : GA) (a : MA) (n : Nat) (el : List (Nat × Nat)) (cF f : Nat → Nat → Int) (H cur : Nat → Nat) (p : List Nat) (frs : List (Addr × List (Str × Option Value))) : List HP :=
  mS c L b a n el cF f H p ++ [fam (List.range n) fun i => ceR c (a.ce i) (b.aa i) (succE el b.ea i) (a.eps i) (cur i), fam frs frP]
abbrev iF (b : GA) (a : MA) (n s0 t0 u : Nat) (F : Int) (ts tt tu tf td : Tok) (vG vcap vres vcut vRp ve vhs vq vht vv vat vce : Option Value) : List (Str × Option Value) :=
  F493 vG (some (.int s0 ts)) (some (.int t0 tt)) vcap vres (some (.bool false)) vcut (some (.ref b.g)) vRp (some (.int u tu)) ve vhs vq vht vv vat (some (.ref a.ca)) (some (.ref a.au)) (some (.ref a.re)) (some (.int F tf)) (some (.ref a.pa)) (some (.int n td)) (some (.bool false)) vce
theorem im_turn {c : Cx} {A : Around} {s : Shared} {P R : List HP} {k : Nat} {L : Addr} {b : GA} {a : MA} {n s0 t0 u : Nat} {el : List (Nat × Nat)} {cF f : Nat → Nat → Int} {H cur : Nat → Nat} {F : Int} {p : List Nat} {frs : List (Addr × List (Str × Option Value))} {outer : List Env} {ts tt tu th tf td : Tok} {vG vcap vres vcut vRp ve vhs vq vv vat : Option Value} {Q : Flow → Shared → Prop}
    (S : St c P s) (rm : Rm A (k + 12)) (hh : A.handled = none) (hx : c.hx = none) (hfr : A.frames = some (env493 L :: outer)) (FO : FrOk outer frs) (hn : n ≤ 100) (hn2 : 2 ≤ n) (hfew : el.length ≤ 1000) (N : Net n s0 t0 el cF) (I : InI n s0 t0 el cF f F H cur p u) (hse : succL el s0 ≠ []) (hut : u ≠ t0) (hks : (a.c2, qRel) ∈ a.ks)
    (tk : Takes (frm L (iF b a n s0 t0 u F ts tt tu tf td vG vcap vres vcut vRp ve vhs vq (some (.int (H u : Nat) th)) vv vat (some (.ref (a.ce u)))) :: iS c L b a n el cF f H cur p frs) P R)
    (hret : ∀ s' t, Best n s0 t0 cF f F → St c (mE c b a n el cF f F t ++ (fam frs frP :: R)) s' → Q (.ret (.ref b.g)) s')
    (hbrk : ∀ (s' : Shared) (H' cur' : Nat → Nat) (p' : List Nat) (u' : Nat) (tu' : Tok) (vht vv vat : Option Value), InI n s0 t0 el cF f F H' cur' p' u' → mM n el (capS n cF s0) H' cur' F p'.length < mM n el (capS n cF s0) H cur F p.length →
      St c (frm L (iF b a n s0 t0 u' F ts tt tu' tf td vG vcap vres vcut vRp ve vhs vq vht vv vat (some (.ref (a.ce u)))) :: (iS c L b a n el cF f H' cur' p' frs ++ R)) s' → Q .brk s')
    (hnext : ∀ (s' : Shared) (H' cur' : Nat → Nat) (th' : Tok) (vv vat : Option Value), InI n s0 t0 el cF f F H' cur' p u → mM n el (capS n cF s0) H' cur' F p.length < mM n el (capS n cF s0) H cur F p.length →
      St c (frm L (iF b a n s0 t0 u F ts tt tu tf td vG vcap vres vcut vRp ve vhs vq (some (.int (H' u : Nat) th')) vv vat (some (.ref (a.ce u)))) :: (iS c L b a n el cF f H' cur' p frs ++ R)) s' → Q .next s') :
    wpAny c.M A (execs dIn (env493 L)) Q NoE s := by
  obtain ⟨I, PI0, hHs⟩ := I
  have hA : A.handled = c.hx := hh.trans hx.symm
  dsimp only [dIn, bodyOf, d493, stAt, List.drop]
  replace S := S.takes tk
  clear tk
  simp only [iF, F493, iS, mS, mR, List.cons_append, List.nil_append] at S
  have hu := PI0.ult N
  have hsu := PI0.hasEdge N hse
  have hcu := I.cl u hu hsu
  have hF := I.fl.pos
  have hshort := PI0.short N I hut hHs
  have hkne : succE el b.ea u ≠ [] := by
    intro z; apply hsu
    have := succE_len (el := el) (ea := b.ea) (u := u)
    rw [z] at this; exact List.length_eq_zero_iff.mp this.symm
  have S1 := S.take (X := ceR c (a.ce u) (b.aa u) (succE el b.ea u) (a.eps u) (cur u)) (by wtm_at "take")
  obtain ⟨dx, tc, it, key, k0, v0, hk0, his, S2⟩ := S1.openCe .head hkne
  clear S S1
  obtain ⟨v, hv, hvel, rfl, rfl⟩ := succE_at2 hk0
  obtain ⟨tv, rfl⟩ := isI_shape his
  have hvn := (N.lt hvel).2
  have S := S2
  clear S2
  wtm_at "ww"
  refine' wpAny_call (ce_get (k := k) (tc := tc) (ed := b.aa u) (it := it) S (rm.le (by omega)) hA ?zz1 ?_)
  case zz1 => wtm_at "takes"
  clear S; intro s S
  dsimp only
  wtm_at "ww"
  obtain ⟨tH, S⟩ := S.openN (a := b.na v) (hv := H v) (ce := a.ce v) (by wtm_at "take")
  wtm_at "ww"
  have S2 := S.backX (l := List.range n) (f := fun i => nR c (b.na i) (H i) (a.ce i)) (u := v) (X := dS c (b.na v) [("height", .int ((H v : Nat) : Int) tH), ("curr_edge", .ref (a.ce v))]) (by wtm_at "take") (by wtm_at "take") (fun D hD => ⟨tH, hD⟩) (mem_range hvn)
  clear S
  refine use_tail S2 (fun s => ¬ (f u v < cF u v ∧ H u = H v + 1) → wpAny c.M A (execs (dIn.drop 2) (env493 L)) Q NoE s) ?_ fun tail => ?_
  · clear S2; intro s S hno
    dsimp only [dIn, bodyOf, d493, stAt, List.drop]
    refine wpAny_execs_cons (wpAny_Try_except ?_)
    wtm_at "ww"
    obtain ⟨l, hl⟩ : ∃ l : List (Str × Option Value), l = F493 vG (some (.int s0 ts)) (some (.int t0 tt)) vcap vres (some (.bool false)) vcut (some (.ref b.g)) vRp (some (.int u tu)) ve vhs vq (some (.int (H u : Nat) th)) (some (.int v tv)) (some (.ref (b.ea (u, v)))) (some (.ref a.ca)) (some (.ref a.au)) (some (.ref a.re)) (some (.int F tf)) (some (.ref a.pa)) (some (.int n td)) (some (.bool false)) (some (.ref (a.ce u))) := ⟨_, rfl⟩
    have S1 := S.takes (Xs := [frm L l, fam frs frP]) (by rw [hl]; simp only [F493]; wtm_at "takes")
    have S2 := S1.mono fun _ h => Sat.consFam (f := frP) (u := (L, l)) h
    clear S S1
    have FO2 : FrOk (env493 L :: outer) ((L, l) :: frs) := ⟨show ScopeKind.function ≠ .module by decide, rfl, FO⟩
    have hkl : 0 < (succE el b.ea u).length := List.length_pos_iff.mpr hkne
    refine' wpAny_call (ce_move (k := k) (i := cur u) (outer := env493 L :: outer) (frs := (L, l) :: frs) (tc := tc) (it := it) (ed := b.aa u) (kvs := succE el b.ea u) (ep := a.eps u) (dx := dx) S2 (rm.le (by omega)) hh hx hfr FO2 ?zz7 hkl ?_ ?_)
    case zz7 => wtm_at "takes"
    · clear S2
      intro hlt s tc' key' k1 v1 hk1 his1 S
      have S2 := S.takes (Xs := [fam ((L, l) :: frs) frP]) (by wtm_at "takes")
      have S3 := S2.uncons
      clear S S2
      obtain ⟨w, hw, hwel, rfl, rfl⟩ := succE_at2 hk1
      obtain ⟨tw, rfl⟩ := isI_shape his1
      have S4 : St c (frm L l :: fam frs frP :: _) s := S3
      clear S3
      rw [hl] at S4
      simp only [F493] at S4
      have S5 := S4.shutS (l := List.range n) (f := fun i => dAt c (intKind Pg c.w) (b.aa i) (succE el b.ea i) (a.eps i)) (u := u) (by wtm_at "take") (by wtm_at "take") (mem_range hu)
      clear S4
      have S6 := S5.endCe (n := n) (u := u) (j := cur u + 1) (ce := a.ce) (aa := b.aa) (kv := fun i => succE el b.ea i) (eps := a.eps) (cur := cur) (cur' := upd cur u (cur u + 1)) (dx := dx) (tc := tc') (it := it) (key := .int w tw) (v0 := .ref (b.ea (u, w))) (k0 := (w : Int)) (by wtm_at "takes") hu hk1 his1 (upd_self) (fun i _ hne => upd_ne hne)
      clear S5
      dsimp only
      refine wpAny_execs_nil (wpAny_execs_nil (wpAny_execs_nil ?_))
      rw [succE_len] at hlt
      refine' hnext _ H (upd cur u (cur u + 1)) th (some (.int v tv)) (some (.ref (b.ea (u, v)))) ⟨I.bump hu hv hno hlt, PI0, hHs⟩ (mM_bump hu (by omega) hF) ?zz8
      case zz8 =>
        simp only [iF, F493, iS, mS, mR, List.cons_append, List.nil_append]
        wtm_at "fin"
    · clear S2
      intro hge s e tb tc' it' key' k1 v1 hk1 his1 S
      obtain ⟨w, hw, hwel, rfl, rfl⟩ := succE_at2 hk1
      obtain ⟨tw, rfl⟩ := isI_shape his1
      have S1 := S.takes (Xs := [exA e tb, exB tb .none, fam ((L, l) :: frs) frP]) (by wtm_at "takes")
      clear S
      show wpAny c.M A (noteFrame (.ref e) (env493 L)) _ _ _
      refine note2 S1 hfr (L := L) rfl FO2 ?_
      clear S1 tb; intro s tb S
      refine flight (fr := none) S ?_
      clear S; intro s S
      refine wpAny_handleBy_builtin (X := "StopIteration") (T := "StopIteration") (b := true) sub_stop_base sub_stop_tup isSubtype_stop ?_
      wtm_at "w"
      refine ⟨rfl, ?_, ?_⟩
      · obtain ⟨o, vs, ho, hc, -⟩ := S.get0
        exact ⟨o, ho, hc⟩
      rw [if_pos rfl]
      refine flight (fr := none) S ?_
      clear S; intro s S
      have S2 := S.takes (Xs := [fam ((L, l) :: frs) frP]) (by wtm_at "takes")
      have S3 : St c (frm L l :: fam frs frP :: _) s := S2.uncons
      clear S S2
      rw [hl] at S3
      simp only [F493] at S3
      have S5 := S3.shutS (l := List.range n) (f := fun i => dAt c (intKind Pg c.w) (b.aa i) (succE el b.ea i) (a.eps i)) (u := u) (by wtm_at "take") (by wtm_at "take") (mem_range hu)
      clear S3
      have S6 := S5.endCe (n := n) (u := u) (j := 0) (ce := a.ce) (aa := b.aa) (kv := fun i => succE el b.ea i) (eps := a.eps) (cur := cur) (cur' := upd cur u 0) (dx := dx) (tc := tc') (it := it') (key := .int w tw) (v0 := .ref (b.ea (u, w))) (k0 := (w : Int)) (by wtm_at "takes") hu hk1 his1 (upd_self) (fun i _ hne => upd_ne hne)
      clear S5
      have S7 : St c (exA e tb :: exB tb .none :: (frm L (F493 vG (some (.int s0 ts)) (some (.int t0 tt)) vcap vres (some (.bool false)) vcut (some (.ref b.g)) vRp (some (.int u tu)) ve vhs vq (some (.int (H u : Nat) th)) (some (.int v tv)) (some (.ref (b.ea (u, v)))) (some (.ref a.ca)) (some (.ref a.au)) (some (.ref a.re)) (some (.int F tf)) (some (.ref a.pa)) (some (.int n td)) (some (.bool false)) (some (.ref (a.ce u)))) :: (mS c L b a n el cF f H p ++ (fam (List.range n) (fun i => ceR c (a.ce i) (b.aa i) (succE el b.ea i) (a.eps i) (upd cur u 0 i)) :: fam frs frP :: R)))) s := by
        simp only [F493, mS, mR, List.cons_append, List.nil_append]
        simp only [Option.elim] at S6
        wtm_at "fin"
      clear S6
      obtain ⟨d, hd, Sh, back⟩ := S7.hold
      clear S7
      have Sk : St (c.hold e d hd) (frm L (F493 vG (some (.int s0 ts)) (some (.int t0 tt)) vcap vres (some (.bool false)) vcut (some (.ref b.g)) vRp (some (.int u tu)) ve vhs vq (some (.int (H u : Nat) th)) (some (.int v tv)) (some (.ref (b.ea (u, v)))) (some (.ref a.ca)) (some (.ref a.au)) (some (.ref a.re)) (some (.int F tf)) (some (.ref a.pa)) (some (.int n td)) (some (.bool false)) (some (.ref (a.ce u)))) :: (mS (c.hold e d hd) L b a n el cF f H p ++ (fam (List.range n) (fun i => ceR c (a.ce i) (b.aa i) (succE el b.ea i) (a.eps i) (upd cur u 0 i)) :: fam frs frP :: R))) s := Sh
      clear Sh
      have dry : Dry el cF f H u := I.dry hu hv hno (by rw [succE_len] at hge; exact hge)
      refine wpAny_mono (im_handler (c := c.hold e d hd) (k := k) (A := A.mark (some (.ref e))) (R := fam (List.range n) (fun i => ceR c (a.ce i) (b.aa i) (succE el b.ea i) (a.eps i) (upd cur u 0 i)) :: fam frs frP :: R) (p := p) (ts := ts) (tt := tt) (tu := tu) (th := th) (tf := tf) (td := td) (b := b) (vG := vG) (vcap := vcap) (vres := vres) (vcut := vcut) (vRp := vRp) (ve := ve) (vhs := vhs) (vq := vq) (vv := some (.int v tv)) (vat := some (.ref (b.ea (u, v)))) (vce := some (.ref (a.ce u))) Sk (rm.mark.le (by omega)) rfl hn hn2 N I PI0 (by omega) hut hHs dry hks ?_ ?_ ?_ ?_) (fun _ _ x => x) (fun _ _ x => x.elim)
      · simp only [F493, mS, mR, List.cons_append, List.nil_append]
        wtm_at "takes"
      · intro s' t hB Se
        have Sx : St c (exA e tb :: exB tb .none :: (mE c b a n el cF f F t ++ (fam (List.range n) (fun i => ceR c (a.ce i) (b.aa i) (succE el b.ea i) (a.eps i) (upd cur u 0 i)) :: fam frs frP :: R))) s' := back s' _ Se
        refine hret s' t hB ?_
        simp only [mE, List.cons_append, List.nil_append] at Sx ⊢
        clear Se Sk
        wtm_at "fin"
      · intro s' k' u' tu' th' hus hgt AIn PIn hu't hpl hHs' Se
        have Sx : St c (exA e tb :: exB tb .none :: (frm L (F493 vG (some (.int s0 ts)) (some (.int t0 tt)) vcap vres (some (.bool false)) vcut (some (.ref b.g)) vRp (some (.int u' tu')) ve vhs vq (some (.int (k' : Nat) th')) (some (.int v tv)) (some (.ref (b.ea (u, v)))) (some (.ref a.ca)) (some (.ref a.au)) (some (.ref a.re)) (some (.int F tf)) (some (.ref a.pa)) (some (.int n td)) (some (.bool false)) (some (.ref (a.ce u)))) :: (mS c L b a n el cF f (upd H u k') p.dropLast ++ (fam (List.range n) (fun i => ceR c (a.ce i) (b.aa i) (succE el b.ea i) (a.eps i) (upd cur u 0 i)) :: fam frs frP :: R)))) s' := back s' _ Se
        clear Se Sk
        have hHu : H u < n := by have := PI0.hs; omega
        refine hbrk s' (upd H u k') (upd cur u 0) p.dropLast u' tu' (some (.int (k' : Nat) th')) (some (.int v tv)) (some (.ref (b.ea (u, v)))) ⟨AIn, PIn, hHs'⟩ (mM_relabel hu hgt hHu hF) ?_
        simp only [iF, F493, iS, mS, mR, List.cons_append, List.nil_append] at Sx ⊢
        wtm_at "fin"
      · intro s' k' th' hus hgt hkn AIn PIn Se
        have Sx : St c (exA e tb :: exB tb .none :: (frm L (F493 vG (some (.int s0 ts)) (some (.int t0 tt)) vcap vres (some (.bool false)) vcut (some (.ref b.g)) vRp (some (.int u tu)) ve vhs vq (some (.int (k' : Nat) th')) (some (.int v tv)) (some (.ref (b.ea (u, v)))) (some (.ref a.ca)) (some (.ref a.au)) (some (.ref a.re)) (some (.int F tf)) (some (.ref a.pa)) (some (.int n td)) (some (.bool false)) (some (.ref (a.ce u)))) :: (mS c L b a n el cF f (upd H u k') p ++ (fam (List.range n) (fun i => ceR c (a.ce i) (b.aa i) (succE el b.ea i) (a.eps i) (upd cur u 0 i)) :: fam frs frP :: R)))) s' := back s' _ Se
        clear Se Sk
        have hHu : H u < n := by have := PI0.hs; omega
        dsimp only
        refine wpAny_execs_nil ?_
        refine hnext s' (upd H u k') (upd cur u 0) th' (some (.int v tv)) (some (.ref (b.ea (u, v)))) ⟨AIn, PIn, by rw [← hus, upd_self]; exact hkn⟩ (mM_relabel hu hgt hHu hF) ?_
        rw [upd_self]
        simp only [iF, F493, iS, mS, mR, List.cons_append, List.nil_append] at Sx ⊢
        wtm_at "fin"
  · have S := S2
    clear S2
    by_cases h1 : H u = H v + 1
    · refine ite_T (by simp; omega) ?_
      obtain ⟨c1, c2, S⟩ := S.openE (a := b.ea (u, v)) (cv := cF u v) (fv := f u v) (by wtm_at "take")
      wtm_at "ww"
      have S2 := S.backX (l := el) (f := fun e => eR c (b.ea e) (cF e.1 e.2) (f e.1 e.2)) (u := (u, v)) (X := dS c (b.ea (u, v)) [("capacity", .int (cF u v) c1), ("flow", .int (f u v) c2)]) (by wtm_at "take") (by wtm_at "take") (fun D hD => ⟨_, _, hD⟩) hvel
      clear S
      have S := S2
      clear S2
      by_cases h2 : f u v < cF u v
      · refine ite_T (by simp [h2]) ?_
        wtm_at "ww"
        refine' gm_appI (xs := zp p) S ?zz3 ?_
        case zz3 => wtm_at "take"
        wtm_at "ww"
        have hzl : (zp p).length = p.length := zp_len
        refine' li_app (xs := zp p) (x := (v : Int)) S ?zz4 (by omega) ?_
        case zz4 => wtm_at "take"
        clear S; intro s S
        have ez : zp p ++ [(v : Int)] = zp (p ++ [v]) := by simp [zp]
        rw [ez] at S
        wtm_at "ww"
        have S2 := S.endCe (n := n) (u := u) (j := cur u) (ce := a.ce) (aa := b.aa) (kv := fun i => succE el b.ea i) (eps := a.eps) (cur := cur) (cur' := cur) (dx := dx) (tc := tc) (it := it) (key := .int v tv) (v0 := .ref (b.ea (u, v))) (k0 := (v : Int)) (by wtm_at "takes") hu hk0 his rfl (fun _ _ _ => rfl)
        clear S
        refine' hbrk _ H cur (p ++ [v]) v tv _ (some (.int v tv)) (some (.ref (b.ea (u, v)))) ⟨I, PI0.adv hvel h2 h1, hHs⟩ ?zz5 ?zz6
        case zz5 => rw [List.length_append, List.length_singleton]; exact mM_adv hshort hF
        case zz6 =>
          simp only [iF, F493, iS, mS, mR, List.cons_append, List.nil_append]
          wtm_at "fin"
      · refine ite_F (by simp [h2]) (ite_F (by simp) ?_)
        refine wpAny_execs_nil ?_
        dsimp only
        exact tail _ (by wtm_at "fin") (fun h => h2 h.1)
    · have : ¬ ((H u : Int) = (H v : Int) + 1) := by omega
      refine ite_F (by simp [this]) (ite_F (by simp) ?_)
      refine wpAny_execs_nil ?_
      exact tail _ S (fun h => h1 h.2)

theorem ge_inf {c : Cx} {A : Around} {E : Value → Shared → Prop} {s : Shared} {n : Int} {t u : Tok} {Q : Value → Shared → Prop} (h : Q (.bool false) s) : wpAny c.M A (compareOp .GtE (.int n u) (.float infB t)) Q E s := by
  refine PyProof.Rows.ge_if ?_
  rw [cmp_inf]; exact h
theorem li_list {c : Cx} {A : Around} {E : Value → Shared → Prop} {P : List HP} {s : Shared} {x : Int} {t : Tok} {Q : Value → Shared → Prop} (S : St c P s) (h : ∀ s' a, St c (li a [x] :: P) s' → Q (.ref a) s') : wpAny c.M A (newList [.int x t]) Q E s :=
  l_new S (by simp) fun s' a S' => h s' a (S'.head_mono fun D hD => ⟨_, ⟨rfl, fun i y hy => by
    rcases i with _ | i
    · simp at hy; subst hy; exact ⟨t, rfl⟩
    · simp at hy⟩, hD⟩)
/-- the inner loop -/
theorem im_inner {c : Cx} {A : Around} {s : Shared} {P R : List HP} {k : Nat} {L : Addr} {b : GA} {a : MA} {n s0 t0 u : Nat} {el : List (Nat × Nat)} {cF f : Nat → Nat → Int} {H cur : Nat → Nat} {F : Int} {p : List Nat} {frs : List (Addr × List (Str × Option Value))} {outer : List Env} {ts tt tu th tf td : Tok} {vG vcap vres vcut vRp ve vhs vq vv vat : Option Value} {Q : Flow → Shared → Prop}
    (S : St c P s) (rm : Rm A (k + 12)) (hh : A.handled = none) (hx : c.hx = none) (hfr : A.frames = some (env493 L :: outer)) (FO : FrOk outer frs) (hn : n ≤ 100) (hn2 : 2 ≤ n) (hfew : el.length ≤ 1000) (N : Net n s0 t0 el cF) (I : InI n s0 t0 el cF f F H cur p u) (hse : succL el s0 ≠ []) (hut : u ≠ t0) (hks : (a.c2, qRel) ∈ a.ks)
    (tk : Takes (frm L (iF b a n s0 t0 u F ts tt tu tf td vG vcap vres vcut vRp ve vhs vq (some (.int (H u : Nat) th)) vv vat (some (.ref (a.ce u)))) :: iS c L b a n el cF f H cur p frs) P R)
    (hret : ∀ s' t, Best n s0 t0 cF f F → St c (mE c b a n el cF f F t ++ (fam frs frP :: R)) s' → Q (.ret (.ref b.g)) s')
    (hbrk : ∀ (s' : Shared) (H' cur' : Nat → Nat) (p' : List Nat) (u' : Nat) (tu' : Tok) (vht vv vat : Option Value), InI n s0 t0 el cF f F H' cur' p' u' → mM n el (capS n cF s0) H' cur' F p'.length < mM n el (capS n cF s0) H cur F p.length →
      St c (frm L (iF b a n s0 t0 u' F ts tt tu' tf td vG vcap vres vcut vRp ve vhs vq vht vv vat (some (.ref (a.ce u)))) :: (iS c L b a n el cF f H' cur' p' frs ++ R)) s' → Q .next s') :
    wpAny c.M A (exec (stAt (bodyOf (stAt d493.1.body 25)) 2) (env493 L)) Q NoE s := by
  replace S := S.takes tk
  clear tk
  refine while_rule (fun m s' => ∃ (H' cur' : Nat → Nat) (th : Tok) (vv vat : Option Value), InI n s0 t0 el cF f F H' cur' p u ∧ m = mM n el (capS n cF s0) H' cur' F p.length ∧ mM n el (capS n cF s0) H' cur' F p.length ≤ mM n el (capS n cF s0) H cur F p.length ∧
    St c (frm L (iF b a n s0 t0 u F ts tt tu tf td vG vcap vres vcut vRp ve vhs vq (some (.int (H' u : Nat) th)) vv vat (some (.ref (a.ce u)))) :: (iS c L b a n el cF f H' cur' p frs ++ R)) s') ?_ (mM n el (capS n cF s0) H cur F p.length) ⟨H, cur, th, vv, vat, I, rfl, Nat.le_refl _, S⟩
  clear S I vv vat th
  rintro m s ⟨H', cur', th, vv, vat, I, rfl, hle, S⟩
  refine wpAny_isTrue_value ?_
  refine wpAny_Constant_bool ?_
  refine wpAny_truthy_bool ?_
  rw [if_pos rfl]
  refine im_turn (k := k) (a := a) (b := b) (H := H') (cur := cur') (p := p) (u := u) (frs := frs) (outer := outer) (R := R) (vG := vG) (vcap := vcap) (vres := vres) (vcut := vcut) (vRp := vRp) (ve := ve) (vhs := vhs) (vq := vq) (vv := vv) (vat := vat) (ts := ts) (tt := tt) (tu := tu) (th := th) (tf := tf) (td := td) S rm hh hx hfr FO hn hn2 hfew N I hse hut hks ?_ ?_ ?_ ?_
  · simp only [iF, F493, iS, mS, mR, List.cons_append, List.nil_append]
    wtm_at "takes"
  · exact hret
  · intro s' H2 cur2 p2 u2 tu2 vht2 vv2 vat2 I2 hlt S2
    exact hbrk s' H2 cur2 p2 u2 tu2 vht2 vv2 vat2 I2 (Nat.lt_of_lt_of_le hlt hle) S2
  · intro s' H2 cur2 th2 vv2 vat2 I2 hlt S2
    exact ⟨_, hlt, H2, cur2, th2, vv2, vat2, I2, rfl, by omega, S2⟩

theorem im_main {c : Cx} {A : Around} {s : Shared} {P R : List HP} {k : Nat} {L : Addr} {b : GA} {a : MA} {n s0 t0 : Nat} {el : List (Nat × Nat)} {cF f : Nat → Nat → Int} {H cur : Nat → Nat} {F : Int} {frs : List (Addr × List (Str × Option Value))} {outer : List Env} {ts tt tu tf td tc : Tok} {vG vcap vres vRp ve vhs vq vht vv vat vce : Option Value} {Q : Flow → Shared → Prop}
    (S : St c P s) (rm : Rm A (k + 20)) (hh : A.handled = none) (hx : c.hx = none) (hfr : A.frames = some (env493 L :: outer)) (FO : FrOk outer frs) (hn : n ≤ 100) (hn2 : 2 ≤ n) (hfew : el.length ≤ 1000) (hnd : el.Nodup) (N : Net n s0 t0 el cF) (I : AI n s0 t0 el cF f H cur F) (hHs : H s0 < n) (hse : succL el s0 ≠ []) (hks : (a.c2, qRel) ∈ a.ks) (hks1 : (a.c1, qAug) ∈ a.ks)
    (hinf : 1 ≤ a.inf) (hinf2 : ∀ x < n, ∀ y < n, 2 * (cF x y + cF y x) ≤ a.inf)
    (tk : Takes (frm L (iF b a n s0 t0 s0 F ts tt tu tf td vG vcap vres (some (.float infB tc)) vRp ve vhs vq vht vv vat vce) :: iS c L b a n el cF f H cur [s0] frs) P R)
    (hret : ∀ s' f F t, Best n s0 t0 cF f F → St c (mE c b a n el cF f F t ++ (fam frs frP :: R)) s' → Q (.ret (.ref b.g)) s') :
    wpAny c.M A (exec (stAt d493.1.body 25) (env493 L)) Q NoE s := by
  have hA : A.handled = c.hx := hh.trans hx.symm
  replace S := S.takes tk
  clear tk
  refine while_rule (fun m s' => ∃ (f : Nat → Nat → Int) (H cur : Nat → Nat) (F : Int) (p : List Nat) (u : Nat) (pa : Addr) (tu tf : Tok) (vht vv vat vce : Option Value), InI n s0 t0 el cF f F H cur p u ∧ u ≠ t0 ∧ m = mM n el (capS n cF s0) H cur F p.length ∧
    St c (frm L (iF b { a with pa := pa } n s0 t0 u F ts tt tu tf td vG vcap vres (some (.float infB tc)) vRp ve vhs vq vht vv vat vce) :: (iS c L b { a with pa := pa } n el cF f H cur p frs ++ R)) s') ?_ (mM n el (capS n cF s0) H cur F 1) ⟨f, H, cur, F, [s0], s0, a.pa, tu, tf, vht, vv, vat, vce, ⟨I, PI.one, hHs⟩, N.st, rfl, S⟩
  clear S I hHs f H cur F tu tf vht vv vat vce
  rintro m s ⟨f, H, cur, F, p, u, pa, tu, tf, vht, vv, vat, vce, I, hut, rfl, S⟩
  have hu := I.pi.ult N
  simp only [iF, F493, iS, mS, mR, List.cons_append, List.nil_append] at S
  obtain ⟨tH, S⟩ := S.openN (a := b.na u) (hv := H u) (ce := a.ce u) (by wtm_at "take")
  wtm_at "ww"
  have S2 := S.backX (l := List.range n) (f := fun i => nR c (b.na i) (H i) (a.ce i)) (u := u) (X := dS c (b.na u) [("height", .int ((H u : Nat) : Int) tH), ("curr_edge", .ref (a.ce u))]) (by wtm_at "take") (by wtm_at "take") (fun D hD => ⟨tH, hD⟩) (mem_range hu)
  clear S
  refine im_inner (k := k) (a := { a with pa := pa }) (b := b) (H := H) (cur := cur) (p := p) (u := u) (F := F) (f := f) (frs := frs) (outer := outer) (R := R) (vG := vG) (vcap := vcap) (vres := vres) (vcut := some (.float infB tc)) (vRp := vRp) (ve := ve) (vhs := vhs) (vq := vq) (vv := vv) (vat := vat) (ts := ts) (tt := tt) (tu := tu) (th := tH) (tf := tf) (td := td) S2 (rm.le (by omega)) hh hx hfr FO hn hn2 hfew N I hse hut hks ?_ ?_ ?_
  · simp only [iF, F493, iS, mS, mR, List.cons_append, List.nil_append]
    wtm_at "takes"
  · intro s' t hB Sr
    exact hret s' f F t hB Sr
  · intro s' H' cur' p' u' tu' vht vv vat I' hlt S
    clear S2
    dsimp only
    simp only [iF, F493, iS, mS, mR, List.cons_append, List.nil_append] at S
    wtm_at "ww"
    by_cases ht : u' = t0
    · refine ite_T (by simp [ht]) ?_
      wtm_at "ww"
      refine callWith_F (fnAt S (by wtm_at "take")) ?_
      wtm_at "ww"
      refine ⟨fnAt S (by wtm_at "take"), ?_⟩
      wtm_at "ww"
      have hpz : p'.length ≤ 1000 := by have := I'.pi.hs; have := I'.hs; omega
      have PIt : PI el cF f H' s0 p' t0 := by rw [← ht]; exact I'.pi
      refine' wpAny_call (im_augment (k := k) (s0 := s0) (t0 := t0) (el := el) (cF := cF) (f := f) (hgt := H') (n := n) (p := p') (inf := a.inf) (ks := a.ks) S (rm.le (by omega)) hh hA hn N hnd I'.ai.fl PIt hpz hinf hinf2 hks1 ?zz5 ?_)
      case zz5 => wtm_at "takes"
      clear S; intro s d tdv g hd J S
      dsimp only
      wtm_at "ww"
      refine ge_inf ?_
      wtm_at "ww"
      have AIn := I'.ai.push N PIt J (by omega)
      have hcap := AIn.fl.le_capS N.hs N.ht N.st
      have hF := I'.ai.fl.pos
      have S2 := (S.take (X := lst nw [.int s0 ts]) (by wtm_at "take")).head_mono (X' := li nw (zp [s0])) fun D hD => ⟨_, ⟨rfl, fun i y hy => by
        rcases i with _ | i
        · simp [zp] at hy; subst hy; exact ⟨ts, rfl⟩
        · simp [zp] at hy⟩, hD⟩
      clear S
      refine ⟨_, Nat.lt_trans (mM_push (p' := ([s0] : List Nat).length) (by omega) hcap hF) hlt, g, H', cur', F + d, [s0], s0, nw, ts, t, vht, vv, vat, some (.ref (a.ce u)), ⟨AIn, PI.one, I'.hs⟩, N.st, rfl, ?_⟩
      simp only [iF, F493, iS, mS, mR, List.cons_append, List.nil_append]
      wtm_at "fin"
    · have hne : ¬ (u' : Int) = t0 := by omega
      refine ite_F (by simp [hne]) ?_
      refine wpAny_execs_nil ?_
      dsimp only
      refine wpAny_execs_nil ?_
      refine ⟨_, hlt, f, H', cur', F, p', u', pa, tu', tf, vht, vv, vat, some (.ref (a.ce u)), I', ht, rfl, ?_⟩
      simp only [iF, F493, iS, mS, mR, List.cons_append, List.nil_append]
      wtm_at "fin"

theorem Sat.famMono {ι : Type} {f g : ι → HP} : ∀ {l : List ι} {R : List HP} {d : PH}, (∀ i ∈ l, ∀ d, f i d → g i d) → Sat (l.map f ++ R) d → Sat (l.map g ++ R) d
  | [], _, _, _, h => h
  | x :: l, R, d, H, ⟨d1, d2, h1, h2, h3, h4, h5⟩ => ⟨d1, d2, h1, h2, h3, H x (.head _) _ h4, Sat.famMono (fun i hi => H i (.tail _ hi)) h5⟩
theorem St.famMono {c : Cx} {s : Shared} {R : List HP} {ι : Type} {l : List ι} {f g : ι → HP} (S : St c (fam l f :: R) s) (H : ∀ i ∈ l, ∀ d, f i d → g i d) : St c (fam l g :: R) s :=
  S.mono fun _ h => Sat.unflat (l := l.map g) (Sat.famMono H (Sat.flat (l := l.map f) h))
theorem d1_fin {c : Cx} {s : Shared} {P R : List HP} {a : Addr} {n : Int} {t : Tok} {vv : Value} {G : Shared → Prop} (S : St c P s) (tk : Take (dI c a []) P R) (h : ∀ s3, St c (dI c a [(n, vv)] :: R) s3 → G s3) :
    ∃ (n' : Int) (t' : Tok) (P2 R2 : List HP), Value.int n t = .int n' t' ∧ St c P2 s ∧ Take (dI c a []) P2 R2 ∧ ∀ s3, St c (dI c a [(n', vv)] :: R2) s3 → G s3 := ⟨n, t, P, R, rfl, S, tk, h⟩
def cK (V : GV) (cap : Nat × Nat → Int) (x y : Nat) : Int := if (x, y) ∈ kept V then cap (x, y) else 0
/-- the residual graph that is handed back -/
noncomputable abbrev rE (c : Cx) (b : GA) (n : Nat) (el : List (Nat × Nat)) (eps : Nat → Nat) (cF f : Nat → Nat → Int) (inf : Int) (ti2 : Tok) (F : Int) (t : Tok) : List HP :=
  [pt b.g (instObj 420 b.dx), dS c b.dx [("_pred", .ref b.pd), ("graph", .ref b.gd), ("_node", .ref b.nd), ("_adj", .ref b.ad)], dI c b.ad (idx n b.aa), fam (List.range n) fun i => dAt c (intKind Pg c.w) (b.aa i) (succE el b.ea i) (eps i), fam el fun e => eR c (b.ea e) (cF e.1 e.2) (f e.1 e.2), dS c b.gd [("inf", .int inf ti2), ("flow_value", .int F t)]]
theorem im_all {c : Cx} {A : Around} {s : Shared} {P R : List HP} {k : Nat} {a : GA} {V : GV} {cap : Nat × Nat → Int} {s0 t0 : Nat} {ts tt t1 : Tok} {frs : List (Addr × List (Str × Option Value))} {outer : List Env} {Rr : Result → Shared → Prop}
    (S : St c P s) (rm : Rm A (k + 60)) (hh : A.handled = none) (hx : c.hx = none) (hfr : A.frames = some outer) (FO : FrOk outer frs) (ok : V.Ok) (hel : V.el.length ≤ 400) (hV : V.n ≤ 90) (hs0 : s0 < V.n) (ht0 : t0 < V.n) (hst : s0 ≠ t0)
    (hcap : ∀ e ∈ V.el, ∃ t : Tok, V.eattr e = [(Str.ofString "capacity", Value.int (cap e) t)] ∧ 1 ≤ cap e)
    (tk : Takes (graphR c a V ++ [tabX 481 capQ [], tabX 476 resQ [], tabX 488 sapQ [], fam frs frP]) P R)
    (h : ∀ s' b el eps f F inf ti2 t, Best V.n s0 t0 (cK V cap) f F → (∀ e, e ∈ el ↔ (e ∈ kept V ∨ (e.2, e.1) ∈ kept V)) → St c (rE c b V.n el eps (cK V cap) f inf ti2 F t ++ (graphR c a V ++ (tabX 481 capQ [] :: tabX 476 resQ [] :: tabX 488 sapQ [] :: fam frs frP :: R))) s' → Rr (.ok (.ret (.ref b.g))) s') :
    codeAny c.M A (.call (.ref 493) ⟨[.ref a.g, .int s0 ts, .int t0 tt, .str "capacity" t1, .none, .bool false, .none], []⟩) Rr s := by
  have hA : A.handled = c.hx := hh.trans hx.symm
  have hz1 := ok.small
  have hz2 := ok.few
  replace S := S.takes tk
  clear tk
  refine' call_CF (binds := [("G", .ref a.g), ("s", .int s0 ts), ("t", .int t0 tt), ("capacity", .str "capacity" t1), ("residual", .none), ("two_phase", .bool false), ("cutoff", .none)]) (lb := [("G", .ref a.g), ("s", .int s0 ts), ("t", .int t0 tt), ("capacity", .str "capacity" t1), ("residual", .none), ("two_phase", .bool false), ("cutoff", .none)]) (cb := []) (cl := fun L => [("n", L + 4), ("inf", L + 3), ("R_succ", L + 2), ("R_nodes", L + 1)]) (cv := fun L => [(L + 4, none), (L + 3, none), (L + 2, none), (L + 1, none)]) S rm (by exact rfl) (by rfl) (BindsTo.of_eq rfl) rfl rfl (fun _ => rfl) (fun _ => rfl) ?hk (fun _ => rfl) rfl ?oth ?nd ?_
  case oth => wtm_at "oth"
  case nd => exact rfl
  case hk => wtm_at "hk"
  clear S; intro B L s rm hhB hfrB S env
  rw [hfr] at hfrB
  replace hA := hhB.trans hA
  replace hh := hhB.trans hh
  simp only [boundF, List.map_cons, List.map_nil, List.cons_append, List.nil_append, List.append_nil, graphR] at S
  wtm_at "ww"
  refine' notinG (x := a.g) S ?zz1 ?zz2 (g_contains (k := k) (n := V.n) (na := a.na) S (rm.le (by omega)) ?zz3 ?zz4 hs0 ?_)
  case zz1 => wtm_at "take"
  case zz2 => wtm_at "take"
  case zz3 => wtm_at "takes"
  case zz4 => wtm_at "at"
  clear S; intro s S
  simp only [List.cons_append, List.nil_append] at S
  dsimp only
  wtm_at "ww"
  refine' notinG (x := a.g) S ?zz5 ?zz6 (g_contains (k := k) (n := V.n) (na := a.na) S (rm.le (by omega)) ?zz7 ?zz8 ht0 ?_)
  case zz5 => wtm_at "take"
  case zz6 => wtm_at "take"
  case zz7 => wtm_at "takes"
  case zz8 => wtm_at "at"
  clear S; intro s S
  simp only [List.cons_append, List.nil_append] at S
  dsimp only
  wtm_at "ww"
  have hne : ¬ (s0 : Int) = t0 := by omega
  refine ite_F (by simp [hne]) ?_
  wtm_at "ww"
  refine' wpAny_call (build_res (k := k) (a := a) (V := V) (cap := cap) S (rm.le (by omega)) hA hx ok hel hV hcap ?zz9 ?_)
  case zz9 => simp only [graphR, List.cons_append, List.nil_append]; wtm_at "takes"
  clear S; intro s b W ti2 RI S
  dsimp only
  simp only [graphR, List.cons_append, List.nil_append] at S
  wtm_at "ww"
  refine' getGP S gp_nodes ?zna ?znb ?_
  case zna => wtm_at "take"
  case znb => wtm_at "take"
  clear S; intro s S
  refine' g_nodes (k := k) (x := b.g) S (rm.in1.le (by omega)) ?znc ?znd ?zne ?_
  case znc => wtm_at "take"
  case znd => wtm_at "take"
  case zne => wtm_at "at"
  clear S; intro s S
  refine ⟨rfl, ?_⟩
  dsimp only
  wtm_at "ww"
  refine' getGP S gp_pred ?zpa ?zpb ?_
  case zpa => wtm_at "take"
  case zpb => wtm_at "take"
  clear S; intro s S
  refine' g_pred (k := k) (x := b.g) S (rm.in1.le (by omega)) ?zpc ?zpd ?zpe ?_
  case zpc => wtm_at "take"
  case zpd => wtm_at "take"
  case zpe => wtm_at "at"
  clear S; intro s S
  refine ⟨rfl, ?_⟩
  dsimp only
  wtm_at "ww"
  refine' getGP S gp_succ ?zsa ?zsb ?_
  case zsa => wtm_at "take"
  case zsb => wtm_at "take"
  clear S; intro s S
  refine' g_succ (k := k) (x := b.g) S (rm.in1.le (by omega)) ?zsc ?zsd ?zse ?_
  case zsc => wtm_at "take"
  case zsd => wtm_at "take"
  case zse => wtm_at "at"
  clear S; intro s S
  refine ⟨rfl, ?_⟩
  dsimp only
  wtm_at "ww"
  have hnW := RI.hn
  have hcK : ∀ e ∈ W.el, ∃ t : Tok, W.eattr e = [(Str.ofString "capacity", Value.int (cK V cap e.1 e.2) t)] := fun e he => RI.at_ e he
  have enat : fam (List.range W.n) (fun i => dS c (b.na i) (W.nattr i)) = fam (List.range V.n) (fun i => dS c (b.na i) []) := by
    rw [hnW]; exact fam_congr fun i hi => by rw [RI.na i (List.mem_range.mp hi)]
  rw [enat, hnW] at S
  have S2 := (S.take (X := fam W.el fun e => dS c (b.ea e) (W.eattr e)) (by wtm_at "take")).famMono (g := fun e => e0R c (b.ea e) (cK V cap e.1 e.2)) fun e he d hd => by
    obtain ⟨t, ht⟩ := hcK e he
    rw [ht] at hd; exact ⟨t, hd⟩
  clear S
  have hlt : ∀ e ∈ W.el, e.1 < V.n ∧ e.2 < V.n := by rw [← hnW]; exact RI.ok.lt
  have hfew := RI.ok.few
  refine' im_flow (k := k) (n := V.n) (el := W.el) (cap := fun e => cK V cap e.1 e.2) S2 (rm.le (by omega)) hh hA (by omega) RI.ok.nd hlt hfew ?zf1 ?_
  case zf1 => simp only [F493, gBase, List.cons_append, List.nil_append]; wtm_at "takes"
  clear S2; intro s vu ve S
  simp only [F493, gBase, List.cons_append, List.nil_append] at S
  wtm_at "ww"
  refine dict1 S ?_
  clear S; intro s hd S
  wtm_at "ww"
  refine' d1_fin S ?zf2 ?_
  case zf2 => wtm_at "take"
  clear S; intro s S
  wtm_at "ww"
  rename_i qa
  refine' dq_make (l := nw) S hh ?zf3 ?_
  case zf3 => wtm_at "take"
  clear S; intro s qd S
  wtm_at "ww"
  have Nt : Net V.n s0 t0 W.el (cK V cap) := by
    refine ⟨fun h => hlt _ h, fun {x y} h => (RI.el (y, x)).mpr ((RI.el (x, y)).mp h).symm, fun {x y} h e => ?_, fun {x y} h => ?_, fun x y => ?_, hs0, ht0, hst⟩
    · subst e
      rcases (RI.el (x, x)).mp h with q | q
      · exact ((kept_mem ok).mp q).2 rfl
      · exact ((kept_mem ok).mp q).2 rfl
    · unfold cK
      rw [if_neg fun q => h ((RI.el (x, y)).mpr (.inl q))]
    · unfold cK
      split
      · rename_i q
        obtain ⟨t, -, q2⟩ := hcap _ ((kept_mem ok).mp q).1
        omega
      · exact Int.le_refl _
  have eh : ∀ tz : Tok, hk [(t0, 0, tz)] = [((t0 : Int), Value.int 0 tz)] := fun _ => rfl
  rw [← eh] at S
  have S2 := (S.take (X := tup qa [.int t0 tt, .int 0 _]) (by wtm_at "take")).head_mono (X' := tR (qa, (t0, 0))) fun D hD => ⟨_, _, hD⟩
  clear S
  have S : St c (fam ([qa].zip [(t0, 0)]) tR :: _) s := St.unflat (l := [tR (qa, (t0, 0))]) S2
  clear S2
  have hF0 : (fun e : Nat × Nat => eR c (b.ea e) ((fun e : Nat × Nat => cK V cap e.1 e.2) e) 0) = fun e => eR c (b.ea e) (cK V cap e.1 e.2) 0 := rfl
  refine' im_bfs (hs := [(t0, 0, _)]) (qs := [qa]) (q := [(t0, 0)]) (n := V.n) (s0 := s0) (t0 := t0) (el := W.el) (cF := cK V cap) S hh hA (by omega) Nt RI.ok.nd hfew (BI.start ht0) rfl (Nat.le_refl 1) ?zf4 ?_
  case zf4 => simp only [F493, List.map_cons, List.map_nil]; wtm_at "takes"
  clear S; intro s hs vu vht vv vat BIe S
  simp only [F493] at S
  dsimp only
  wtm_at "ww"
  obtain ⟨eps, S3⟩ := St.famEp (f := b.aa) (g := fun i => succE W.el b.ea i) List.nodup_range (S.take (X := fam (List.range V.n) fun i => dI c (b.aa i) (succE W.el b.ea i)) (by wtm_at "take"))
  clear S
  have S := S3
  clear S3
  have helK : ∀ e, e ∈ W.el ↔ (e ∈ kept V ∨ (e.2, e.1) ∈ kept V) := RI.el
  rw [hk_isSome]
  by_cases hsm : s0 ∈ (pr hs).map (·.1)
  · refine ite_F (by simp [hsm]) ?_
    refine wpAny_execs_nil ?_
    dsimp only
    wtm_at "ww"
    refine' lenG (x := a.g) S ?zh1 ?zh2 (g_len (k := k) (n := V.n) (na := a.na) S (rm.in1.le (by omega)) ?zh3 ?zh4 (by omega) ?_)
    case zh1 => wtm_at "take"
    case zh2 => wtm_at "take"
    case zh3 => wtm_at "takes"
    case zh4 => wtm_at "at"
    clear S; intro s tl S
    simp only [List.cons_append, List.nil_append] at S
    refine ⟨⟨by omega, by omega⟩, fun tn => ?_⟩
    have S2 := S.tok (t := s.toks + 1)
    clear S
    revert S2
    generalize ({ s with toks := s.toks + 1 } : Shared) = s2
    intro S
    wtm_at "ww"
    refine' im_nodes (k := k) (n := V.n) (el := W.el) (hs := hs) (eps := eps) S (rm.le (by omega)) hh hA (by omega) hfew ?zh5 ?_
    case zh5 => simp only [F493, gBase, List.cons_append, List.nil_append]; wtm_at "takes"
    clear S; intro s ce vu S
    simp only [F493, gBase, List.cons_append, List.nil_append] at S
    wtm_at "ww"
    have hn2 : 2 ≤ V.n := by omega
    refine' li_new (v := .none) (l := nw) (x := 0) S ?zh6 (by omega) (by omega) ?_
    case zh6 => wtm_at "take"
    clear S; intro s ca S
    rw [show (2 * (V.n : Int) - 1).toNat = 2 * V.n - 1 by omega] at S
    have hHn : ∀ i < V.n, hOf V.n (pr hs) i ≤ V.n := (BIe.ready Nt hsm).1.hn
    wtm_at "ww"
    refine' im_counts (k := k) (n := V.n) (m := 2 * V.n - 1) (H := hOf V.n (pr hs)) (ce := ce) S (rm.le (by omega)) hh hA (by omega) (by omega) (fun i hi => by have := hHn i hi; omega) ?zh7 ?_
    case zh7 => simp only [F493, gBase, List.cons_append, List.nil_append]; wtm_at "takes"
    clear S; intro s vu S
    simp only [F493, gBase, List.cons_append, List.nil_append] at S
    wtm_at "ww"
    refine nestDef_K rfl rfl rfl ?_
    refine' mk_fn (qual := qAug) (T := 488) (qs := sapQ) (ks := []) S ?zi1 (ch_sap _ c.K) (by exact .head _) ?zi2 (by rfl) ?_
    case zi1 => wtm_at "take"
    case zi2 =>
      intro p hp hq
      rcases List.mem_cons.mp hp with rfl | hp
      · rfl
      · rcases List.mem_cons.mp hp with rfl | hp
        · exact absurd hq (by decide)
        · cases hp
    intro s1 au c1 t1v d1 p1 S1
    clear S
    have S : St c (pt au (auO L c1 d1 p1 t1v) :: tabX 488 sapQ [(c1, qAug)] :: _) s1 := S1
    clear S1
    wtm_at "ww"
    refine nestDef_K rfl rfl rfl ?_
    refine' mk_fn (qual := qRel) (T := 488) (qs := sapQ) (ks := [(c1, qAug)]) S ?zi3 (ch_sap _ c.K) (by exact .tail _ (.head _)) ?zi4 (by rfl) ?_
    case zi3 => wtm_at "take"
    case zi4 =>
      intro p hp hq
      rcases List.mem_cons.mp hp with rfl | hp
      · exact absurd hq (by decide)
      · rcases List.mem_cons.mp hp with rfl | hp
        · rfl
        · cases hp
    intro s2 re c2 t2v d2 p2 S1
    clear S
    have S : St c (pt re (reO L c2 d2 p2 t2v) :: tabX 488 sapQ [(c2, qRel), (c1, qAug)] :: _) s2 := S1
    clear S1
    wtm_at "ww"
    refine float_inf (by assumption) hh ?_
    wtm_at "stS"
    rename_i tcut
    obtain ⟨AI0, hH0⟩ := BIe.ready Nt hsm
    obtain ⟨tH, S⟩ := S.openN (a := b.na s0) (hv := hOf V.n (pr hs) s0) (ce := ce s0) (by wtm_at "take")
    wtm_at "ww"
    have S2 := S.backX (l := List.range V.n) (f := fun i => nR c (b.na i) (hOf V.n (pr hs) i) (ce i)) (u := s0) (X := dS c (b.na s0) [("height", .int ((hOf V.n (pr hs) s0 : Nat) : Int) tH), ("curr_edge", .ref (ce s0))]) (by wtm_at "take") (by wtm_at "take") (fun D hD => ⟨tH, hD⟩) (mem_range hs0)
    clear S
    have S3 := (S2.take (X := lst nw [.int s0 ts]) (by wtm_at "take")).head_mono (X' := li nw (zp [s0])) fun D hD => ⟨_, ⟨rfl, fun i y hy => by
        rcases i with _ | i
        · simp [zp] at hy; subst hy; exact ⟨ts, rfl⟩
        · simp [zp] at hy⟩, hD⟩
    clear S2
    have ed : decide ((V.n : Int) ≤ ((hOf V.n (pr hs) s0 : Nat) : Int)) = false := by simp; omega
    rw [ed] at S3
    have hK1 : ∀ e ∈ kept V, 1 ≤ cap e := fun e he => (hcap e ((kept_mem ok).mp he).1).elim fun _ h => h.2
    have hse : succL W.el s0 ≠ [] := by
      obtain ⟨⟨x, d⟩, hx1, hx2⟩ := List.mem_map.mp hsm
      dsimp only at hx2
      subst hx2
      obtain ⟨y, hy⟩ := BIe.adj x d hx1 hst
      have := mem_succL.mpr hy
      intro z
      rw [z] at this; cases this
    refine' im_main (k := k) (L := L) (a := ⟨ca, au, re, c1, c2, nw, d1, p1, t1v, d2, p2, t2v, ce, eps, [(c2, qRel), (c1, qAug)], infOf cap (kept V), ti2, tn, ti2⟩) (b := b) (n := V.n) (s0 := s0) (t0 := t0) (el := W.el) (cF := cK V cap) (f := fun _ _ => 0) (H := hOf V.n (pr hs)) (cur := fun _ => 0) (F := 0) (frs := frs) (outer := outer) S3 (rm.le (by omega)) hh hx hfrB FO (by omega) hn2 hfew RI.ok.nd Nt AI0 hH0 hse (by simp) (by simp) (infOf_one hK1) (fun x _ y _ => infOf_two hK1 (kept_nodup ok.nd) (fun e he => ((kept_mem ok).mp he).2) x y) ?zm1 ?zm2
    case zm1 =>
      simp only [iF, F493, iS, mS, mR, List.cons_append, List.nil_append]
      wtm_at "takes"
    case zm2 =>
      intro s' f F t hB Sr
      clear S3
      simp only [mE, rE, graphR, List.cons_append, List.nil_append] at Sr
      have S3 := (Sr.take (X := tabX 488 sapQ [(c2, qRel), (c1, qAug)]) (by wtm_at "take")).head_mono (X' := tabX 488 sapQ []) (tabX_weak fun k hk => nomatch hk)
      clear Sr
      refine' h _ b W.el eps f F _ _ _ hB helK ?zm3
      case zm3 =>
        simp only [rE, graphR, List.cons_append, List.nil_append]
        wtm_at "fin"
  · refine ite_T (by simp [hsm]) ?_
    wtm_at "ww"
    rw [show ∀ (v : Value) (t : Tok), stored ([(Str.ofString "inf", v)] : List (Str × Value)) (Str.ofString "flow_value") (Value.int 0 t) = [(Str.ofString "inf", v), (Str.ofString "flow_value", Value.int 0 t)] from fun _ _ => rfl] at S
    refine' h _ b W.el eps (fun _ _ => 0) 0 _ _ _ (BIe.stuck Nt hsm) helK ?zg1
    case zg1 =>
      simp only [rE, graphR, List.cons_append, List.nil_append]
      wtm_at "fin"

/-! shortest_augmenting_path -/
section
variable {c : Cx} {A : Around} {s : Shared} {P R : List HP} {k : Nat} {f : Addr} {oc od : _} {osl : _} {name qual : Str} {params : Arguments} {body : List Stmt} {scope : Scope} {cl : List (Str × Addr)} {dV kV doc pm cdv ct : Value} {an : _} {args : Args} {binds : List (Str × Value)} {oth : List (Str × Option Value)} {Rr : Result → Shared → Prop} {outer : List Env}
theorem call_KF (S : St c P s) (rm : Rm A (k + 1)) (hfr : A.frames = some outer) (ho : (hd.heap_39 c.w.params).lookup f = some ⟨oc, od, .func (fnX name qual params body scope cl dV kV doc pm an cdv ct), osl⟩) (hcd : codeIn (hd.heap_39 c.w.params) cdv qual = true)
    (hbind : BindsTo s (fnX name qual params body scope cl dV kV doc pm an cdv ct) args binds) (hloc : ∀ y ∈ binds, scope.names.lookup y.1 = some .local)
    (hoth : Oth (binds.map (·.1)) scope.names oth) (hnd : nodupB (binds.map (·.1) ++ oth.map (·.1)) = true)
    (h : ∀ B L s₁, Rm B k → B.handled = A.handled → B.frames = some (envX qual scope L f cdv cl :: outer) → St c (frm L (boundF binds ++ oth) :: P) s₁ → (let env := envX qual scope L f cdv cl; wpAny c.M B (execs body env)
        (fun fl s' => Rr (.ok (.ret (match fl with | .ret v => v | _ => .none))) s') (fun _ _ => False) s₁))
    (hco : scope.isCoroutine = false := by rfl) (hgen : scope.isGenerator = false := by rfl) (hk : scope.kind = .function := by rfl) (hcell : ∀ x ∈ scope.names, x.2 ≠ .cell := by decide) :
    codeAny c.M A (.call (.ref f) args) Rr s :=
  call_KE S rm hfr ho hcd hbind hloc hoth hnd (fun B L s₁ r1 r2 r3 S₁ => wpAny_mono (h B L s₁ r1 r2 r3 S₁) (fun _ _ x => x) fun _ _ x => x.elim) hco hgen hk hcell
end
theorem St.abstr {c : Cx} {s : Shared} {P : List HP} {L : Addr} {l : List (Str × Option Value)} (S : St c (frm L l :: P) s) : ∃ l', l' = l ∧ St c (frm L l' :: P) s := ⟨l, rfl, S⟩
/-- the residual graph, marked -/
noncomputable abbrev rS (c : Cx) (b : GA) (n : Nat) (el : List (Nat × Nat)) (eps : Nat → Nat) (cF f : Nat → Nat → Int) (inf : Int) (ti2 : Tok) (F : Int) (t : Tok) (w : Value) : List HP :=
  [pt b.g (instObj 420 b.dx), dS c b.dx [("_pred", .ref b.pd), ("graph", .ref b.gd), ("_node", .ref b.nd), ("_adj", .ref b.ad)], dI c b.ad (idx n b.aa), fam (List.range n) fun i => dAt c (intKind Pg c.w) (b.aa i) (succE el b.ea i) (eps i), fam el fun e => eR c (b.ea e) (cF e.1 e.2) (f e.1 e.2), dS c b.gd [("inf", .int inf ti2), ("flow_value", .int F t), ("algorithm", w)]]
theorem sap_all {c : Cx} {A : Around} {s : Shared} {P R : List HP} {k : Nat} {a : GA} {V : GV} {cap : Nat × Nat → Int} {s0 t0 : Nat} {ts tt : Tok} {frs : List (Addr × List (Str × Option Value))} {outer : List Env} {Rr : Result → Shared → Prop}
    (S : St c P s) (rm : Rm A (k + 61)) (hh : A.handled = none) (hx : c.hx = none) (hfr : A.frames = some outer) (FO : FrOk outer frs) (ok : V.Ok) (hel : V.el.length ≤ 400) (hV : V.n ≤ 90) (hs0 : s0 < V.n) (ht0 : t0 < V.n) (hst : s0 ≠ t0)
    (hcap : ∀ e ∈ V.el, ∃ t : Tok, V.eattr e = [(Str.ofString "capacity", Value.int (cap e) t)] ∧ 1 ≤ cap e)
    (tk : Takes (graphR c a V ++ [tabX 481 capQ [], tabX 476 resQ [], tabX 488 sapQ [], fam frs frP]) P R)
    (h : ∀ s' b el eps f F inf ti2 t w, Best V.n s0 t0 (cK V cap) f F → (∀ e, e ∈ el ↔ (e ∈ kept V ∨ (e.2, e.1) ∈ kept V)) → St c (rS c b V.n el eps (cK V cap) f inf ti2 F t w ++ (graphR c a V ++ (tabX 481 capQ [] :: tabX 476 resQ [] :: tabX 488 sapQ [] :: fam frs frP :: R))) s' → Rr (.ok (.ret (.ref b.g))) s') :
    codeAny c.M A (.call (.ref 501) ⟨[.ref a.g, .int s0 ts, .int t0 tt], []⟩) Rr s := by
  replace S := S.takes tk
  clear tk
  refine' call_KF (k := k + 60) (binds := [("G", .ref a.g), ("s", .int s0 ts), ("t", .int t0 tt), ("capacity", .str "capacity" _), ("residual", .none), ("value_only", .bool false), ("two_phase", .bool false), ("cutoff", .none)]) S rm hfr (by exact rfl) (by rfl) (binds_K S.K rfl (by exact rfl) rfl rfl rfl) (locs rfl) ?oth ?nd ?_
  case oth => wtm_at "oth"
  case nd => exact rfl
  clear S
  intro B L s rm hhB hfrB S env
  replace hh := hhB.trans hh
  simp only [boundF, List.map_cons, List.map_nil, List.cons_append, List.nil_append, List.append_nil, graphR] at S
  wtm_at "ww"
  obtain ⟨l, hl, S0⟩ := S.abstr
  clear S
  have S1 := S0.takes (Xs := [frm L l, fam frs frP]) (by wtm_at "takes")
  have S2 : St c (fam ((L, l) :: frs) frP :: _) s := S1.mono fun _ h => Sat.consFam (f := frP) (u := (L, l)) h
  simp only [List.append_eq, List.cons_append, List.nil_append] at S2
  clear S0 S1
  have FO2 : FrOk (env :: outer) ((L, l) :: frs) := ⟨show ScopeKind.function ≠ .module by decide, rfl, FO⟩
  refine' wpAny_call (im_all (k := k) (a := a) (V := V) (cap := cap) (outer := env :: outer) (frs := (L, l) :: frs) S2 (rm.le (by omega)) hh hx hfrB FO2 ok hel hV hs0 ht0 hst hcap ?zz1 ?_)
  case zz1 =>
    simp only [graphR, List.cons_append, List.nil_append]
    wtm_at "takes"
  clear S2
  intro s b el eps f F inf ti2 tf hB hEl S
  simp only [rE, graphR, List.cons_append, List.nil_append] at S
  have S2 := S.takes (Xs := [fam ((L, l) :: frs) frP]) (by wtm_at "takes")
  have S3 : St c (frm L l :: fam frs frP :: _) s := S2.uncons
  clear S S2
  rw [hl] at S3
  simp only [List.append_eq, List.cons_append, List.nil_append] at S3
  have S := S3
  clear S3
  dsimp only
  wtm_at "ww"
  rw [show stored ([(Str.ofString "inf", Value.int inf ti2), (Str.ofString "flow_value", Value.int F tf)] : List (Str × Value)) (Str.ofString "algorithm") _ = [(Str.ofString "inf", Value.int inf ti2), (Str.ofString "flow_value", Value.int F tf), (Str.ofString "algorithm", _)] from rfl] at S
  refine' h _ b el eps f F _ _ _ _ hB hEl ?zz2
  case zz2 =>
    simp only [rS, graphR, List.cons_append, List.nil_append]
    wtm_at "fin"

/-! dicts whose keys are pairs of ints -/
theorem erase_map {α β : Type} (f : α → β) : ∀ (l : List α) (i : Nat), (l.map f).eraseIdx i = (l.eraseIdx i).map f
  | [], _ => by simp
  | a :: l, 0 => by simp
  | a :: l, i + 1 => by simp [erase_map f l i]
section
variable {prog : Program} {w : World} {K : Type} [DecidableEq K] {knd : HeapKind prog w K} {A : Around} {E : Value → Shared → Prop} {s : Shared}
theorem sdH {d a : Addr} {xs : List (K × Addr × Value)} {k : K} {dflt : Value} {Q : Value → Shared → Prop} (hu : knd.room A) (hkey : knd.is s.heap k a) (hm : s.heap.DictOfH knd d xs)
    (h1 : ∀ p, atKey xs k = some p → Q p.2 { s with toks := s.toks + knd.draws k })
    (h2 : atKey xs k = none → ∀ h', h'.DictOfH knd d (xs ++ [(k, a, dflt)]) → Heap.SameBut d s.heap h' → Q dflt { s with heap := h', toks := s.toks + knd.draws k })
    (hsz : xs.length ≤ sizeLine) :
    wpAny (model prog w) A (dictSetDefault d (.ref a) dflt) Q E s := by
  obtain ⟨o, es, ep, ho, hc, hd, he, his, hn⟩ := hm
  unfold dictSetDefault
  try with_reducible refine wpAny_holding ?_
  refine wpAny_bind (knd.pyHash hu hkey ?_)
  refine wpAny_bind (wpAny_dictFind_heap (s := { s with toks := s.toks + knd.draws k }) hu hkey ho hd he his hn ?_ ?_)
  · intro hno
    have hnot : k ∉ xs.map (·.1) := not_mem_keys_of_get hno
    refine wpAny_bind (wpAny_rule (wpAny_bind (wpAny_updateDictKeys (hz := by have e := size_of_entries he; omega) (s := { s with toks := s.toks + knd.draws k }) ho hd (wpAny_pure (h2 (atKey_none_of_get hno) _ ⟨_, _, ep + 1, Heap.get?_update_self _ ho (Obj.isFreed_of_dict (Obj.data_mapDictKeys hd _)),
      hc.mapDictKeys _, Obj.data_mapDictKeys hd _, ?_, ?_, ?_⟩ (Heap.SameBut.update ..))))))
    · simp [he, entryOfKey]
    · intro x hx
      rcases List.mem_append.mp hx with hx | hx
      · exact knd.keeps (his x hx) ho hd (Heap.SameBut.update ..)
      · simp only [List.mem_singleton] at hx
        subst hx
        exact knd.keeps hkey ho hd (Heap.SameBut.update ..)
    · rw [List.map_append, List.nodup_append]
      refine ⟨hn, by simp, ?_⟩
      intro x hx y hy
      simp only [List.map_cons, List.map_nil, List.mem_singleton] at hy
      subst hy
      exact fun e => hnot (e ▸ hx)
  · intro j p hj
    refine wpAny_bind (wpAny_dictEntries (s := { s with toks := s.toks + knd.draws k }) ho hd ?_)
    rw [entry_at he j, hj]
    exact wpAny_bind (wpAny_rule (wpAny_pure (h1 p (atKey_of_get hn hj))))
theorem toH {d a : Addr} {xs : List (K × Addr × Value)} {k : K} {p : Addr × Value} {Q : Option DictEntry → Shared → Prop} (hu : knd.room A) (hkey : knd.is s.heap k a) (hm : s.heap.DictOfH knd d xs) (hp : atKey xs k = some p)
    (h : ∀ e h' j, e.val = p.2 → xs[j]? = some (k, p) → h'.DictOfH knd d (xs.eraseIdx j) → Heap.SameBut d s.heap h' → Q (some e) { s with heap := h', toks := s.toks + knd.draws k })
    (hsz : xs.length ≤ sizeLine) :
    wpAny (model prog w) A (Builtin.Dict.takeOut d (.ref a)) Q E s := by
  obtain ⟨o, es, ep, ho, hc, hd, he, his, hn⟩ := hm
  unfold Builtin.Dict.takeOut
  try with_reducible refine wpAny_holding ?_
  refine wpAny_bind (knd.pyHash hu hkey ?_)
  refine wpAny_bind (wpAny_dictFind_heap (s := { s with toks := s.toks + knd.draws k }) hu hkey ho hd he his hn ?_ ?_)
  · intro hno
    rw [atKey_none_of_get hno] at hp; cases hp
  · intro j q hj
    obtain rfl : q = p := by rw [atKey_of_get hn hj] at hp; exact Option.some.inj hp
    refine wpAny_bind (wpAny_dictEntries (s := { s with toks := s.toks + knd.draws k }) ho hd ?_)
    rw [entry_at he j, hj]
    refine wpAny_bind (wpAny_updateDictKeys (hz := by have e := size_of_entries he; omega) (s := { s with toks := s.toks + knd.draws k }) ho hd (wpAny_pure (h _ _ j rfl hj ⟨_, _, ep + 1, Heap.get?_update_self _ ho (Obj.isFreed_of_dict (Obj.data_mapDictKeys hd _)),
      hc.mapDictKeys _, Obj.data_mapDictKeys hd _, ?_, ?_, ?_⟩ (Heap.SameBut.update ..))))
    · obtain ⟨l⟩ := es
      have he' : l = xs.map (entryOfKey knd) := he
      have hlt : j < l.length := by rw [he', List.length_map]; exact (List.getElem?_eq_some_iff.mp hj).1
      simp only [Array.eraseIdxIfInBounds, List.size_toArray, hlt, dif_pos, List.eraseIdx_toArray]
      subst he'
      rw [erase_map]
    · intro x hx
      exact knd.keeps (his x (List.mem_of_mem_eraseIdx hx)) ho hd (Heap.SameBut.update ..)
    · rw [← erase_map]
      exact hn.sublist (List.eraseIdx_sublist ..)
theorem meetsH_setdefault {d a : Addr} (hd : (d == sysModules) = false) (dflt : Value) :
    MeetsIn prog w (Builtin.«dict.setdefault» ⟨[.ref d, .ref a, dflt], []⟩) (fun A R s => knd.room A.in1 ∧ ∃ k xs, knd.is s.heap k a ∧ s.heap.DictOfH knd d xs ∧ xs.length ≤ sizeLine ∧
      (∀ p, atKey xs k = some p → R (.ok (.ret p.2)) { s with toks := s.toks + knd.draws k }) ∧
      (atKey xs k = none → ∀ h', h'.DictOfH knd d (xs ++ [(k, a, dflt)]) → Heap.SameBut d s.heap h' → R (.ok (.ret dflt)) { s with heap := h', toks := s.toks + knd.draws k })) :=
  .of_wp fun A R s ⟨hu, k, xs, hkey, hm, hz, h1, h2⟩ => by
    unfold Builtin.«dict.setdefault»
    refine wpAny_bind ?_
    unfold Builtin.Dict.keyAndDefault
    refine wpAny_bind (wpAny_notOrdered_dict hm.typeIs ?_)
    show wpAny _ _ (pure (d, Value.ref a, some dflt)) _ _ s
    refine wpAny_pure ?_
    show wpAny _ _ (if (d == sysModules) = true then _ else (dictSetDefault d (.ref a) dflt >>= _)) _ _ s
    rw [if_neg (by rw [hd]; exact Bool.false_ne_true)]
    exact wpAny_bind (sdH (hsz := hz) hu hkey hm (fun v hv => wpAny_pure ⟨_, rfl, h1 v hv⟩) fun hn h' hm' hs' => wpAny_pure ⟨dflt, rfl, h2 hn h' hm' hs'⟩)
theorem meetsH_pop {d a : Addr} :
    MeetsIn prog w (Builtin.«dict.pop» ⟨[.ref d, .ref a], []⟩) (fun A R s => knd.room A.in1 ∧ ∃ k xs p, knd.is s.heap k a ∧ s.heap.DictOfH knd d xs ∧ xs.length ≤ sizeLine ∧ atKey xs k = some p ∧
      (∀ h' j, xs[j]? = some (k, p) → h'.DictOfH knd d (xs.eraseIdx j) → Heap.SameBut d s.heap h' → R (.ok (.ret p.2)) { s with heap := h', toks := s.toks + knd.draws k })) :=
  .of_wp fun A R s ⟨hu, k, xs, p, hkey, hm, hz, hp, h⟩ => by
    unfold Builtin.«dict.pop»
    refine wpAny_bind ?_
    unfold Builtin.Dict.keyAndDefault
    refine wpAny_bind (wpAny_notOrdered_dict hm.typeIs ?_)
    show wpAny _ _ (pure (d, Value.ref a, none)) _ _ s
    refine wpAny_pure ?_
    obtain ⟨o, es, ep, ho, hc, hdd, he, his, hn⟩ := id hm
    have hkp : (keyPart (Value.ref a)).isSome = false := rfl
    have hne : es.isEmpty = false := by
      cases xs with
      | nil => simp [atKey] at hp
      | cons x r => have := size_of_entries he; simp only [List.length_cons] at this; rw [Array.isEmpty_eq_false_iff]; intro q; rw [q] at this; simp at this
    dsimp only
    rw [hkp]
    simp only [Bool.false_eq_true, if_false]
    refine wpAny_bind (wpAny_dictEntries ho hdd ?_)
    refine wpAny_bind (wpAny_pure ?_)
    rw [hne]
    simp only [Bool.false_eq_true, if_false]
    refine wpAny_bind (toH (hsz := hz) hu hkey hm hp fun e h' j hev hj hm' hs' => ?_)
    simp only [Option.isNone_some, Bool.false_eq_true, if_false]
    exact wpAny_bind (wpAny_letGo (wpAny_pure ⟨e.val, rfl, by rw [hev]; exact h h' j hj hm' hs'⟩))
end

/-! a dict read raw; dicts with keys that are pairs of ints -/
section
variable {prog : Program} {w : World} {A : Around} {E : Value → Shared → Prop} {s : Shared}
def RawD (h : Heap) (d : Addr) (es : Array DictEntry) (ep : Nat) : Prop := ∃ o, h.get? d = some o ∧ o.ExactDict ∧ o.data = .dict es ep
theorem raw_iter {d : Addr} {es : Array DictEntry} {ep : Nat} {Q : Value → Shared → Prop} (hd : (d == sysModules) = false) (hm : RawD s.heap d es ep)
    (hQ : Q (.ref s.heap.objs.size) { s with heap := s.heap.push { cls := .type "dict_keyiterator", data := .fields #[.ref d, .int 0 0, .int es.size 0, .int ep 0] } }) :
    wpAny (model prog w) A (pyIter (.ref d)) Q E s := by
  obtain ⟨o, ho, hc, hdat⟩ := hm
  have hT : s.TypeIs (.ref d) "dict" := ⟨o, ho, hc.1⟩
  refine wpAny_pyIter_slot hT F.slot_dict_iter (wpAny_call_entry F.slot_dict_iter hT F.entry_dict_iter ?_ (F.args_dict_iter_1 _))
  unfold Builtin.«dict.__iter__»
  refine wpAny_bind ?_
  unfold Builtin.Dict.dictSlotNone
  refine wpAny_bind (wpAny_notOrdered_dict hT ?_)
  refine wpAny_pure ?_
  show wpAny _ _ (Builtin.Dict.showsAll d >>= _) _ _ s
  unfold Builtin.Dict.showsAll
  rw [if_neg (by rw [hd]; exact Bool.false_ne_true)]
  refine wpAny_bind (wpAny_pure (wpAny_bind (wpAny_dictEntries ho hdat (wpAny_bind (wpAny_dictEpoch ho hdat (wpAny_bind (wpAny_newObj_type (wpAny_pure ⟨_, rfl, "dict_keyiterator", _, ⟨_, Heap.get?_push_size _ rfl, rfl⟩, F.slot_dict_keyiterator_next.lookup, ?_⟩))))))))
  simpa [rawInt] using hQ
theorem raw_next {it d : Addr} {i ep : Nat} {es : Array DictEntry} {Q : Option Value → Shared → Prop} (hit : s.heap.IsKeyIter it d i es.size ep) (hm : RawD s.heap d es ep) (hi : i < es.size)
    (hQ : ∀ h', h'.IsKeyIter it d (i + 1) es.size ep → Heap.SameBut it s.heap h' → Q (some es[i].key) { s with heap := h' }) :
    wpAny (model prog w) A (pyNext (.ref it)) Q E s := by
  obtain ⟨o, ho, hc, hd⟩ := id hit
  obtain ⟨od, hod, hcd, hdd⟩ := hm
  unfold pyNext
  refine wpAny_bind (wpAny_attempt (wpAny_callSpecial?_slot (name := Str.ofString "__next__") hit.typeIs F.slot_dict_keyiterator_next
    (wpAny_call_entry F.slot_dict_keyiterator_next hit.typeIs F.entry_dict_keyiterator_next ?_ (F.args_dict_keyiterator_next_1 _))))
  refine wpAny_bind (wpAny_pure (wpAny_bind (wpAny_bind ?_)))
  first | refine wpAny_bind (wpAny_typeNameOfWhole_keyiter hit.typeIs (wpAny_pure ?_)) | refine wpAny_bind (wpAny_typeNameOf_keyiter hit.typeIs (wpAny_pure ?_))
  refine wpAny_bind (wpAny_fieldsOf ho hd ?_)
  simp only [show Builtin.Dict_items.ownsTuple "dict_keyiterator" = false by decide, Bool.false_eq_true, if_false]
  show wpAny _ _ (if (Value.ref d == Value.none) = true then _ else _) _ _ s
  rw [if_neg (show ¬ ((Value.ref d == Value.none) = true) from Bool.false_ne_true)]
  refine wpAny_bind (wpAny_pure (wpAny_bind (wpAny_dictEntries hod hdd ?_)))
  rw [if_neg (by simp)]
  refine wpAny_bind (wpAny_pure (wpAny_bind (wpAny_dictEpoch hod hdd ?_)))
  rw [if_neg (by simp)]
  refine wpAny_pure ?_
  simp only [show ¬ ((i : Int) < 0) from by omega, if_false, Int.toNat_natCast, Array.getElem?_eq_getElem hi]
  refine wpAny_bind ?_
  first | refine wpAny_bind (wpAny_typeNameOfWhole_keyiter hit.typeIs (wpAny_pure ?_)) | refine wpAny_bind (wpAny_typeNameOf_keyiter hit.typeIs (wpAny_pure ?_))
  refine wpAny_bind (wpAny_isOneOf_keyiter hit.typeIs ?_)
  show wpAny _ _ (setField (.ref it) 1 (rawInt ((i : Int) + 1)) >>= _) _ _ s
  refine wpAny_bind (wpAny_setField ho hd (by simp) ?_)
  have hit' : (s.heap.update it (Obj.mapFields (·.setIfInBounds 1 (rawInt ((i : Int) + 1))))).IsKeyIter it d (i + 1) es.size ep :=
    ⟨_, Heap.get?_update_self _ ho (Obj.isFreed_of_fields (Obj.data_mapFields hd _)), (Obj.cls_mapFields ..).trans hc, by rw [Obj.data_mapFields hd]; simp [rawInt]⟩
  refine wpAny_bind (wpAny_holding (wpAny_bind (wpAny_isOneOf_keyiter (s := { s with heap := s.heap.update it (Obj.mapFields (·.setIfInBounds 1 (rawInt ((i : Int) + 1)))) }) hit'.typeIs ?_)))
  show wpAny _ _ (pure es[i].key) _ _ _
  exact wpAny_pure (wpAny_pure ⟨_, rfl, wpAny_pure (hQ _ hit' (Heap.SameBut.update ..))⟩)
theorem raw_end {it d : Addr} {ep : Nat} {es : Array DictEntry} {Q : Option Value → Shared → Prop} (hh : A.handled = none) (hit : s.heap.IsKeyIter it d es.size es.size ep) (hm : RawD s.heap d es ep)
    (hQ : ∀ h', Heap.ExtBut it s.heap h' → Q none { s with heap := h' }) : wpAny (model prog w) A (pyNext (.ref it)) Q E s := by
  obtain ⟨o, ho, hc, hd⟩ := id hit
  obtain ⟨od, hod, hcd, hdd⟩ := hm
  unfold pyNext
  refine wpAny_bind (wpAny_attempt (wpAny_callSpecial?_slot (name := Str.ofString "__next__") hit.typeIs F.slot_dict_keyiterator_next
    (wpAny_call_entry F.slot_dict_keyiterator_next hit.typeIs F.entry_dict_keyiterator_next ?_ (F.args_dict_keyiterator_next_1 _))))
  refine wpAny_bind (wpAny_pure (wpAny_bind (wpAny_bind ?_)))
  first | refine wpAny_bind (wpAny_typeNameOfWhole_keyiter hit.typeIs (wpAny_pure ?_)) | refine wpAny_bind (wpAny_typeNameOf_keyiter hit.typeIs (wpAny_pure ?_))
  refine wpAny_bind (wpAny_fieldsOf ho hd ?_)
  simp only [show Builtin.Dict_items.ownsTuple "dict_keyiterator" = false by decide, Bool.false_eq_true, if_false]
  show wpAny _ _ (if (Value.ref d == Value.none) = true then _ else _) _ _ s
  rw [if_neg (show ¬ ((Value.ref d == Value.none) = true) from Bool.false_ne_true)]
  refine wpAny_bind (wpAny_pure (wpAny_bind (wpAny_dictEntries hod hdd ?_)))
  rw [if_neg (by simp)]
  refine wpAny_bind (wpAny_pure (wpAny_bind (wpAny_dictEpoch hod hdd ?_)))
  rw [if_neg (by simp)]
  refine wpAny_pure ?_
  simp only [show ¬ ((es.size : Int) < 0) from by omega, if_false, Int.toNat_natCast, Array.getElem?_eq_none (Nat.le_refl es.size)]
  refine wpAny_bind ?_
  first | refine wpAny_bind (wpAny_typeNameOfWhole_keyiter hit.typeIs (wpAny_pure ?_)) | refine wpAny_bind (wpAny_typeNameOf_keyiter hit.typeIs (wpAny_pure ?_))
  show wpAny _ _ (setField (.ref it) 0 .none >>= _) _ _ s
  refine wpAny_bind (wpAny_setField ho hd (by simp) ?_)
  show wpAny _ _ (newExc (.type "StopIteration") [] >>= _) _ _ _
  refine wpAny_bind ?_
  simp only [newExc, newTuple]
  refine wpAny_bind (wpAny_newObj_type ?_ (by size_fits))
  refine wpAny_bind (m := firstArgMember _ _) (wpAny_of_eq (a := Value.none) (by first | rfl | (simp only [firstArgMember]; rfl)) ?_)
  refine wpAny_newObj_type ?_ (by size_fits)
  simp only [raiseNew]
  refine wpAny_bind (wpAny_handled ?_)
  rw [show A.in1.handled = none from hh]
  refine wpAny_bind (wpAny_pure (wpAny_throw ?_))
  refine wpAny_bind (wpAny_isInstance (T := "StopIteration") (b := true) ⟨_, Heap.get?_push_size _ rfl, rfl⟩ isSubtype_stop ?_)
  exact wpAny_pure (hQ _ (((Heap.SameBut.update ..).extBut.push _).push _))
end
/-- an entry: the key's address, the pair, its value -/
def tE (cap : Nat × Nat → Int) (tg : Nat × Nat → Tok) (x : Addr × (Nat × Nat)) : List Int × Addr × Value := ([(x.2.1 : Int), (x.2.2 : Int)], x.1, .int (cap x.2) (tg x.2))
def dTa (c : Cx) (d : Addr) (xs : List (Addr × (Nat × Nat))) (cap : Nat × Nat → Int) (ep : Nat) : HP := fun D =>
  ∃ o es tg, D d = some o ∧ o.ExactDict ∧ o.data = .dict es ep ∧ es.toList = (xs.map (tE cap tg)).map (entryOfKey (tupleKind (intKind Pg c.w))) ∧ (xs.map (·.2)).Nodup
def dT (c : Cx) (d : Addr) (xs : List (Addr × (Nat × Nat))) (cap : Nat × Nat → Int) : HP := fun D => ∃ ep, dTa c d xs cap ep D
section
variable {c : Cx} {d : Addr} {xs : List (Addr × (Nat × Nat))} {cap : Nat × Nat → Int} {ep : Nat}
instance : Up (dTa c d xs cap ep) := ⟨fun _ _ s ⟨o, es, tg, h, r⟩ => ⟨o, es, tg, s _ _ h, r⟩⟩
instance : Up (dT c d xs cap) := ⟨fun _ _ s ⟨ep, o, es, tg, h, r⟩ => ⟨ep, o, es, tg, s _ _ h, r⟩⟩
theorem dTa_owns : Owns d (dTa c d xs cap ep) := fun _ ⟨o, _, _, h, _⟩ => ⟨o, h⟩
theorem dT_owns : Owns d (dT c d xs cap) := fun _ ⟨_, o, _, _, h, _⟩ => ⟨o, h⟩
theorem two_inj {x y : Nat × Nat} (h : [(x.1 : Int), (x.2 : Int)] = [(y.1 : Int), (y.2 : Int)]) : x = y := by
  obtain ⟨a, b⟩ := x; obtain ⟨a', b'⟩ := y
  simp only [List.cons.injEq, and_true] at h
  have h1 : a = a' := by omega
  have h2 : b = b' := by omega
  rw [h1, h2]
theorem tE_nodup {tg : Nat × Nat → Tok} (h : (xs.map (·.2)).Nodup) : ((xs.map (tE cap tg)).map (·.1)).Nodup := by
  have : (xs.map (tE cap tg)).map (·.1) = (xs.map (·.2)).map fun e : Nat × Nat => [(e.1 : Int), (e.2 : Int)] := by simp [tE, List.map_map, Function.comp_def]
  rw [this]
  exact List.Pairwise.map _ (fun a b hab q => hab (two_inj q)) h
theorem tR_key {h : Heap} {x : Addr × (Nat × Nat)} (q : tR x h.get?) : IsTupleKey (intKind Pg c.w) h [(x.2.1 : Int), (x.2.2 : Int)] x.1 := by
  obtain ⟨t1, t2, n, q⟩ := q
  exact ⟨_, _, _, q, rfl, rfl, .cons (isI c _ _) (.cons (isI c _ _) .nil)⟩
theorem tup_key {h : Heap} {a : Addr} {u v : Nat} {t1 t2 : Tok} (q : tup a [.int u t1, .int v t2] h.get?) : IsTupleKey (intKind Pg c.w) h [(u : Int), (v : Int)] a := tR_key (x := (a, (u, v))) ⟨t1, t2, q⟩
end
section
variable {c : Cx} {A : Around} {E : Value → Shared → Prop} {s : Shared} {P R R1 R2 R3 : List HP} {d a : Addr} {xs : List (Addr × (Nat × Nat))} {cap : Nat × Nat → Int} {ep k u v : Nat} {t1 t2 : Tok}
theorem dT_of (S : St c P s) (ta : Take (dT c d xs cap) P R1) (tb : Take (fam xs tR) P R2) : ∃ tg : Nat × Nat → Tok, s.heap.DictOfH (tupleKind (intKind Pg c.w)) d (xs.map (tE cap tg)) ∧ (xs.map (·.2)).Nodup := by
  obtain ⟨ep, o, es, tg, h1, h2, h3, h4, h5⟩ := S.get ta
  refine ⟨tg, ⟨o, es, ep, h1, h2, h3, h4, fun x hx => ?_, tE_nodup h5⟩, h5⟩
  obtain ⟨y, hy, rfl⟩ := List.mem_map.mp hx
  exact tR_key ((S.take tb).get (X := tR y) (Take.famAt hy))
theorem atKey_tE {tg : Nat × Nat → Tok} (hn : (xs.map (·.2)).Nodup) {x : Addr × (Nat × Nat)} (hx : x ∈ xs) : atKey (xs.map (tE cap tg)) [(x.2.1 : Int), (x.2.2 : Int)] = some (x.1, .int (cap x.2) (tg x.2)) := by
  obtain ⟨i, hi⟩ := List.mem_iff_getElem?.mp hx
  refine atKey_of_get (i := i) (tE_nodup hn) ?_
  rw [List.getElem?_map, hi]; rfl
theorem atKey_tE_none {tg : Nat × Nat → Tok} (hx : (u, v) ∉ xs.map (·.2)) : atKey (xs.map (tE cap tg)) [(u : Int), (v : Int)] = none := by
  refine atKey_none_of_get fun j p q => ?_
  rw [List.getElem?_map] at q
  cases e : xs[j]? with
  | none => rw [e] at q; cases q
  | some y =>
    rw [e] at q
    simp only [Option.map_some, tE, Option.some.injEq, Prod.mk.injEq] at q
    have := two_inj (x := y.2) (y := (u, v)) q.1
    exact hx (List.mem_map.mpr ⟨y, List.mem_of_getElem? e, this⟩)
end
section
variable {c : Cx} {A : Around} {E : Value → Shared → Prop} {s : Shared} {P R R1 R2 R3 : List HP} {d a : Addr} {xs : List (Addr × (Nat × Nat))} {cap : Nat × Nat → Int} {ep k u v : Nat} {t1 t2 : Tok}
theorem dictT0 {pos : Pos} {env : Env} {Q : Value → Shared → Prop} (S : St c P s) (h : ∀ s' a, (∀ cap, St c (dT c a [] cap :: fam [] tR :: P) s') → Q (.ref a) s') : wpAny c.M A (eval (.Dict [] [] pos) env) Q E s := by
  rw [eval_Dict_empty]
  refine wpAny_bind (wpAny_standAt ?_)
  refine wpAny_newObj_type (h _ s.heap.objs.size fun cap => ?_) (by show 0 ≤ sizeLine + 1; omega)
  have S1 := S.new (s' := { s with heap := s.heap.push { cls := .type "dict", data := .dict #[] } }) (a := s.heap.objs.size) (X' := dT c s.heap.objs.size [] cap) (fun b o e => Heap.get?_push_of_some _ e) (Nat.le_refl _) ⟨0, _, #[], fun _ => 0, one_self.trans (Heap.get?_push_size _ rfl), ⟨rfl, rfl, rfl⟩, rfl, rfl, List.nodup_nil⟩
  have S2 : St c (([] : List (Addr × (Nat × Nat))).map tR ++ (dT c s.heap.objs.size [] cap :: P)) _ := S1
  exact (St.unflat (l := ([] : List (Addr × (Nat × Nat))).map tR) S2).mono fun _ h => Sat.swap h
theorem t_sub {j : Nat} {value slice : Expr} {Q : Value → Shared → Prop} (S : St c P s) (rm : Rm A (j + 1)) (ta : Take (dT c d xs cap) P R1) (tb : Take (fam xs tR) P R2) (tk : Take (tup a [.int u t1, .int v t2]) P R3) (he : (u, v) ∈ xs.map (·.2)) (hq : ∀ s' t, St c P s' → Q (.int (cap (u, v)) t) s')
    (hs : subscripted slice false (.ref d) (.ref a) = operate [.ref d, .ref a] (getItem (.ref d) (.ref a)) := by with_unfolding_all rfl) : wpAny c.M A (subscriptTail value slice (.ref d) (.ref a)) Q E s := by
  obtain ⟨tg, hD, hn⟩ := dT_of S ta tb
  obtain ⟨x, hx, e⟩ := List.mem_map.mp he
  have ha := atKey_tE (cap := cap) (tg := tg) hn hx
  rw [e] at ha
  exact tail_any hD.typeIs slot_dict_getitem.lookup (wpAny_getItem_heap (tupleKind_room_in1 rm.units1) (tup_key (S.get tk)) hD ha (hq _ _ S.tok)) hs
def insP (el : List (Nat × Nat)) (e : Nat × Nat) : List (Nat × Nat) := if e ∈ el then el else el ++ [e]
def updE (cap : Nat × Nat → Int) (e : Nat × Nat) (w : Int) : Nat × Nat → Int := fun i => if i = e then w else cap i
theorem updE_self {e : Nat × Nat} {w : Int} : updE cap e w e = w := by simp [updE]
theorem updE_ne {e i : Nat × Nat} {w : Int} (h : i ≠ e) : updE cap e w i = cap i := by simp [updE, h]
theorem dT_store {tg : Nat × Nat → Tok} {h' : Heap} {w : Int} {tw : Tok} {D : PH} (hn : (xs.map (·.2)).Nodup) (hD : h'.DictOfH (tupleKind (intKind Pg c.w)) d (storedH (xs.map (tE cap tg)) [(u : Int), (v : Int)] a (.int w tw))) (hget : D d = h'.get? d) :
    ((u, v) ∈ xs.map (·.2) → dT c d xs (updE cap (u, v) w) D) ∧ ((u, v) ∉ xs.map (·.2) → dT c d (xs ++ [(a, (u, v))]) (updE cap (u, v) w) D) := by
  obtain ⟨o, es, ep, g1, g2, g3, g4, g5, g6⟩ := hD
  refine ⟨fun he => ⟨ep, o, es, fun i => if i = (u, v) then tw else tg i, hget.trans g1, g2, g3, ?_, hn⟩, fun he => ⟨ep, o, es, fun i => if i = (u, v) then tw else tg i, hget.trans g1, g2, g3, ?_, ?_⟩⟩
  · obtain ⟨x, hx, e⟩ := List.mem_map.mp he
    have ha := atKey_tE (cap := cap) (tg := tg) hn hx
    rw [e] at ha
    rw [g4, storedH_old ha]
    congr 1
    rw [List.map_map]
    refine List.map_congr_left fun y hy => ?_
    show putAt _ _ (tE cap tg y) = _
    unfold putAt tE updE
    by_cases hy : y.2 = (u, v)
    · simp [hy]
    · have : ¬ ([(y.2.1 : Int), (y.2.2 : Int)] = [(u : Int), (v : Int)]) := fun q => hy (two_inj (y := (u, v)) q)
      simp only [this, hy, if_false]
  · rw [g4, storedH_new (atKey_tE_none he)]
    congr 1
    rw [List.map_append]
    congr 1
    · refine List.map_congr_left fun y hy => ?_
      have : y.2 ≠ (u, v) := fun q => he (List.mem_map.mpr ⟨y, hy, q⟩)
      simp [tE, updE, this]
    · simp [tE, updE]
  · rw [List.map_append, List.nodup_append]
    refine ⟨hn, by simp, fun x hx y hy => ?_⟩
    simp only [List.map_cons, List.map_nil, List.mem_singleton] at hy
    subst hy
    exact fun q => he (q ▸ hx)
theorem St.tgrow {X : HP} (S : St c P s) (tb : Take (fam xs tR) P R1) (tk : Take X R1 R2) (y : Addr × (Nat × Nat)) (hX : ∀ D, X D → tR y D) : St c (fam (xs ++ [y]) tR :: R2) s := by
  have S1 := S.takes (Xs := [fam xs tR, X]) (.cons tb (.cons tk .nil))
  have S2 : St c (tR y :: fam xs tR :: R2) s := (S1.mono fun _ h => Sat.swap h).head_mono hX
  exact St.growE (S2.mono fun _ h => Sat.swap h) .head .head tR rfl fun _ _ => rfl
theorem t_set {j : Nat} {w : Int} {tw : Tok} {Q : Unit → Shared → Prop} (S : St c P s) (rm : Rm A (j + 1)) (ta : Take (dT c d xs cap) P R1) (tb : Take (fam xs tR) R1 R2) (tk : Take (tup a [.int u t1, .int v t2]) R2 R3) (hz : xs.length ≤ 1000000)
    (hq : ∀ s' xs', xs'.map (·.2) = insP (xs.map (·.2)) (u, v) → St c (dT c d xs' (updE cap (u, v) w) :: fam xs' tR :: R3) s' → Q () s') : wpAny c.M A (setItem (.ref d) (.ref a) (.int w tw)) Q E s := by
  have S1 := S.takes (Xs := [dT c d xs cap, fam xs tR, tup a [.int u t1, .int v t2]]) (.cons ta (.cons tb (.cons tk .nil)))
  simp only [List.cons_append, List.nil_append] at S1
  obtain ⟨tg, hD, hn⟩ := dT_of S1 .head (.tail .head)
  refine wpAny_setItem_heap (tupleKind_room_in1 rm.units1) (tup_key (S1.get (.tail (.tail .head)))) hD (fun h' hm' hs => ?_) (by rw [List.length_map, sizeLine_eq]; omega)
  have key := dT_store (D := one d (h'.get? d)) hn hm' one_self
  by_cases he : (u, v) ∈ xs.map (·.2)
  · have S2 : ∀ n, St c (dT c d xs (updE cap (u, v) w) :: fam xs tR :: tup a [.int u t1, .int v t2] :: R3) { s with heap := h', toks := n } := fun n => S1.upd dT_owns (fun b hb => hs.2 b hb) (key.1 he)
    refine hq _ xs (by unfold insP; rw [if_pos he]) ((S2 _).mono fun _ h => Sat.cons_mono (fun _ h => Sat.cons_mono (fun _ h => Sat.drop h) h) h)
  · have S2 : ∀ n, St c (dT c d (xs ++ [(a, (u, v))]) (updE cap (u, v) w) :: fam xs tR :: tup a [.int u t1, .int v t2] :: R3) { s with heap := h', toks := n } := fun n => S1.upd dT_owns (fun b hb => hs.2 b hb) (key.2 he)
    refine hq _ (xs ++ [(a, (u, v))]) (by unfold insP; rw [if_neg he]; simp) ?_
    exact (St.tgrow (S2 _) (.tail .head) (.tail .head) (a, (u, v)) fun D q => ⟨_, _, q⟩).mono fun _ h => Sat.swap h
end

section
variable {prog : Program} {w : World} {A : Around} {E : Value → Shared → Prop} {s : Shared}
theorem RawD.typeIs {d : Addr} {es : Array DictEntry} {ep : Nat} (h : RawD s.heap d es ep) : s.TypeIs (.ref d) "dict" := let ⟨o, ho, hc, _⟩ := h; ⟨o, ho, hc.1⟩
theorem meetsR_len (d : Addr) (hd : (d == sysModules) = false) :
    MeetsIn prog w (Builtin.«dict.__len__» ⟨[.ref d], []⟩) (fun _ R s => ∃ es ep, RawD s.heap d es ep ∧ R (.ok (.ret (.int es.size s.toks))) { s with toks := s.toks + 1 }) :=
  .of_wp fun A R s ⟨es, ep, hm, h⟩ => by
    obtain ⟨o, ho, hc, hdat⟩ := hm
    show wpAny _ _ (dictSize d >>= _) _ _ s
    unfold dictSize
    refine wpAny_bind (wpAny_bind (wpAny_dictEntries ho hdat (wpAny_pure ?_)))
    refine wpAny_bind (wpAny_pendingCount_other hd (wpAny_ret_mkInt ?_))
    rw [Nat.add_zero]; exact h
theorem raw_len_body {d : Addr} {es : Array DictEntry} {ep : Nat} {Q : Value → Shared → Prop} (hd : (d == sysModules) = false) (hm : RawD s.heap d es ep) (hfit : (es.size : Int) < 2 ^ 63)
    (h : Q (.int es.size (s.toks + 1)) { s with toks := s.toks + 1 + 1 }) : wpAny (model prog w) A (Builtin.«len» ⟨[.ref d], []⟩) (fun fin s' => ∃ r, fin = .done (.ret r) ∧ Q r s') E s := by
  unfold Builtin.«len»
  refine wpAny_bind (m := oneArg "len" _) (wpAny_pure ?_)
  refine wpAny_bind (m := callSpecial? (.ref d) (Str.ofString "__len__")) (wpAny_callSpecial?_slot (name := Str.ofString "__len__") hm.typeIs F.slot_dict_len
    (call_meetsIn F.slot_dict_len hm.typeIs F.entry_dict_len (F.args_dict_len_1 _) (meetsR_len d hd) ⟨es, ep, hm, ?_⟩))
  show wpAny _ _ _ _ _ { s with toks := s.toks + 1 }
  refine wpAny_bind (wpAny_holding (wpAny_pure ?_))
  refine wpAny_bind (wpAny_letGo ?_)
  show wpAny _ _ (if ((es.size : Nat) : Int) < 0 then _ else _) _ _ _
  rw [if_neg (by omega)]
  show wpAny _ _ (if ((es.size : Nat) : Int) ≥ 2 ^ 63 then _ else _) _ _ _
  rw [if_neg (by omega)]
  exact wpAny_bind (wpAny_mkInt (wpAny_pure ⟨_, rfl, h⟩))
theorem raw_truthy {d : Addr} {es : Array DictEntry} {ep : Nat} {Q : Bool → Shared → Prop} (hd : (d == sysModules) = false) (hm : RawD s.heap d es ep) (hfit : (es.size : Int) < 2 ^ 63)
    (h : Q (es.size != 0) { s with toks := s.toks + 1 + 1 }) : wpAny (model prog w) A (truthy (.ref d)) Q E s := by
  have hne : ((es.size : Int) != 0) = (es.size != 0) := by rw [Bool.eq_iff_iff, bne_iff_ne, bne_iff_ne]; omega
  have key : wpAny (model prog w) A (runValue (.builtin "len" ⟨[.ref d], []⟩)) (fun r s' => r = .int es.size (s.toks + 1) ∧ Q (es.size != 0) s') E s := by
    refine wpAny_runValue (codeAny_builtin entry_len ?_)
    rw [Around.under_plainId plain_len _]
    exact wpAny_mono (raw_len_body (Q := fun r s' => r = .int es.size (s.toks + 1) ∧ Q (es.size != 0) s') hd hm hfit ⟨rfl, h⟩) (fun fin s' h' => by obtain ⟨r, rfl, hq⟩ := h'; exact hq) fun _ _ e => e
  unfold truthy
  first
    | refine wpAny_bind (wpAny_callSpecial?_none (name := Str.ofString "__bool__") hm.typeIs noBool_dict ?_)
    | refine wpAny_bind (wpAny_pure (wpAny_bind (wpAny_callSpecial?_none (name := Str.ofString "__bool__") hm.typeIs noBool_dict ?_)))
  first
    | refine wpAny_bind (wpAny_specialOf (name := Str.ofString "__len__") hm.typeIs F.slot_dict_len.lookup ?_)
    | refine wpAny_bind (wpAny_pure (wpAny_bind (wpAny_specialOf (name := Str.ofString "__len__") hm.typeIs F.slot_dict_len.lookup ?_)))
  first
    | exact wpAny_bind (wpAny_mono key (fun r s' h' => by obtain ⟨rfl, hq⟩ := h'; exact wpAny_pure (hne ▸ hq)) fun _ _ e => e)
    | exact wpAny_bind (wpAny_pure (wpAny_bind (wpAny_mono key (fun r s' h' => by obtain ⟨rfl, hq⟩ := h'; exact wpAny_pure (hne ▸ hq)) fun _ _ e => e)))
end
theorem fil_erase {xs : List (Addr × (Nat × Nat))} (hn : (xs.map (·.2)).Nodup) {e : Nat × Nat} : ∀ {j : Nat}, (∃ a, xs[j]? = some (a, e)) → (xs.eraseIdx j).map (·.2) = (xs.map (·.2)).filter fun i => decide (i ≠ e) := by
  induction xs with
  | nil => rintro j ⟨a, h⟩; simp at h
  | cons y r ih =>
    rintro j ⟨a, h⟩
    simp only [List.map_cons, List.nodup_cons] at hn
    cases j with
    | zero =>
      simp only [List.getElem?_cons_zero, Option.some.injEq] at h
      subst h
      simp only [List.eraseIdx_zero, List.tail_cons, List.map_cons, ne_eq, not_true_eq_false, decide_false, Bool.false_eq_true, not_false_eq_true, List.filter_cons_of_neg]
      refine (List.filter_eq_self.mpr fun i hi => ?_).symm
      simp only [decide_eq_true_eq]
      exact fun q => hn.1 (q ▸ hi)
    | succ j =>
      simp only [List.getElem?_cons_succ] at h
      have hne : y.2 ≠ e := fun q => hn.1 (q ▸ List.mem_map.mpr ⟨_, List.mem_of_getElem? h, rfl⟩)
      simp only [List.eraseIdx_cons_succ, List.map_cons, ih hn.2 ⟨a, h⟩, List.filter_cons, hne, ne_eq, not_false_eq_true, decide_true, if_true]
theorem Sat.famSub {ι : Type} {f : ι → HP} {R : List HP} {l l' : List ι} (h : l'.Sublist l) : ∀ {d : PH}, Sat (l.map f ++ R) d → Sat (l'.map f ++ R) d := by
  induction h with
  | slnil => exact fun h => h
  | cons a _ ih => exact fun h => ih (Sat.drop h)
  | cons_cons a _ ih => exact fun h => Sat.cons_mono (fun _ h => ih h) h
theorem St.famSub {c : Cx} {s : Shared} {R : List HP} {ι : Type} {l l' : List ι} {f : ι → HP} (S : St c (fam l f :: R) s) (h : l'.Sublist l) : St c (fam l' f :: R) s :=
  S.mono fun _ q => Sat.unflat (l := l'.map f) (Sat.famSub h (Sat.flat (l := l.map f) q))
section
variable {c : Cx} {A : Around} {E : Value → Shared → Prop} {s : Shared} {P R R1 R2 R3 : List HP} {d a : Addr} {xs : List (Addr × (Nat × Nat))} {cap : Nat × Nat → Int} {ep k u v : Nat} {t1 t2 : Tok}
theorem dT_raw {h : Heap} (x : dT c d xs cap h.get?) : ∃ es ep, RawD h d es ep ∧ es.size = xs.length := by
  obtain ⟨ep, o, es, tg, h1, h2, h3, h4, h5⟩ := x
  refine ⟨es, ep, ⟨o, h1, h2, h3⟩, ?_⟩
  rw [← Array.length_toList, h4]; simp
theorem t_len {Q : Value → Shared → Prop} (S : St c P s) (t : Take (dT c d xs cap) P R) (hz : xs.length ≤ 1000000) (hq : ∀ s' t, St c P s' → Q (.int xs.length t) s') : wpAny c.M A (call (.builtin "len") [.ref d]) Q E s := by
  obtain ⟨es, ep, hr, e⟩ := dT_raw (S.get t)
  exact Calls.call_function_entry kind_len plain_len entry_len (args_len1 _) (raw_len_body (S.notSys t dT_owns) hr (by omega) (by rw [e]; exact hq _ _ S.tok))
theorem t_truthy {Q : Bool → Shared → Prop} (S : St c P s) (t : Take (dT c d xs cap) P R) (hz : xs.length ≤ 1000000) (hq : ∀ s', St c P s' → Q (xs.length != 0) s') : wpAny c.M A (truthy (.ref d)) Q E s := by
  obtain ⟨es, ep, hr, e⟩ := dT_raw (S.get t)
  exact raw_truthy (S.notSys t dT_owns) hr (by omega) (by rw [e]; exact hq _ S.tok)
theorem dT_noDict {h : Heap} (x : dT c d xs cap h.get?) : ∀ b, Value.ref d = .ref b → ∃ ob, h.get? b = some ob ∧ ob.dict = none := fun b e => by
  injection e with e; subst e
  obtain ⟨ep, o, es, tg, h1, h2, r⟩ := x
  exact ⟨o, h1, h2.2.1⟩
theorem tm_pop {pl : Sem Bool} {Q : Value × List Value → Shared → Prop} (S : St c P s) (t : Take (dT c d xs cap) P R) (h : Q (.builtin "dict.pop", [.ref d]) s) : wpAny c.M A (getMethod (.ref d) "pop" pl) Q E s := by
  obtain ⟨es, ep, hr, e⟩ := dT_raw (S.get t)
  exact getMethod_builtin hr.typeIs PySem.F.plainAttrs_dict PySem.F.slot_dict_pop PySem.F.type_dict_pop (dT_noDict (S.get t)) h
theorem tm_setdefault {pl : Sem Bool} {Q : Value × List Value → Shared → Prop} (S : St c P s) (t : Take (dT c d xs cap) P R) (h : Q (.builtin "dict.setdefault", [.ref d]) s) : wpAny c.M A (getMethod (.ref d) "setdefault" pl) Q E s := by
  obtain ⟨es, ep, hr, e⟩ := dT_raw (S.get t)
  exact getMethod_builtin hr.typeIs PySem.F.plainAttrs_dict PySem.F.slot_dict_setdefault PySem.F.type_dict_setdefault (dT_noDict (S.get t)) h
theorem t_setdefault {j : Nat} {w : Int} {tw : Tok} {Q : Value → Shared → Prop} (S : St c P s) (rm : Rm A (j + 2)) (ta : Take (dT c d xs cap) P R1) (tb : Take (fam xs tR) R1 R2) (tk : Take (tup a [.int u t1, .int v t2]) R2 R3) (hz : xs.length ≤ 1000000)
    (hq : ∀ s' xs' r, xs'.map (·.2) = insP (xs.map (·.2)) (u, v) → St c (dT c d xs' (if (u, v) ∈ xs.map (·.2) then cap else updE cap (u, v) w) :: fam xs' tR :: R3) s' → Q r s') : wpAny c.M A (call (.builtin "dict.setdefault") [.ref d, .ref a, .int w tw]) Q E s := by
  have S1 := S.takes (Xs := [dT c d xs cap, fam xs tR, tup a [.int u t1, .int v t2]]) (.cons ta (.cons tb (.cons tk .nil)))
  simp only [List.cons_append, List.nil_append] at S1
  obtain ⟨tg, hD, hn⟩ := dT_of S1 .head (.tail .head)
  refine call_meetsIn PySem.F.slot_dict_setdefault hD.typeIs PySem.F.entry_dict_setdefault (PySem.F.args_dict_setdefault_3 _ _ _) (meetsH_setdefault (knd := tupleKind (intKind Pg c.w)) (S1.notSys .head dT_owns) _)
    ⟨rm.units1, _, _, tup_key (S1.get (.tail (.tail .head))), hD, by rw [List.length_map, sizeLine_eq]; omega, fun p hp => ?_, fun hnone h' hm' hs => ?_⟩
  · by_cases he : (u, v) ∈ xs.map (·.2)
    · refine hq _ xs _ (by unfold insP; rw [if_pos he]) ?_
      rw [if_pos he]
      exact St.tok (S1.mono fun _ h => Sat.cons_mono (fun _ h => Sat.cons_mono (fun _ h => Sat.drop h) h) h)
    · rw [atKey_tE_none he] at hp; cases hp
  · by_cases he : (u, v) ∈ xs.map (·.2)
    · obtain ⟨x, hx, e⟩ := List.mem_map.mp he
      have ha := atKey_tE (cap := cap) (tg := tg) hn hx
      rw [e, hnone] at ha; cases ha
    · have hm2 : h'.DictOfH (tupleKind (intKind Pg c.w)) d (storedH (xs.map (tE cap tg)) [(u : Int), (v : Int)] a (.int w tw)) := by rw [storedH_new hnone]; exact hm'
      have key := dT_store (D := one d (h'.get? d)) hn hm2 one_self
      have S2 : ∀ n, St c (dT c d (xs ++ [(a, (u, v))]) (updE cap (u, v) w) :: fam xs tR :: tup a [.int u t1, .int v t2] :: R3) { s with heap := h', toks := n } := fun n => S1.upd dT_owns (fun b hb => hs.2 b hb) (key.2 he)
      refine hq _ (xs ++ [(a, (u, v))]) _ (by unfold insP; rw [if_neg he]; simp) ?_
      rw [if_neg he]
      exact (St.tgrow (S2 _) (.tail .head) (.tail .head) (a, (u, v)) fun D q => ⟨_, _, q⟩).mono fun _ h => Sat.swap h
theorem t_pop {j : Nat} {Q : Value → Shared → Prop} (S : St c P s) (rm : Rm A (j + 2)) (ta : Take (dT c d xs cap) P R1) (tb : Take (fam xs tR) R1 R2) (tk : Take (tup a [.int u t1, .int v t2]) R2 R3) (hz : xs.length ≤ 1000000) (he : (u, v) ∈ xs.map (·.2))
    (hq : ∀ s' xs' r, xs'.map (·.2) = (xs.map (·.2)).filter (fun i => decide (i ≠ (u, v))) → St c (dT c d xs' cap :: fam xs' tR :: R3) s' → Q r s') : wpAny c.M A (call (.builtin "dict.pop") [.ref d, .ref a]) Q E s := by
  have S1 := S.takes (Xs := [dT c d xs cap, fam xs tR, tup a [.int u t1, .int v t2]]) (.cons ta (.cons tb (.cons tk .nil)))
  simp only [List.cons_append, List.nil_append] at S1
  obtain ⟨tg, hD, hn⟩ := dT_of S1 .head (.tail .head)
  obtain ⟨x, hx, e⟩ := List.mem_map.mp he
  have ha := atKey_tE (cap := cap) (tg := tg) hn hx
  rw [e] at ha
  refine call_meetsIn PySem.F.slot_dict_pop hD.typeIs PySem.F.entry_dict_pop (PySem.F.args_dict_pop_2 _ _) (meetsH_pop (knd := tupleKind (intKind Pg c.w)))
    ⟨rm.units1, _, _, _, tup_key (S1.get (.tail (.tail .head))), hD, by rw [List.length_map, sizeLine_eq]; omega, ha, fun h' i hi hm' hs => ?_⟩
  rw [List.getElem?_map] at hi
  obtain ⟨y, hy, hy2⟩ := Option.map_eq_some_iff.mp hi
  have hye : y.2 = (u, v) := by
    simp only [tE, Prod.mk.injEq] at hy2
    exact two_inj (y := (u, v)) hy2.1
  have hne : (xs.eraseIdx i).map (·.2) = (xs.map (·.2)).filter fun z => decide (z ≠ (u, v)) := fil_erase hn ⟨y.1, by rw [hy, ← hye]⟩
  have hX : dT c d (xs.eraseIdx i) cap (one d (h'.get? d)) := by
    obtain ⟨o, es, ep, g1, g2, g3, g4, g5, g6⟩ := hm'
    refine ⟨ep, o, es, tg, one_self.trans g1, g2, g3, ?_, ?_⟩
    · rw [g4, erase_map]
    · rw [hne]; exact hn.filter _
  have S2 : ∀ n, St c (dT c d (xs.eraseIdx i) cap :: fam xs tR :: tup a [.int u t1, .int v t2] :: R3) { s with heap := h', toks := n } := fun n => S1.upd dT_owns (fun b hb => hs.2 b hb) hX
  refine hq _ _ _ hne ?_
  have S3 := fun n => ((S2 n).mono fun _ h => Sat.swap h).famSub (List.eraseIdx_sublist xs i)
  exact (S3 _).mono fun _ h => Sat.swap (Sat.cons_mono (fun _ h => Sat.cons_mono (fun _ h => Sat.drop h) h) h)
theorem iter_t {Q : Value → Shared → Prop} (S : St c P s) (t : Take (dT c d xs cap) P R)
    (h : ∀ s' it ep, St c ([kIt it d 0 xs.length ep, dTa c d xs cap ep] ++ R) s' → Q (.ref it) s') : wpAny c.M A (pyIter (.ref d)) Q E s := by
  have hs := S.notSys t dT_owns
  obtain ⟨ep, S'⟩ : ∃ ep, St c (dTa c d xs cap ep :: R) s := (S.take t).ofHead fun D x => x
  obtain ⟨o, es, tg, h1, h2, h3, h4, h5⟩ := (S'.get0 : dTa c d xs cap ep s.heap.get?)
  have e : es.size = xs.length := by rw [← Array.length_toList, h4]; simp
  refine raw_iter hs ⟨o, h1, h2, h3⟩ ?_
  rw [e]
  exact h _ _ ep (S'.alloc rfl ⟨_, one_self, rfl, rfl⟩)
theorem t_iter {it : Addr} (hh : A.handled = none) : Iter c A (.ref it) xs.length (fun i => [kIt it d i xs.length ep, dTa c d xs cap ep]) (fun i v => ∃ x, xs[i]? = some x ∧ v = .ref x.1)
    (fun i _ => [kIt it d (i + 1) xs.length ep, dTa c d xs cap ep]) [dT c d xs cap] := by
  refine ⟨fun i hi P s Q E S h => ?_, fun P s Q E S h => ?_⟩
  · obtain ⟨o, es, tg, h1, h2, h3, h4, h5⟩ := (S.get (.tail .head) : dTa c d xs cap ep s.heap.get?)
    have e : es.size = xs.length := by rw [← Array.length_toList, h4]; simp
    have hk : s.heap.IsKeyIter it d i es.size ep := by rw [e]; exact (S.get0 : kIt it d i xs.length ep s.heap.get?)
    refine raw_next hk ⟨o, h1, h2, h3⟩ (by omega) fun h' g1 g2 => ?_
    have hx : xs[i]? = some xs[i] := List.getElem?_eq_getElem hi
    have hv : es[i].key = .ref xs[i].1 := by
      have q : es.toList[i]? = some es[i] := by rw [Array.getElem?_toList]; exact Array.getElem?_eq_getElem (by omega)
      rw [h4, List.getElem?_map, List.getElem?_map, hx] at q
      simp only [Option.map_some, Option.some.injEq] at q
      rw [← q]; rfl
    rw [hv]
    refine h _ _ ⟨_, hx, rfl⟩ (S.upd kIt_owns (fun b hb => g2.2 b hb) ?_)
    rw [e] at g1
    obtain ⟨o, q1, q2⟩ := g1
    exact ⟨o, one_self.trans q1, q2⟩
  · obtain ⟨o, es, tg, h1, h2, h3, h4, h5⟩ := (S.get (.tail .head) : dTa c d xs cap ep s.heap.get?)
    have e : es.size = xs.length := by rw [← Array.length_toList, h4]; simp
    have hk : s.heap.IsKeyIter it d es.size es.size ep := by rw [e]; exact (S.get0 : kIt it d xs.length xs.length ep s.heap.get?)
    refine raw_end hh hk ⟨o, h1, h2, h3⟩ fun h' he => h _ ?_
    exact (Sat.extBut S kIt_owns he).head_mono fun _ q => ⟨ep, q⟩
theorem k_own {elts : List Expr} {x1} {pos : Pos} {it b : Addr} {i n : Nat} {Q : Unit → Shared → Prop} (S : St c P s) (t : Take (kIt it d i n ep) P R) (hQ : Q () s) : wpAny c.M A (letOwnedTupleGo (.Tuple elts x1 pos) (.ref it) (.ref b)) Q E s := by
  obtain ⟨o, ho, hc, hd⟩ := (S.get t : kIt it d i n ep s.heap.get?)
  unfold letOwnedTupleGo
  refine wpAny_bind (wpAny_load ho ?_)
  rw [hc, hd]
  show wpAny _ A (if (["enumerate", "zip", "dict_itemiterator", "dict_reverseitemiterator", "odict_iterator", "itertools.zip_longest", "itertools.pairwise"].contains "dict_keyiterator" && _) = true then _ else _) Q E s
  rw [if_neg (by rw [show (["enumerate", "zip", "dict_itemiterator", "dict_reverseitemiterator", "odict_iterator", "itertools.zip_longest", "itertools.pairwise"].contains "dict_keyiterator") = false from by decide, Bool.false_and]; exact Bool.false_ne_true)]
  exact wpAny_pure hQ
end

/-! an edge is taken away -/
def outE (el : List (Nat × Nat)) (e : Nat × Nat) : List (Nat × Nat) := el.filter fun i => decide (i ≠ e)
def GV.out (V : GV) (e : Nat × Nat) : GV := { V with el := outE V.el e }
theorem succE_out {el : List (Nat × Nat)} {ea : Nat × Nat → Addr} {u v i : Nat} : succE (outE el (u, v)) ea i = if i = u then without (succE el ea u) (v : Int) else succE el ea i := by
  unfold succE outE without
  split
  · rename_i h
    subst h
    rw [List.filter_filter, List.filter_map, List.filter_filter]
    congr 1
    refine List.filter_congr fun x _ => ?_
    obtain ⟨p, q⟩ := x
    by_cases h1 : p = i <;> by_cases h2 : q = v <;> simp [h1, h2]
    omega
  · rename_i h
    rw [List.filter_filter]
    congr 1
    refine List.filter_congr fun x _ => ?_
    obtain ⟨p, q⟩ := x
    by_cases h1 : p = i
    · subst h1; simp [h]
    · simp [h1]
theorem predE_out {el : List (Nat × Nat)} {ea : Nat × Nat → Addr} {u v i : Nat} : predE (outE el (u, v)) ea i = if i = v then without (predE el ea v) (u : Int) else predE el ea i := by
  unfold predE outE without
  split
  · rename_i h
    subst h
    rw [List.filter_filter, List.filter_map, List.filter_filter]
    congr 1
    refine List.filter_congr fun x _ => ?_
    obtain ⟨p, q⟩ := x
    by_cases h1 : q = i <;> by_cases h2 : p = u <;> simp [h1, h2]
    omega
  · rename_i h
    rw [List.filter_filter]
    congr 1
    refine List.filter_congr fun x _ => ?_
    obtain ⟨p, q⟩ := x
    by_cases h1 : q = i
    · subst h1; simp [h]
    · simp [h1]
theorem d_delI {c : Cx} {A : Around} {E : Value → Shared → Prop} {s : Shared} {P R : List HP} {a : Addr} {kvs : List (Int × Value)} {n : Int} {tk : Tok} {Q : Unit → Shared → Prop} (S : St c P s) (t : Take (dI c a kvs) P R) (hz : kvs.length ≤ 1000000) (hv : (valueAt kvs n).isSome = true)
    (hq : ∀ s', St c (dI c a (without kvs n) :: R) s' → Q () s') : wpAny c.M A (delItem (.ref a) (.int n tk)) Q E s :=
  have hm := (dR_of (S.get t)).mapOf
  wpAny_delItem_slot hm.typeIs (by decide) PySem.F.slot_dict_delitem (d_del S (isI c n tk) t hz hv fun s' S' => hq s' S')
theorem di_remove_edge {c : Cx} {A : Around} {s : Shared} {P R : List HP} {k u v : Nat} {t1 t2 : Tok} {a : GA} {V : GV} {Rr : Result → Shared → Prop} (S : St c P s) (rm : Rm A (k + 10)) (hA : A.handled = c.hx) (ok : V.Ok) 
  (he : (u, v) ∈ V.el) (tk : Takes (graphR c a V) P R)
  (h : ∀ s', St c (graphR c a (V.out (u, v)) ++ R) s' → Rr (.ok (.ret .none)) s') :
    codeAny c.M A (.call (.ref 391) ⟨[.ref a.g, .int u t1, .int v t2], []⟩) Rr s := by
  have hz1 := ok.small
  have hz2 := ok.few
  have hu := (ok.lt _ he).1
  have hv := (ok.lt _ he).2
  have hs1 : (succE V.el a.ea u).length ≤ 1000 := Nat.le_trans succE_length hz2
  have hs2 : (predE V.el a.ea v).length ≤ 1000 := Nat.le_trans predE_length hz2
  replace S := S.takes tk
  refine' call_K (binds := [("self", .ref a.g), ("u", .int u t1), ("v", .int v t2)]) S rm (by exact rfl) (by rfl) (BindsTo.of_eq rfl) (locs rfl) ?oth ?nd ?_
  wtm_at "enter"
  refine wpAny_execs_cons (wpAny_Try_except ?_)
  wtm_at "ws"
  refine wpAny_Delete (wpAny_deleteEach_cons (wpAny_delete_Subscript ?_))
  wtm_at "ws"
  have q1 : (valueAt (succE V.el a.ea u) (v : Int)).isSome = true := by rw [valueAt_succE, if_pos he]; rfl
  have q2 : (valueAt (predE V.el a.ea v) (u : Int)).isSome = true := by rw [valueAt_predE, if_pos he]; rfl
  refine' d_delI S ?zz1 (by omega) q1 ?_
  case zz1 => wtm_at "take"
  clear S; intro s S
  refine wpAny_deleteEach_nil ?_
  dsimp only
  replace S := S.shutX (l := List.range V.n) (f := fun i => dI c (a.aa i) (succE V.el a.ea i)) (u := u) (X := dI c (a.aa u) (without (succE V.el a.ea u) (v : Int))) (fun i => dI c (a.aa i) (succE (outE V.el (u, v)) a.ea i)) (by wtm_at "take") (by wtm_at "take")
      (by simp only [succE_out, if_true]) (mem_range hu) List.nodup_range (fun i _ hi => by simp only [succE_out, if_neg hi])
  refine wpAny_execs_cons (wpAny_Delete (wpAny_deleteEach_cons (wpAny_delete_Subscript ?_)))
  wtm_at "ws"
  refine' d_delI S ?zz2 (by omega) q2 ?_
  case zz2 => wtm_at "take"
  clear S; intro s S
  refine wpAny_deleteEach_nil ?_
  dsimp only
  replace S := S.shutX (l := List.range V.n) (f := fun i => dI c (a.pa i) (predE V.el a.ea i)) (u := v) (X := dI c (a.pa v) (without (predE V.el a.ea v) (u : Int))) (fun i => dI c (a.pa i) (predE (outE V.el (u, v)) a.ea i)) (by wtm_at "take") (by wtm_at "take")
      (by simp only [predE_out, if_true]) (mem_range hv) List.nodup_range (fun i _ hi => by simp only [predE_out, if_neg hi])
  have S2 := (S.take (X := fam V.el fun e => dS c (a.ea e) (V.eattr e)) (by wtm_at "take")).famSub (l' := outE V.el (u, v)) List.filter_sublist
  clear S
  refine wpAny_execs_nil ?_
  dsimp only
  refine wpAny_execs_nil ?_
  dsimp only
  refine wpAny_execs_nil ?_
  dsimp only
  refine h _ ?_
  simp only [GV.out, graphR, List.cons_append, List.nil_append]
  wtm_at "fin"

def d506 : { d : FnD // FnAs 506 (.ref 505) d } := ⟨⟨_, _, _, _, _⟩, fun P => ⟨_, _, _, _, _, _, _, _, _, by exact rfl⟩⟩
def d511 : { d : FnD // FnAs 511 (.ref 510) d } := ⟨⟨_, _, _, _, _⟩, fun P => ⟨_, _, _, _, _, _, _, _, _, by exact rfl⟩⟩
def d516 : { d : FnD // FnAs 516 (.ref 515) d } := ⟨⟨_, _, _, _, _⟩, fun P => ⟨_, _, _, _, _, _, _, _, _, by exact rfl⟩⟩

/-! ranges, bits -/
def rng (r : Addr) (a b st : Int) : HP := fun D => ∃ t u v, D r = some { cls := .type "range", dict := none, data := .fields #[.int a t, .int b u, .int st v], slots := #[] }
instance {r a b st} : Up (rng r a b st) := ⟨fun _ _ s ⟨t, u, v, h⟩ => ⟨t, u, v, s _ _ h⟩⟩
theorem rng_owns {r a b st} : Owns r (rng r a b st) := fun _ ⟨_, _, _, h⟩ => ⟨_, h⟩
def rIt (it : Addr) (x left st : Int) : HP := fun D => D it = some { cls := .type "range_iterator", dict := none, data := .fields #[rawInt x, rawInt left, rawInt st], slots := #[] }
instance {it x l st} : Up (rIt it x l st) := ⟨fun _ _ s h => s _ _ h⟩
theorem rIt_owns {it x l st} : Owns it (rIt it x l st) := fun _ h => ⟨_, h⟩
section
variable {c : Cx} {A : Around} {E : Value → Shared → Prop} {s : Shared} {P R : List HP} {r it : Addr} {a b st : Int}
theorem range1 {n : Int} {t : Tok} {Q : Value → Shared → Prop} (S : St c P s) (hq : ∀ s' r, St c (rng r 0 n 1 :: P) s' → Q (.ref r) s') : wpAny c.M A (call (.type "range") [.int n t]) Q E s := by
  refine call_range_1 ?_
  exact hq _ _ (St.tok (t := s.toks + 1 + 1) (S.alloc (o := { cls := .type "range", data := .fields #[.int 0 s.toks, .int n t, .int 1 (s.toks + 1)] }) (X := rng s.heap.objs.size 0 n 1) rfl ⟨_, _, _, one_self⟩))
theorem range3 {a b st : Int} {t u v : Tok} {Q : Value → Shared → Prop} (S : St c P s) (hs : st ≠ 0) (hp : Builtin.divisionGoesByPylong (b - a) st = false) (hq : ∀ s' r, St c (rng r a b st :: P) s' → Q (.ref r) s') : wpAny c.M A (call (.type "range") [.int a t, .int b u, .int st v]) Q E s := by
  refine call_range_3 hs ?_ (.inl hp)
  exact hq _ _ (S.alloc (o := { cls := .type "range", data := .fields #[.int a t, .int b u, .int st v] }) (X := rng s.heap.objs.size a b st) rfl ⟨_, _, _, one_self⟩)
theorem r_walk {n : Nat} (hh : A.handled = none) : Iter c A (.ref it) n (fun i => [rIt it (a + (i : Int) * st) ((n : Int) - i) st]) (fun i v => ∃ t, v = .int (a + (i : Int) * st) t) (fun i _ => [rIt it (a + ((i + 1 : Nat) : Int) * st) ((n : Int) - (i + 1 : Nat)) st]) [] := by
  refine ⟨fun i hi P s Q E S h => ?_, fun P s Q E S h => ?_⟩
  · refine wpAny_pyNext_range_item (S.get0 : rIt it _ _ _ s.heap.get?) (by omega) fun h' g1 g2 => ?_
    have e1 : a + (i : Int) * st + st = a + ((i + 1 : Nat) : Int) * st := by rw [Int.natCast_succ, Int.add_mul]; omega
    have e2 : (n : Int) - i - 1 = (n : Int) - (i + 1 : Nat) := by omega
    rw [e1, e2] at g1
    refine h _ _ ⟨_, rfl⟩ (St.tok (t := s.toks + 1) (S.upd (s' := { s with heap := h' }) rIt_owns (fun b hb => g2.2 b hb) ?_))
    exact one_self.trans g1
  · refine wpAny_pyNext_range_end hh (S.get0 : rIt it _ _ _ s.heap.get?) (by omega) fun h' he => h _ (Sat.extBut S rIt_owns he)
theorem r_iter {n : Nat} {Q : Value → Shared → Prop} (S : St c P s) (t : Take (rng r a b st) P R) (hsm : Builtin.Range.small a b st = true) (hn : Builtin.Range.rangeSize a b st = n) (h : ∀ s' it, St c (rIt it a n st :: P) s' → Q (.ref it) s') : wpAny c.M A (pyIter (.ref r)) Q E s := by
  obtain ⟨t1, t2, t3, hr⟩ := S.get t
  refine wpAny_pyIter_range hr hsm ?_
  rw [hn]
  exact h _ _ (S.alloc rfl one_self)
end
section
variable {c : Cx} {A : Around} {E : Value → Shared → Prop} {s : Shared} {P R : List HP} {m k : Nat} {t u : Tok} {Q : Value → Shared → Prop}
theorem shl1 (S : St c P s) (hk : k ≤ 1000) (h : ∀ s' t, St c P s' → Q (.int ((2 ^ k : Nat) : Int) t) s') : wpAny c.M A (binaryOp .LShift (.int 1 t) (.int k u)) Q E s := by
  refine lshift_int_small (by omega) (by omega) (by decide) ?_
  rw [show (1 : Int) * 2 ^ (k : Int).toNat = ((2 ^ k : Nat) : Int) by simp]
  exact h _ _ S.tok
theorem shrN (S : St c P s) (h : ∀ s' t, St c P s' → Q (.int ((m >>> k : Nat) : Int) t) s') : wpAny c.M A (binaryOp .RShift (.int m t) (.int k u)) Q E s := by
  refine rshift_int (by omega) ?_
  rw [show ((m : Int)).fdiv (2 ^ (k : Int).toNat) = ((m >>> k : Nat) : Int) by
    rw [Nat.shiftRight_eq_div_pow, Int.fdiv_eq_ediv_of_nonneg _ (by exact_mod_cast Nat.zero_le _)]; simp]
  exact h _ _ S.tok
theorem and1 (S : St c P s) (h : ∀ s' t, St c P s' → Q (.int ((m % 2 : Nat) : Int) t) s') : wpAny c.M A (binaryOp .BitAnd (.int m t) (.int 1 u)) Q E s := by
  refine and_int ?_
  rw [bitAnd_m1, show (m : Int) % 2 = ((m % 2 : Nat) : Int) by omega]
  exact h _ _ S.tok
theorem bitOr_nat {x y : Nat} : Builtin.bitOr (x : Int) (y : Int) = ((x ||| y : Nat) : Int) := by
  have e : ∀ z : Nat, Builtin.bitNot (z : Int) = -(z : Int) - 1 := fun _ => rfl
  have e2 : ∀ z : Nat, Builtin.bitNot (-(z : Int) - 1) = (z : Int) := fun z => by show -(-(z : Int) - 1) - 1 = _; omega
  unfold Builtin.bitOr
  rw [e, e, bitAnd_nn (by omega) (by omega), e2, e2]
  show -(-((_ : Nat) : Int) - 1) - 1 = _
  simp only [Int.toNat_natCast]
  omega
theorem orN {y : Nat} (S : St c P s) (h : ∀ s' t, St c P s' → Q (.int ((m ||| y : Nat) : Int) t) s') : wpAny c.M A (inplaceOp .BitOr (.int m t) (.int y u)) Q E s := by
  refine ior_int ?_
  rw [bitOr_nat]
  exact h _ _ S.tok
theorem bit1 {m k : Nat} : ((((m >>> k) % 2 : Nat) : Int) == 1) = m.testBit k := by
  rw [Nat.testBit_eq_decide_div_mod_eq, Nat.shiftRight_eq_div_pow, Bool.eq_iff_iff, beq_iff_eq, decide_eq_true_eq]
  omega
end

/-! two pairs of ints compared; the least of a list of pairs -/
theorem tuple_lt2M (x y : Addr) (n1 n2 : Nat) (a b c d : Int) (t1 t2 t3 t4 : Tok) :
    Meets (Builtin.«tuple.__lt__» ⟨[.ref x, .ref y], []⟩)
      (fun A R s => s.heap.get? x = some { cls := .type "tuple", dict := none, data := .seq #[.int a t1, .int b t2] n1, slots := #[] } ∧ s.heap.get? y = some { cls := .type "tuple", dict := none, data := .seq #[.int c t3, .int d t4] n2, slots := #[] } ∧
        R (.ok (.ret (.bool (if a = c then decide (b < d) else decide (a < c))))) s) :=
  .of_wp fun prog w A R s h => by
    obtain ⟨hp, g, dr, tk, os⟩ := s; obtain ⟨hl, hb, h⟩ := h
    have f2 := AutoSeq1.sub_tuple_tuple
    wp_walk using AutoSeq1.wpAny_loadPart' hl, AutoSeq1.wpAny_loadPart' hb
    show wpAny _ _ (eqBool (.int a t1) (.int c t3)) _ _ _
    refine wpAny_eqBool_int ?_
    by_cases h1 : a = c
    · rw [if_pos h1] at h
      rw [show (a == c) = true by simp [h1]]
      wp_walk
      show wpAny _ _ (eqBool (.int b t2) (.int d t4)) _ _ _
      refine wpAny_eqBool_int ?_
      by_cases h2 : b = d
      · rw [show (b == d) = true by simp [h2]]
        wp_walk
        subst h2
        rw [show decide (b < b) = false by simp] at h
        exact ⟨_, rfl, h⟩
      · rw [show (b == d) = false by simp [h2]]
        simp only [Bool.not_false, if_true]
        refine wpAny_bind (wpAny_rule (wpAny_bind ?_))
        show wpAny _ _ (compareOp .Lt (.int b t2) (.int d t4)) _ _ _
        refine PyProof.Rows.lt_int ?_
        wp_walk
        exact ⟨_, rfl, h⟩
    · rw [if_neg h1] at h
      rw [show (a == c) = false by simp [h1]]
      simp only [Bool.not_false, if_true]
      refine wpAny_bind (wpAny_rule (wpAny_bind ?_))
      show wpAny _ _ (compareOp .Lt (.int a t1) (.int c t3)) _ _ _
      refine PyProof.Rows.lt_int ?_
      wp_walk
      exact ⟨_, rfl, h⟩
/-- a pair of ints -/
def tp2 (p : Addr × (Int × Int)) : HP := fun D => ∃ t1 t2, tup p.1 [.int p.2.1 t1, .int p.2.2 t2] D
instance {p} : Up (tp2 p) := ⟨fun _ _ s ⟨a, b, h⟩ => ⟨a, b, Up.up _ _ s h⟩⟩
def lexB (p q : Int × Int) : Bool := if p.1 = q.1 then decide (p.2 < q.2) else decide (p.1 < q.1)
theorem tp2_lt {c : Cx} {A : Around} {E : Value → Shared → Prop} {s : Shared} {x y : Addr × (Int × Int)} {Q : Value → Shared → Prop} (hx : tp2 x s.heap.get?) (hy : tp2 y s.heap.get?) (hu : A.units < cLine) (h : Q (.bool (lexB x.2 y.2)) s) :
    wpAny c.M A (richCompare .Lt (.ref x.1) (.ref y.1)) Q E s := by
  obtain ⟨t1, t2, n1, h1⟩ := hx
  obtain ⟨t3, t4, n2, h2⟩ := hy
  exact richCompare_meets_room ⟨_, h1, rfl⟩ ⟨_, h2, rfl⟩ PySem.F.slot_tuple_lt PySem.F.entry_tuple_lt (PySem.F.args_tuple_lt_2 _ _) (tuple_lt2M x.1 y.1 n1 n2 x.2.1 x.2.2 y.2.1 y.2.2 t1 t2 t3 t4)
    ⟨h1, h2, ⟨(fun x => nomatch x), h⟩⟩ hu
theorem lexB_trans {x b b' : Int × Int} (h1 : lexB b' b = true) (h2 : lexB x b = false) : lexB x b' = false := by
  unfold lexB at *
  by_cases e1 : b'.1 = b.1 <;> by_cases e2 : x.1 = b.1 <;> by_cases e3 : x.1 = b'.1 <;> simp only [e1, e2, e3, if_true, if_false, decide_eq_true_eq, decide_eq_false_iff_not] at h1 h2 ⊢ <;> (try split) <;> (try simp only [decide_eq_true_eq, decide_eq_false_iff_not] at h1 h2 ⊢) <;> omega
theorem lexB_irr {x : Int × Int} : lexB x x = false := by unfold lexB; simp
theorem upd_lst {c : Cx} {A : Around} {E : Value → Shared → Prop} {s : Shared} {R : List HP} {a : Addr} {xs ys : List Value} {Q : Unit → Shared → Prop} (S : St c (lst a xs :: R) s) (hz : xs.length ≤ 1000) (hz2 : ys.length ≤ 1000) (h : ∀ s', St c (lst a ys :: R) s' → Q () s') :
    wpAny c.M A (updateSeq a (fun _ => ys.toArray)) Q E s := by
  obtain ⟨n, hl⟩ := lst_isL S.get0
  refine wpAny_updateSeq hl rfl (h _ (S.upd lst_owns (fun b hb => Heap.get?_update_ne _ _ _ _ hb) ?_)) (hz := by rw [List.size_toArray, sizeLine_eq]; omega) (_hz' := by rw [List.size_toArray, sizeLine_eq]; omega)
  have := IsL.update (n := n) hl (fun _ => ys.toArray)
  exact ⟨_, one_self.trans this⟩

theorem minTup_loop {c : Cx} {A : Around} {l I S : Addr} {ts : List (Addr × (Int × Int))} {R : List HP} {Rr : Result → Shared → Prop} (hh : A.handled = none) (hu : A.in1.units < cLine) :
    ∀ (k j : Nat) (b : Addr × (Int × Int)) (s : Shared), ts.length - (j + 1) = k → j + 1 ≤ ts.length → b ∈ ts → (∀ i, i ≤ j → ∀ x, ts[i]? = some x → lexB x.2 b.2 = false) →
      St c (lst S [.ref b.1, .ref b.1] :: lIt I l (j + 1) :: lst l (ts.map fun p => .ref p.1) :: fam ts tp2 :: R) s →
      (∀ s' b, b ∈ ts → (∀ x ∈ ts, lexB x.2 b.2 = false) → St c (lst l (ts.map fun p => .ref p.1) :: fam ts tp2 :: R) s' → Rr (.ok (.ret (.ref b.1))) s') →
      codeAny c.M A (.builtin "min.loop" ⟨[.ref I, .none, .ref S], []⟩) Rr s := by
  have hname : (toString "min" ++ toString ".loop" : String) = "min.loop" := by decide
  have W := l_walk (c := c) (A := A.in1) (it := I) (l := l) (vs := ts.map fun p => Value.ref p.1) hh
  intro k
  induction k with
  | zero =>
    intro j b s hk hj hb hle S0 hR
    have hin : j + 1 = ts.length := by omega
    refine codeAny_builtin PySem.F.entry_min_loop ?_
    rw [Around.under_plainId PySem.F.plain_min_loop _]
    show wpAny _ A.in1 (seqItems? (.ref S) >>= _) _ _ s
    obtain ⟨n, hl⟩ := lst_isL (S0.get (X := lst S [.ref b.1, .ref b.1]) .head)
    refine wpAny_bind (wpAny_seqItems hl rfl ?_)
    show wpAny _ A.in1 (tryCatch (pyNext (.ref I)) _ >>= _) _ _ s
    refine wpAny_bind (wpAny_tryCatch (W.stop (lst S [.ref b.1, .ref b.1] :: fam ts tp2 :: R) s _ _ ?_ fun s' S1 => ?_))
    · rw [List.length_map, ← hin]
      exact S0.mono fun _ h => Sat.cons_mono (fun _ h => Sat.swap h) (Sat.swap h)
    show wpAny _ A.in1 (updateSeq S (fun _ => ([] : List Value).toArray) >>= _) _ _ _
    refine wpAny_bind (upd_lst (S1.mono fun _ h => Sat.swap h) (by simp) (by simp) fun s2 S2 => ?_)
    refine wpAny_bind (wpAny_letGo (wpAny_pure ?_))
    refine hR s2 b hb (fun x hx => ?_) S2.drop
    obtain ⟨i, hi⟩ := List.mem_iff_getElem?.mp hx
    exact hle i (by have := (List.getElem?_eq_some_iff.mp hi).1; omega) x hi
  | succ k ih =>
    intro j b s hk hj hb hle S0 hR
    have hlt : j + 1 < ts.length := by omega
    refine codeAny_builtin PySem.F.entry_min_loop ?_
    rw [Around.under_plainId PySem.F.plain_min_loop _]
    show wpAny _ A.in1 (seqItems? (.ref S) >>= _) _ _ s
    obtain ⟨n, hl⟩ := lst_isL (S0.get (X := lst S [.ref b.1, .ref b.1]) .head)
    refine wpAny_bind (wpAny_seqItems hl rfl ?_)
    show wpAny _ A.in1 (tryCatch (pyNext (.ref I)) _ >>= _) _ _ s
    refine wpAny_bind (wpAny_tryCatch (W.next (j + 1) (by rw [List.length_map]; exact hlt) (lst S [.ref b.1, .ref b.1] :: fam ts tp2 :: R) s _ _ ?_ fun s' v hv S1 => ?_))
    · exact S0.mono fun _ h => Sat.cons_mono (fun _ h => Sat.swap h) (Sat.swap h)
    obtain ⟨y, hy⟩ : ∃ y, ts[j + 1]? = some y := ⟨_, List.getElem?_eq_getElem hlt⟩
    obtain rfl : v = .ref y.1 := by rw [List.getElem?_map, hy] at hv; exact (Option.some.inj hv).symm
    have hym : y ∈ ts := List.mem_of_getElem? hy
    have S1' : St c (lst S [.ref b.1, .ref b.1] :: lIt I l (j + 1 + 1) :: lst l (ts.map fun p => .ref p.1) :: fam ts tp2 :: R) s' := S1.mono fun _ h => Sat.swap (Sat.cons_mono (fun _ h => Sat.swap h) h)
    clear S1
    show wpAny _ A.in1 (tryCatch (holding [.ref y.1, .ref y.1] (richCompare .Lt (.ref y.1) (.ref b.1) >>= _)) _ >>= _) _ _ _
    have gy : tp2 y s'.heap.get? := S1'.get (X := tp2 y) (.tail (.tail (.tail (Take.famAt hym))))
    have gb : tp2 b s'.heap.get? := S1'.get (X := tp2 b) (.tail (.tail (.tail (Take.famAt hb))))
    refine wpAny_bind (wpAny_tryCatch (wpAny_holding (wpAny_bind (tp2_lt gy gb hu ?_))))
    refine wpAny_bind (wpAny_holding (wpAny_truthy_bool ?_))
    refine wpAny_bind (wpAny_letGo (wpAny_pure ?_))
    cases hb2 : lexB y.2 b.2 with
    | true =>
      simp only [if_true]
      refine wpAny_bind ?_
      show wpAny _ A.in1 (updateSeq S (fun _ => [Value.ref y.1, Value.ref y.1].toArray)) _ _ _
      refine upd_lst S1' (by simp) (by simp) fun s2 S2 => ?_
      refine wpAny_bind (wpAny_letGo ?_)
      rw [hname]
      refine wpAny_pure ⟨plainId_quiet PySem.F.plain_min_loop _, ih (j + 1) y _ (by omega) hlt hym (fun i hi x hx => ?_) S2 hR⟩
      rcases Nat.lt_or_ge i (j + 1) with q | q
      · exact lexB_trans hb2 (hle i (by omega) x hx)
      · have : i = j + 1 := by omega
        subst this
        rw [hy] at hx; cases hx; exact lexB_irr
    | false =>
      simp only [Bool.false_eq_true, if_false]
      refine wpAny_bind (wpAny_letGo ?_)
      rw [hname]
      refine wpAny_pure ⟨plainId_quiet PySem.F.plain_min_loop _, ih (j + 1) b _ (by omega) hlt hb (fun i hi x hx => ?_) S1' hR⟩
      rcases Nat.lt_or_ge i (j + 1) with q | q
      · exact hle i (by omega) x hx
      · have : i = j + 1 := by omega
        subst this
        rw [hy] at hx; cases hx; exact hb2
theorem min_tups {c : Cx} {A : Around} {E : Value → Shared → Prop} {l : Addr} {ts : List (Addr × (Int × Int))} {P R : List HP} {s : Shared} {Q : Value → Shared → Prop} (S0 : St c P s) (rm : Rm A 4) (hh : A.handled = none) (tk : Takes [lst l (ts.map fun p => .ref p.1), fam ts tp2] P R) (hne : 0 < ts.length)
    (h : ∀ s' b, b ∈ ts → (∀ x ∈ ts, lexB x.2 b.2 = false) → St c (lst l (ts.map fun p => .ref p.1) :: fam ts tp2 :: R) s' → Q (.ref b.1) s') : wpAny c.M A (call (.builtin "min") [.ref l]) Q E s := by
  have hname : (toString "min" ++ toString ".loop" : String) = "min.loop" := by decide
  have hu : A.in1.units < cLine := by have := rm.u; show A.units + 1 < 9900; omega
  replace S0 := S0.takes tk
  simp only [List.cons_append, List.nil_append] at S0
  refine call_function_tree PySem.F.kind_min PySem.F.plain_min PySem.F.entry_min (PySem.F.args_min1 _) ?_
  show wpAny _ A.in1 (Builtin.Builtins.bindParams "min" ["key", "default"] 0 ⟨[], []⟩ >>= _) _ _ s
  refine wpAny_bind (wpAny_of_eq (show Builtin.Builtins.bindParams "min" ["key", "default"] 0 ⟨[], []⟩ = pure [none, none] from rfl) ?_)
  refine wpAny_bind (wpAny_pure ?_)
  refine wpAny_bind (l_iter S0 .head fun s1 I S1 => ?_)
  refine wpAny_bind (l_new S1 (vs := []) (by simp) fun s2 Sa S2 => ?_)
  rw [hname]
  have W := l_walk (c := c) (A := A.in1) (it := I) (l := l) (vs := ts.map fun p => Value.ref p.1) hh
  refine wpAny_pure ⟨plainId_quiet PySem.F.plain_min_loop _, ?_⟩
  refine codeAny_builtin PySem.F.entry_min_loop ?_
  rw [Around.under_plainId PySem.F.plain_min_loop _]
  show wpAny _ A.in1 (seqItems? (.ref Sa) >>= _) _ _ _
  obtain ⟨n, hl⟩ := lst_isL (S2.get (X := lst Sa []) .head)
  refine wpAny_bind (wpAny_seqItems hl rfl ?_)
  show wpAny _ A.in1 (tryCatch (pyNext (.ref I)) _ >>= _) _ _ _
  refine wpAny_bind (wpAny_tryCatch (W.next 0 (by rw [List.length_map]; exact hne) (lst Sa [] :: fam ts tp2 :: R) _ _ _ ?_ fun s' v hv S3 => ?_))
  · exact S2.mono fun _ h => Sat.cons_mono (fun _ h => Sat.swap h) (Sat.swap h)
  obtain ⟨y, hy⟩ : ∃ y, ts[0]? = some y := ⟨_, List.getElem?_eq_getElem hne⟩
  obtain rfl : v = .ref y.1 := by rw [List.getElem?_map, hy] at hv; exact (Option.some.inj hv).symm
  have hym : y ∈ ts := List.mem_of_getElem? hy
  have S4 : St c (lst Sa [] :: lIt I l (0 + 1) :: lst l (ts.map fun p => .ref p.1) :: fam ts tp2 :: R) s' := S3.mono fun _ h => Sat.swap (Sat.cons_mono (fun _ h => Sat.swap h) h)
  show wpAny _ A.in1 (updateSeq Sa (fun _ => [Value.ref y.1, Value.ref y.1].toArray) >>= _) _ _ _
  refine wpAny_bind (upd_lst S4 (by simp) (by simp) fun s5 S5 => ?_)
  rw [hname]
  refine wpAny_pure ⟨plainId_quiet PySem.F.plain_min_loop _, minTup_loop (ts := ts) hh hu _ 0 y _ rfl hne hym (fun i hi x hx => ?_) S5 fun s' b hb hle S6 => h s' b hb hle S6⟩
  have : i = 0 := by omega
  subst this
  rw [hy] at hx; cases hx; exact lexB_irr

/-! the keys of a dict, sorted -/
theorem RawD.at' {h h' : Heap} {d : Addr} {es : Array DictEntry} {ep : Nat} (x : RawD h d es ep) (hk : ∀ o, h.get? d = some o → h'.get? d = some o) : RawD h' d es ep := let ⟨o, ho, r⟩ := x; ⟨o, hk o ho, r⟩
theorem raw_walks {prog : Program} {w : World} {A : Around} {I d : Addr} {es : Array DictEntry} {ep : Nat} (hh : A.handled = none) (hne : d ≠ I) :
    Walks prog w A I [I, d] [I] es.size (fun i v => ∃ h : i < es.size, v = es[i].key) (fun i h => h.IsKeyIter I d i es.size ep ∧ RawD h d es ep) where
  sub := fun b hb => by simp at hb; simp [hb]
  frame := fun _ _ _ st hk => ⟨st.1.at fun o e => hk I (by simp) o e, st.2.at' fun o e => hk d (by simp) o e⟩
  item := fun i s Q E hi st hQ => raw_next st.1 st.2 hi fun h' hit' hs' => hQ _ h' s.toks ⟨hi, rfl⟩ ⟨hit', st.2.at' fun o e => (hs'.2 d hne).trans e⟩ fun b o hb e => hs'.extBut b o (fun h => hb (by simp [h])) e
  done := fun s Q E st hQ => raw_end hh st.1 st.2 fun h' he => hQ h' s.toks fun b o hb e => he b o (fun h => hb (by simp [h])) e
  self := fun i s Q E st hQ => wpAny_pyIter_keyiter st.1 hQ
theorem raw_src {prog : Program} {w : World} {d : Addr} {es : Array DictEntry} {ep : Nat} (lo : (d == sysModules) = false) :
    KdlSrc prog w "dict" d d es.size (fun i v => ∃ h : i < es.size, v = es[i].key) (fun h => RawD h d es ep) where
  type := fun _ hm => hm.typeIs
  there := fun _ ⟨o, ho, _⟩ => ⟨Heap.lt_size ho, Heap.lt_size ho⟩
  keep := fun _ _ hm hk => hm.at' fun o e => hk d (.inl rfl) o e
  notList := by decide
  notTuple := by decide
  hint := fun _ _ _ _ hm hq => kdl_hint_dict hm.typeIs hq
  iter := fun A s hh hm => ⟨{ cls := .type "dict_keyiterator", data := .fields #[.ref d, .int 0 0, .int es.size 0, .int ep 0] }, (fun i h => h.IsKeyIter s.heap.objs.size d i es.size ep ∧ RawD h d es ep), (fun _ _ hq => raw_iter lo hm hq),
    raw_walks hh (Nat.ne_of_lt (let ⟨o, ho, _⟩ := hm; Heap.lt_size ho)), ⟨⟨_, Heap.get?_push_size _ rfl, rfl, rfl⟩, hm.at' fun o e => Heap.get?_push_of_some _ e⟩⟩
/-! whatever the comparisons tell, the sort gives back places of the list -/
def KasAll {α : Type} (n : Nat) (G : α → Prop) : KasT α → Prop
  | .ret a => G a
  | .ask i j k => i < n ∧ j < n ∧ ∀ b, KasAll n G (k b)
theorem KasAll.bind {α β : Type} {n : Nat} {G : α → Prop} {H : β → Prop} {f : α → KasT β} : ∀ {t : KasT α}, KasAll n G t → (∀ a, G a → KasAll n H (f a)) → KasAll n H (t.bind f)
  | .ret a, h, k => k a h
  | .ask i j g, h, k => ⟨h.1, h.2.1, fun b => KasAll.bind (h.2.2 b) k⟩
theorem KasAll.wp {α : Type} {n : Nat} {G : α → Prop} {cmp : Nat → Nat → (Bool → Shared → Prop) → Shared → Prop} {s : Shared} {Q : α → Shared → Prop} (hc : ∀ i j C, i < n → j < n → (∀ b, C b s) → cmp i j C s) (hq : ∀ a, G a → Q a s) :
    ∀ {t : KasT α}, KasAll n G t → t.kasWp cmp Q s
  | .ret a, h => hq a h
  | .ask i j k, h => hc i j _ h.1 h.2.1 fun b => KasAll.wp hc hq (h.2.2 b)
def Gd (n : Nat) (p : Array Nat) : Prop := ∀ (i x : Nat), p[i]? = some x → x < n
theorem Gd.getD {n : Nat} {p : Array Nat} (h : Gd n p) (hn : 0 < n) (i : Nat) : p.getD i 0 < n := by
  rw [Array.getD_eq_getD_getElem?]
  cases e : p[i]? with
  | none => exact hn
  | some x => exact h i x e
theorem Gd.swap {n : Nat} {p : Array Nat} (h : Gd n p) (i j : Nat) : Gd n (p.swapIfInBounds i j) := by
  by_cases hi : i < p.size
  · by_cases hj : j < p.size
    · intro k x hx
      rw [getElem?_swapIB hi hj] at hx
      split at hx
      · exact h _ _ hx
      · split at hx
        · exact h _ _ hx
        · exact h _ _ hx
    · rw [Array.swapIfInBounds_def]; simpa [hj] using h
  · rw [Array.swapIfInBounds_def]; simpa [hi] using h
theorem Gd.swaps {n : Nat} (u v : Nat → Nat) : ∀ (l : List Nat) {p : Array Nat}, Gd n p → Gd n (l.foldl (fun a k => a.swapIfInBounds (u k) (v k)) p)
  | [], _, h => h
  | k :: l, _, h => Gd.swaps u v l (h.swap _ _)
theorem Gd.rev {n : Nat} {p : Array Nat} (h : Gd n p) (i j : Nat) : Gd n (kas_rev p i j) := Gd.swaps (fun k => i + k) (fun k => j - 1 - k) _ h
theorem Gd.bub {n : Nat} {p : Array Nat} (h : Gd n p) (i j : Nat) : Gd n (bubble p i j) := Gd.swaps (fun k => i - k) (fun k => i - k - 1) _ h
section
variable {n : Nat} (hn : 0 < n)
include hn
theorem all_asc {p : Array Nat} (h : Gd n p) : ∀ f m, KasAll n (fun _ : Nat => True) (kas_asc p f m)
  | 0, _ => trivial
  | f + 1, m => ⟨h.getD hn _, h.getD hn _, fun b => by
    cases b
    · exact all_asc h f (m + 1)
    · exact trivial⟩
theorem all_desc : ∀ f (p : Array Nat) m q, Gd n p → KasAll n (fun r : Array Nat × Nat × Nat => Gd n r.1) (kas_desc f p m q)
  | 0, _, _, _, h => h
  | f + 1, p, m, q, h => ⟨h.getD hn _, h.getD hn _, fun b => by
    cases b
    · exact ⟨h.getD hn _, h.getD hn _, fun b => by
        cases b
        · exact all_desc f p _ _ h
        · exact h⟩
    · simp only [if_true]
      split
      · exact all_desc f _ _ _ (h.rev _ _)
      · exact all_desc f _ _ _ h⟩
theorem all_tail3 {p : Array Nat} (h : Gd n p) (m r : Nat) : KasAll n (fun r : Nat × Array Nat => Gd n r.2) (kas_tail3 m r p) := KasAll.bind (all_asc hn (h.rev 0 m) _ _) fun _ _ => h.rev 0 m
theorem all_descPart {p : Array Nat} (h : Gd n p) (m r : Nat) : KasAll n (fun r : Nat × Array Nat => Gd n r.2) (kas_descPart m r p) := KasAll.bind (all_desc hn _ p _ _ h) fun x hx => by
  split
  · exact all_tail3 hn (hx.rev _ _) _ _
  · exact all_tail3 hn hx _ _
theorem all_count {p : Array Nat} (h : Gd n p) (r : Nat) : KasAll n (fun r : Nat × Array Nat => Gd n r.2) (kas_count r p) := KasAll.bind (all_asc hn h _ _) fun m _ => by
  split
  · exact h
  · split
    · exact ⟨h.getD hn _, h.getD hn _, fun b => by
        cases b
        · exact all_descPart hn (h.rev _ _) _ _
        · exact h⟩
    · exact all_descPart hn h _ _
theorem all_place {p : Array Nat} (h : Gd n p) (k : Nat) : ∀ f l r, KasAll n (fun _ : Nat => True) (kas_place p k f l r)
  | 0, _, _ => trivial
  | f + 1, l, r => by
    unfold kas_place
    split
    · exact trivial
    · exact ⟨h.getD hn _, h.getD hn _, fun b => by
        cases b
        · exact all_place h k f _ _
        · exact all_place h k f _ _⟩
theorem all_bin : ∀ f (p : Array Nat) k, Gd n p → KasAll n (Gd n) (kas_bin f p k)
  | 0, _, _, h => h
  | f + 1, p, k, h => KasAll.bind (all_place hn h k _ _ _) fun l _ => all_bin f _ _ (h.bub _ _)
theorem all_sort : KasAll n (Gd n) (kas_sort n) := KasAll.bind (all_count hn (fun i x hx => by obtain ⟨h1, h2⟩ := Array.getElem?_eq_some_iff.mp hx; simp at h1 h2; omega) n) fun r hr => by
  split
  · exact all_bin hn _ _ _ hr
  · exact hr
end

section
variable {c : Cx} {A : Around} {E : Value → Shared → Prop} {s : Shared} {P R : List HP} {xs : List (Addr × (Nat × Nat))}
theorem pair_lt {prog : Program} {w : World} {x y : Addr × (Nat × Nat)} {C : Bool → Shared → Prop} (hx : tR x s.heap.get?) (hy : tR y s.heap.get?) (hC : ∀ b, C b s) : wpAny (model prog w) A (keyLt' (tuples' true) (.ref x.1) (.ref y.1)) C E s := by
  obtain ⟨t1, t2, n1, h1⟩ := hx
  obtain ⟨t3, t4, n2, h2⟩ := hy
  refine kat_lt h1 rfl h2 rfl ?_
  show KatLex _ _ _ _ _ _ [(.int (x.2.1 : Int) t1, .int (y.2.1 : Int) t3), (.int (x.2.2 : Int) t2, .int (y.2.2 : Int) t4)] 0 s
  refine kat_cons (wpAny_eqBool_int (kat_go (fun _ => kat_yes (kat_cons (wpAny_eqBool_int (kat_go (fun _ => kat_yes (kat_nil (hC _))) fun _ => kat_no ?_)))) fun _ => kat_no ?_))
  · exact kat_one _ _ (PyProof.Rows.lt_int (hC _))
  · exact oneLt_int (hC _)
theorem tR_tups {h : Heap} : ∀ {vs : List Value}, (∀ v ∈ vs, ∃ x ∈ xs, v = .ref x.1) → (∀ x ∈ xs, tR x h.get?) → ∃ fs, fs.length = vs.length ∧ KatTups h vs fs ∧ ∀ f ∈ fs, ∃ n t, f = .int n t
  | [], _, _ => ⟨[], rfl, .nil, by simp⟩
  | v :: r, hv, hx => by
    obtain ⟨fs, h1, h2, h3⟩ := tR_tups (vs := r) (fun v hv' => hv v (.tail _ hv')) hx
    obtain ⟨x, hxm, rfl⟩ := hv v (.head _)
    obtain ⟨t1, t2, n1, q⟩ := hx x hxm
    refine ⟨.int (x.2.1 : Int) t1 :: fs, by simp [h1], .cons q rfl rfl rfl h2, fun f hf => ?_⟩
    rcases List.mem_cons.mp hf with rfl | hf
    · exact ⟨_, _, rfl⟩
    · exact h3 f hf
theorem fam_all (S : St c P s) (t : Take (fam xs tR) P R) : ∀ x ∈ xs, tR x s.heap.get? := fun x hx => (S.take t).get (X := tR x) (Take.famAt hx)
end

section
variable {c : Cx} {A : Around} {E : Value → Shared → Prop} {s : Shared} {P R : List HP} {xs : List (Addr × (Nat × Nat))}
theorem sort_pairs {a : Addr} {vs : List Value} {Q : PySem.Fin → Shared → Prop} (S : St c (lst a vs :: fam xs tR :: R) s) (hv : ∀ v ∈ vs, ∃ x ∈ xs, v = .ref x.1) (h64 : vs.length < 64)
    (h : ∀ s' vs', vs'.length = vs.length → (∀ v ∈ vs', ∃ x ∈ xs, v = .ref x.1) → St c (lst a vs' :: fam xs tR :: R) s' → Q (.done (.ret .none)) s') : wpAny c.M A (Builtin.«list.sort» ⟨[.ref a], []⟩) Q E s := by
  obtain ⟨n, hl⟩ := lst_isL S.get0
  have ho : s.heap.get? a = some (seqObj "list" vs.toArray n) := hl
  rw [list_sort_plain]
  have ha : a < s.heap.objs.size := Heap.lt_size ho
  obtain ⟨e1, ho1⟩ : ∃ e1, (s.heap.update a (Obj.mapSeq fun _ => (#[] : Array Value))).get? a = some (seqObj "list" #[] e1) := ⟨_, get?_update_seq ho fun _ => #[]⟩
  have S1 : St c (pt a (seqObj "list" #[] e1) :: fam xs tR :: R) { s with heap := s.heap.update a (Obj.mapSeq fun _ => (#[] : Array Value)) } := S.upd lst_owns (fun b hb => Heap.get?_update_ne _ _ _ _ hb) (one_self.trans ho1)
  have S3 : St c (pt a (seqObj "list" #[] e1) :: fam xs tR :: R) { s with heap := ((s.heap.update a (Obj.mapSeq fun _ => (#[] : Array Value))).push (seqObj "tuple" vs.toArray 0)).push (seqObj "list" #[] 0) } :=
    S1.ext fun b o e => Heap.get?_push_of_some _ (Heap.get?_push_of_some _ e)
  have ho6 := S3.get0
  have put : ∀ out : List Value, out.length = vs.length → (∀ v ∈ out, ∃ x ∈ xs, v = .ref x.1) →
      wpAny c.M A (Builtin.List.listUpdate (.ref a) fun _ => out.toArray) (fun _ s' => Q (.done (.ret .none)) s') E { s with heap := ((s.heap.update a (Obj.mapSeq fun _ => (#[] : Array Value))).push (seqObj "tuple" vs.toArray 0)).push (seqObj "list" #[] 0) } := by
    intro out hlen hout
    refine listUpdate_at ho6 rfl ?_ (Nat.zero_le _) (by rw [List.size_toArray, sizeLine_eq]; omega)
    refine h _ out hlen hout (S3.upd pt_owns (fun b hb => Heap.get?_update_ne _ _ _ _ hb) ?_)
    exact ⟨_, one_self.trans (get?_update_seq ho6 fun _ => out.toArray)⟩
  refine wpAny_bind (listItems_at ho rfl ?_)
  refine wpAny_bind (listUpdate_at ho rfl ?_ (by rw [List.size_toArray, sizeLine_eq]; omega) (Nat.zero_le _))
  refine wpAny_bind (seqEpoch_at ho1 rfl ?_)
  refine wpAny_bind (wpAny_newTuple ?_ (by show vs.length ≤ _; rw [sizeLine_eq]; omega))
  refine wpAny_bind (wpAny_newList ?_ (Nat.zero_le _))
  refine wpAny_holding ?_
  show wpAny (model Pg c.w) A _ Q E { s with heap := ((s.heap.update a (Obj.mapSeq fun _ => (#[] : Array Value))).push (seqObj "tuple" vs.toArray 0)).push (seqObj "list" #[] 0) }
  dsimp only
  have hsz : vs.toArray.size = vs.length := by simp
  by_cases h2 : vs.toArray.size < 2
  · rw [if_pos h2, if_pos h2]
    refine wpAny_bind (wpAny_pure ?_)
    rw [StateT.run_pure]
    refine wpAny_bind (wpAny_pure ?_)
    dsimp only
    refine wpAny_bind (seqEpoch_at ho6 rfl ?_)
    have e : (arrOf (SortSt.mk' general' (vs.toArray.zip vs.toArray) #[] 7 none)).map (·.2) = vs.toArray := by
      apply Array.toList_inj.mp
      show ((vs.toArray.zip vs.toArray).map (·.2)).toList = vs
      simp only [Array.toList_map, Array.toList_zip, List.toList_toArray]
      exact List.map_snd_zip (Nat.le_refl _)
    rw [e]
    refine wpAny_bind (wpAny_mono (put vs rfl hv) (fun _ s' hq => ?_) fun _ _ x => x)
    simp only [bne_self_eq_false, Bool.false_eq_true, if_false]
    exact wpAny_pure hq
  · rw [if_neg h2, if_neg h2]
    have h2' : 2 ≤ vs.length := by omega
    obtain ⟨fs, hf1, hf2, hf3⟩ := tR_tups hv (fam_all S3 (.tail .head))
    refine wpAny_bind (kat_kind (T := .type "int") hf2 (by omega) (fun f hf => ?_) rfl ?_)
    · obtain ⟨n, t, rfl⟩ := hf3 f hf
      exact Looks.of_pure rfl
    · have hb : ((Value.type "int") != Value.type "tuple") = true := by decide
      rw [hb]
      have run := kat_run (prog := Pg) (w := c.w) (A := A) (E := E) (κ := tuples' true) (ks := vs) (vs := vs) (s := { s with heap := ((s.heap.update a (Obj.mapSeq fun _ => (#[] : Array Value))).push (seqObj "tuple" vs.toArray 0)).push (seqObj "list" #[] 0) })
        (Q := fun st' s' => s' = { s with heap := ((s.heap.update a (Obj.mapSeq fun _ => (#[] : Array Value))).push (seqObj "tuple" vs.toArray 0)).push (seqObj "list" #[] 0) } ∧ ∃ p : Array Nat, p.size = vs.length ∧ arrOf st' = p.map (kas_item (vs.toArray.zip vs.toArray)) ∧ failedOf st' = none ∧ Gd vs.length p)
        (G := fun p s' => s' = { s with heap := ((s.heap.update a (Obj.mapSeq fun _ => (#[] : Array Value))).push (seqObj "tuple" vs.toArray 0)).push (seqObj "list" #[] 0) } ∧ Gd vs.length p)
        rfl h2' h64 (fun p st' s' a1 a2 a3 a4 => ⟨a4.1, p, a1, a2, a3, a4.2⟩)
        (KasAll.wp (n := vs.length) (G := Gd vs.length) (fun i j C hi hj hC => ?_) (fun p hp => ⟨rfl, hp⟩) (all_sort (by omega)))
      · refine wpAny_bind (wpAny_mono run ?_ fun _ _ e => e)
        rintro ⟨⟨⟩, st'⟩ s' ⟨rfl, p, hp, har, hf, hg⟩
        dsimp only
        refine wpAny_bind (seqEpoch_at ho6 rfl ?_)
        rw [kat_snds rfl har]
        refine wpAny_bind (wpAny_mono (put (p.toList.map fun i => vs.getD i Value.none) (by rw [List.length_map, Array.length_toList, hp]) fun v hvm => ?_) (fun _ s' hq => ?_) fun _ _ x => x)
        · obtain ⟨i, hi, rfl⟩ := List.mem_map.mp hvm
          obtain ⟨k, hk⟩ := List.mem_iff_getElem?.mp hi
          have hlt : i < vs.length := hg k i (by rw [← Array.getElem?_toList]; exact hk)
          rw [List.getD_eq_getElem?_getD, List.getElem?_eq_getElem hlt]
          exact hv _ (List.getElem_mem hlt)
        · rw [hf]
          simp only [bne_self_eq_false, Bool.false_eq_true, if_false]
          exact wpAny_pure hq
      · show wpAny _ _ (keyLt' (tuples' true) (vs.getD i Value.none) (vs.getD j Value.none)) _ _ _
        rw [List.getD_eq_getElem?_getD, List.getD_eq_getElem?_getD, List.getElem?_eq_getElem hi, List.getElem?_eq_getElem hj]
        obtain ⟨x, hx, ex⟩ := hv _ (List.getElem_mem hi)
        obtain ⟨y, hy, ey⟩ := hv _ (List.getElem_mem hj)
        simp only [Option.getD_some]
        rw [ex, ey]
        exact pair_lt (fam_all S3 (.tail .head) x hx) (fam_all S3 (.tail .head) y hy) hC
theorem sorted_T {d : Addr} {cap : Nat × Nat → Int} {Q : Value → Shared → Prop} (S0 : St c P s) (hh : A.handled = none) (tk : Takes [dT c d xs cap, fam xs tR] P R) (h64 : xs.length < 64)
    (h : ∀ s' l vs, vs.length = xs.length → (∀ v ∈ vs, ∃ x ∈ xs, v = .ref x.1) → St c (lst l vs :: dT c d xs cap :: fam xs tR :: R) s' → Q (.ref l) s') : wpAny c.M A (call (.builtin "sorted") [.ref d]) Q E s := by
  replace S0 := S0.takes tk
  simp only [List.cons_append, List.nil_append] at S0
  have lo := S0.notSys (X := dT c d xs cap) .head dT_owns
  obtain ⟨ep, o, es, tg, h1, h2, h3, h4, h5⟩ := S0.get0
  have hsz : es.size = xs.length := by rw [← Array.length_toList, h4]; simp
  refine Calls.call_function_entry kind_sorted plain_sorted entry_sorted (args_sorted1 _) ?_
  unfold Builtin.«sorted»
  refine wpAny_bind (m := checkCount "sorted" 1 1 _) (wpAny_pure ?_)
  refine wpAny_bind (kdu_collect (A := A.in1) (raw_src (es := es) (ep := ep) lo) hh ⟨o, h1, h2, h3⟩ (by rw [hsz, sizeLine_eq]; omega) fun h' tk acc hk hacc => ?_)
  have hl : acc.toList.length = xs.length := by rw [Array.length_toList, ← hsz]; exact hacc.1
  have S1 : St c (dT c d xs cap :: fam xs tR :: R) { s with heap := h', toks := tk } := (S0.ext (s' := { s with heap := h' }) hk).tok (t := tk)
  have hvs : ∀ v ∈ acc.toList, ∃ x ∈ xs, v = .ref x.1 := fun v hv => by
    obtain ⟨j, hj⟩ := List.mem_iff_getElem?.mp hv
    obtain ⟨hjl, rfl⟩ := hacc.2 j v (by rw [← Array.getElem?_toList]; exact hj)
    have hjx : j < xs.length := by omega
    refine ⟨xs[j], List.getElem_mem hjx, ?_⟩
    have q : es.toList[j]? = some es[j] := by rw [Array.getElem?_toList]; exact Array.getElem?_eq_getElem hjl
    rw [h4, List.getElem?_map, List.getElem?_map, List.getElem?_eq_getElem hjx] at q
    simp only [Option.map_some, Option.some.injEq] at q
    rw [← q]; rfl
  refine wpAny_bind (l_new S1 (by omega) fun s2 l S2 => ?_)
  have hT : s2.TypeIs (.ref l) "list" := (lst_isList (S2.get (X := lst l acc.toList) .head)).typeIs
  refine wpAny_bind (wpAny_holding (wpAny_call_entry slot_list_sort hT entry_list_sort (sort_pairs (S2.mono fun _ h => Sat.cons_mono (fun _ h => Sat.swap h) h) hvs (by omega) fun s' vs' hl' hv' S3 => ⟨_, rfl, ?_⟩) (args_list_sort _)))
  exact wpAny_pure ⟨_, rfl, h s' l vs' (by omega) hv' (S3.mono fun _ h => Sat.cons_mono (fun _ h => Sat.swap h) h)⟩
end

/-! small rules for the law -/
theorem IntsOf.pairs : ∀ {vs : List Value} {xs : List Int}, IntsOf vs xs → ∃ ps : List (Int × Tok), vs = ps.map (fun p => Value.int p.1 p.2) ∧ xs = ps.map (·.1)
  | [], [], _ => ⟨[], rfl, rfl⟩
  | [], _ :: _, h => absurd h.1 (by simp)
  | _ :: _, [], h => absurd h.1 (by simp)
  | v :: vs, x :: xs, h => by
    obtain ⟨t, ht⟩ := h.2 0 x rfl
    have h2 : IntsOf vs xs := ⟨by simpa using h.1, fun i y hy => by simpa using h.2 (i + 1) y (by simpa using hy)⟩
    obtain ⟨ps, e1, e2⟩ := h2.pairs
    refine ⟨(x, t) :: ps, ?_, ?_⟩
    · rw [List.map_cons, ← e1]; simp at ht; rw [ht]
    · rw [List.map_cons, ← e2]
section
variable {c : Cx} {A : Around} {E : Value → Shared → Prop} {s : Shared} {P R R1 R2 : List HP} {a b : Int} {t u : Tok} {Q : Value → Shared → Prop}
theorem modI (S : St c P s) (hb : 0 < b) (h : ∀ s' t, St c P s' → Q (.int (a % b) t) s') : wpAny c.M A (binaryOp .Mod (.int a t) (.int b u)) Q E s := by
  refine PyProof.Rows.mod_int (by omega) ?_
  rw [Int.fmod_eq_emod_of_nonneg _ (by omega)]
  exact h _ _ S.tok
theorem divI (S : St c P s) (hb : 0 < b) (hb2 : b < 1000000) (h : ∀ s' t, St c P s' → Q (.int (a / b) t) s') : wpAny c.M A (binaryOp .FloorDiv (.int a t) (.int b u)) Q E s := by
  refine PyProof.Rows.floordiv_int (by omega) ?_ (.inl (PyProof.noPylong_small (by omega)))
  rw [Int.fdiv_eq_ediv_of_nonneg _ (by omega)]
  exact h _ _ S.tok
theorem absI (S : St c P s) (h : ∀ s' t, St c P s' → Q (.int a.natAbs t) s') : wpAny c.M A (call (.builtin "abs") [.int a t]) Q E s := by
  refine PyProof.Rows.call_abs_int fun u tk => ?_
  rw [show (if a < 0 then -a else a) = (a.natAbs : Int) by split <;> omega]
  exact h _ _ S.tok
theorem isiI (h : Q (.bool true) s) : wpAny c.M A (call (.builtin "isinstance") [.int a t, .type "int"]) Q E s := IsiPair.int_int h
theorem neB {x y : Bool} (h : Q (.bool (x != y)) s) : wpAny c.M A (compareOp .NotEq (.bool x) (.bool y)) Q E s := SeqAt.RcNeAt.bool_bool x y _ _ _ _ h
theorem tup_get {l : Addr} {vs : List Value} {k : Nat} {v : Value} {i : Int} (S : St c P s) (tk : Take (tup l vs) P R) (hi : i = (k : Nat)) (hx : vs[k]? = some v) (hz : vs.length ≤ 1000) (h : Q v s) : wpAny c.M A (getItem (.ref l) (.int i u)) Q E s := by
  obtain ⟨n, hl⟩ := S.get tk
  have hlt : k < vs.length := (List.getElem?_eq_some_iff.mp hx).1
  subst hi
  refine PyProof.Rows.getItem_tuple (j := k) ⟨_, hl, rfl, n, rfl⟩ (by omega) (by omega) ?_ (by simpa using hx) h
  rw [List.size_toArray, seqIndex_of (by omega) (by omega), Int.toNat_natCast]
theorem tup_sub {l : Addr} {vs : List Value} {k : Nat} {v : Value} {i : Int} {value slice : Expr} (S : St c P s) (tk : Take (tup l vs) P R) (hi : i = (k : Nat)) (hx : vs[k]? = some v) (hz : vs.length ≤ 1000) (h : Q v s)
    (hs : subscripted slice false (.ref l) (.int i u) = operate [.ref l, .int i u] (getItem (.ref l) (.int i u)) := by with_unfolding_all rfl) : wpAny c.M A (subscriptTail value slice (.ref l) (.int i u)) Q E s := by
  obtain ⟨n, hl⟩ := id (S.get tk)
  have hT : s.TypeIs (.ref l) "tuple" := ⟨_, hl, rfl⟩
  exact tail_any hT PySem.F.slot_tuple_getitem.lookup (tup_get S tk hi hx hz h) hs
theorem li_len {l : Addr} {xs : List Int} (S : St c P s) (tk : Take (li l xs) P R) (hz : xs.length ≤ 100000) (h : ∀ s' t, St c P s' → Q (.int xs.length t) s') : wpAny c.M A (call (.builtin "len") [.ref l]) Q E s := by
  obtain ⟨vs, hv, hl⟩ := (S.get (X := li l xs) tk)
  have e : (vs.toArray.size : Int) = xs.length := by rw [List.size_toArray, hv.1]
  refine call_len_list (lst_isList hl) (by rw [e]; omega) ?_
  rw [e]
  exact h _ _ S.tok
theorem li_truthy {l : Addr} {xs : List Int} {Q : Bool → Shared → Prop} (S : St c P s) (tk : Take (li l xs) P R) (hz : xs.length ≤ 100000) (h : ∀ s', St c P s' → Q (xs.length != 0) s') : wpAny c.M A (truthy (.ref l)) Q E s := by
  obtain ⟨vs, hv, hl⟩ := (S.get (X := li l xs) tk)
  have e : vs.toArray.size = xs.length := by rw [List.size_toArray, hv.1]
  refine wpAny_truthy_list (lst_isList hl) (by rw [e]; omega) ?_
  have e2 : (!vs.toArray.isEmpty) = (xs.length != 0) := by rw [← e]; cases vs <;> simp
  rw [e2]
  exact h _ S.tok
theorem li_sum {l : Addr} {xs : List Int} (S : St c P s) (hh : A.handled = none) (tk : Take (li l xs) P R) (h : ∀ s' t, St c P s' → Q (.int xs.sum t) s') : wpAny c.M A (call (.builtin "sum") [.ref l]) Q E s := by
  obtain ⟨vs, hv, hl⟩ := (S.get (X := li l xs) tk)
  obtain ⟨ps, e1, e2⟩ := hv.pairs
  have hL : s.heap.IsList l (intItems ps.toArray) := by
    have : intItems ps.toArray = vs.toArray := by apply Array.toList_inj.mp; rw [e1]; simp [intItems]
    rw [this]; exact lst_isList hl
  refine sum_intListG hh hL fun h' tk' t' hk => ?_
  have e : preSum (numAt ps.toArray) ps.toArray.size = xs.sum := by rw [preSum_eq, List.take_of_length_le (by simp), e2]
  rw [e]
  exact h _ _ ((S.ext (s' := { s with heap := h' }) hk).tok)
theorem eqAt_ints {B : Around} {vs ws : List Value} {ps qs : List (Int × Tok)} (e1 : vs = ps.map fun p => Value.int p.1 p.2) (e2 : ws = qs.map fun p => Value.int p.1 p.2) (j : Nat) (h1 : j < vs.toArray.size) (h2 : j < ws.toArray.size) :
    SeqAt.EqAt B s vs.toArray[j] ws.toArray[j] ((ps.map (·.1))[j]? == (qs.map (·.1))[j]?) := by
  subst e1 e2
  simp only [List.size_toArray, List.length_map] at h1 h2
  have h := SeqAt.EqAt.int_int (A := B) (s := s) ps[j].1 ps[j].2 qs[j].1 qs[j].2
  have e : ((ps.map (·.1))[j]? == (qs.map (·.1))[j]?) = (ps[j].1 == qs[j].1) := by
    rw [List.getElem?_map, List.getElem?_map, List.getElem?_eq_getElem h1, List.getElem?_eq_getElem h2]; rfl
  rw [e]
  simpa using h
theorem all_eq {xs ys : List Int} (h : xs.length = ys.length) : ((List.range xs.length).all fun j => xs[j]? == ys[j]?) = decide (xs = ys) := by
  rw [Bool.eq_iff_iff, decide_eq_true_eq, List.all_eq_true]
  constructor
  · intro g
    refine List.ext_getElem? fun i => ?_
    by_cases hi : i < xs.length
    · exact eq_of_beq (g i (List.mem_range.mpr hi))
    · rw [List.getElem?_eq_none (by omega), List.getElem?_eq_none (by omega)]
  · rintro rfl i _
    exact beq_self_eq_true _
theorem li_eq {l m : Addr} {xs ys : List Int} (S : St c P s) (hu : Rm A 2) (tk1 : Take (li l xs) P R1) (tk2 : Take (li m ys) P R2) (hlen : xs.length = ys.length) (h : Q (.bool (decide (xs = ys))) s) : wpAny c.M A (compareOp .Eq (.ref l) (.ref m)) Q E s := by
  obtain ⟨vs, hv, hl⟩ := (S.get (X := li l xs) tk1)
  obtain ⟨ws, hw, hm⟩ := (S.get (X := li m ys) tk2)
  obtain ⟨ps, e1, e2⟩ := hv.pairs
  obtain ⟨qs, e3, e4⟩ := hw.pairs
  refine SeqAt.eq_listAt (e := fun j => xs[j]? == ys[j]?) (lst_isList hl) (lst_isList hm) (by rw [List.size_toArray, List.size_toArray, hv.1, hw.1, hlen]) hu.units (fun j h1 h2 => ?_) ?_
  · rw [e2, e4]; exact eqAt_ints e1 e3 j h1 h2
  · rw [List.size_toArray, hv.1, all_eq hlen]; exact h
theorem li_ne {l m : Addr} {xs ys : List Int} (S : St c P s) (hu : Rm A 2) (tk1 : Take (li l xs) P R1) (tk2 : Take (li m ys) P R2) (hlen : xs.length = ys.length) (h : Q (.bool (!decide (xs = ys))) s) : wpAny c.M A (compareOp .NotEq (.ref l) (.ref m)) Q E s := by
  obtain ⟨vs, hv, hl⟩ := (S.get (X := li l xs) tk1)
  obtain ⟨ws, hw, hm⟩ := (S.get (X := li m ys) tk2)
  obtain ⟨ps, e1, e2⟩ := hv.pairs
  obtain ⟨qs, e3, e4⟩ := hw.pairs
  refine SeqAt.RcNeAt.lists (e := fun j => xs[j]? == ys[j]?) (lst_isList hl) (lst_isList hm) (by rw [List.size_toArray, List.size_toArray, hv.1, hw.1, hlen]) hu.units (fun j h1 h2 => ?_) _ _ _ _ ?_
  · rw [e2, e4]; exact eqAt_ints e1 e3 j h1 h2
  · rw [List.size_toArray, hv.1, all_eq hlen]; exact h
theorem li_slice {l : Addr} {xs : List Int} {k : Nat} {value : Expr} {p pos ck : Pos} {ck2 : Nat} {env : Env} (hz : xs.length ≤ 100000)
    (h : wpAny c.M A (eval value env) (fun o s₁ => o = .ref l ∧ ∃ P1 R1, St c P1 s₁ ∧ Take (li l xs) P1 R1 ∧ ∀ s' b, St c (li b (xs.take k) :: P1) s' → Q (.ref b) s') E s) (ht : ∀ o r, letTemporaryGo value o r = pure () := by intro _ _; rfl) :
    wpAny c.M A (eval (.Subscript value (.Slice none (some (.Constant (.int (k : Int)) ck2 ck)) none p) pos) env) Q E s := by
  refine wpAny_Subscript_Slice (T := "list") (id := "list.__getitem__") list_getitem_lookup (wpAny_mono h (fun o s₁ h₁ => ?_) fun _ _ x => x) ht
  obtain ⟨rfl, P1, R1, S1, tk, hq⟩ := h₁
  refine wpAny_Slice (wpAny_pure ?_)
  rw [evalPart_some]
  refine wpAny_Constant_int ?_
  refine wpAny_pure ?_
  have S2 : St c P1 { s₁ with toks := s₁.toks + 1 } := S1.tok
  have S3 : St c P1 { s₁ with toks := s₁.toks + 1, heap := s₁.heap.push { cls := .type "slice", data := .fields #[.none, .int (k : Int) s₁.toks, .none] } } := S2.ext (fun b o e => Heap.get?_push_of_some _ e)
  obtain ⟨vs, hv, hl⟩ := (S3.get (X := li l xs) tk)
  have hL := lst_isList hl
  refine ⟨hL.typeIs, wpAny_getItem_list_slice hL (Heap.IsSliceOf.new ..) .none (.int _ _) .none (by simp) ?_ (by rw [List.size_toArray, hv.1, sizeLine_eq]; omega)⟩
  rw [slicePick_upto']
  refine hq _ _ (S3.alloc rfl ⟨vs.take k, ⟨by simp [hv.1], fun i x hx => ?_⟩, ?_⟩)
  · rw [List.getElem?_take] at hx ⊢
    split at hx
    · rename_i hlt; rw [if_pos hlt]; exact hv.2 i x hx
    · cases hx
  · exact ⟨0, one_self⟩
end

end Mine
namespace Mine
local macro_rules | `(tactic| wtm_at "oth") => `(tactic| repeat' (first | apply Oth.nil | (apply Oth.par; (exact rfl)) | apply Oth.new | apply Oth.skip))
local macro_rules | `(tactic| wtm_at "memf") => `(tactic| first | with_reducible assumption | exact mem_range (by assumption) | exact mem_range (by omega))
local macro_rules | `(tactic| wtm_at "take") => `(tactic| ((repeat (first | with_reducible exact Take.head | (refine' Take.famAt2 ?e ?h; (case e => with_reducible exact rfl); (case h => wtm_at "memf")) | apply Take.tail)); done))
local macro_rules | `(tactic| wtm_at "vat") => `(tactic| first | with_reducible assumption | exact valueAt_idx (by first | assumption | omega) | exact (At.val (by wtm_at "at")))
local macro_rules | `(tactic| wtm_at "len") => `(tactic| first | (simp [idx_length]; done) | (simp [idx_length]; omega) | omega)
local macro_rules | `(tactic| wtm_at "takes") => `(tactic| first | exact Takes.nil | (refine' Takes.cons ?a ?b; (case a => wtm_at "take"); (case b => wtm_at "takes")))
local macro_rules | `(tactic| wtm_at "drop") => `(tactic| ((repeat (first | exact Drop.refl | apply Drop.skip)); done))
local macro_rules | `(tactic| wtm_at "cov") => `(tactic| first | (refine' Cov.cons ?a ?b; (case a => wtm_at "take"); (case b => wtm_at "cov")) | (refine Cov.nil ?_; wtm_at "drop"))
local macro_rules | `(tactic| wtm_at "fin") => `(tactic| (refine' St.cov (by assumption) ?a; (case a => wtm_at "cov")))
local macro_rules | `(tactic| wtm_at "mem") => `(tactic| ((repeat (first | with_reducible exact List.mem_cons_self | apply List.mem_cons_of_mem)); done))
local macro_rules | `(tactic| wtm_at "put") => `(tactic| ((repeat (first | with_reducible exact Put.here | apply Put.there)); done))
local macro_rules | `(tactic| wtm_at "at") => `(tactic| first | with_reducible assumption | ((repeat (first | with_reducible exact At.here | (apply At.there; (exact rfl)))); done))
set_option hygiene false in
local macro_rules | `(tactic| wtm_at "sS") => `(tactic| (clear S; intro s S))
set_option hygiene false in
local macro_rules | `(tactic| wtm_at "stS") => `(tactic| (clear S; intro s t S))
set_option hygiene false in
local macro_rules | `(tactic| wtm_at "saS") => `(tactic| (clear S; intro s nw S))
set_option hygiene false in
local macro_rules | `(tactic| wtm_at "sitS") => `(tactic| (clear S; intro s it S))
set_option hygiene false in
local macro_rules | `(tactic| wtm_at "siteS") => `(tactic| (clear S; intro s it ep S))
local macro_rules | `(tactic| wtm_at "ld") => `(tactic| first | (refine' ld (by assumption) ?t ?g ?_ rfl rfl (by decide); (case t => wtm_at "take"); (case g => wtm_at "mem")) | (refine' ldG (by assumption) ?e ?_ rfl rfl (by decide); (case e => wtm_at "gl")) | (refine' ldB (by assumption) ?e ?hv (by decide) ?_ rfl rfl (by decide); (case e => exact rfl); (case hv => wtm_at "bt")) | (refine' ldC (by assumption) ?q ?t ?_ rfl rfl (by decide); (case q => exact rfl); (case t => wtm_at "take")) | (refine' ldF (by assumption) ?q ?t ?_ rfl rfl (by decide) (by decide); (case q => exact rfl); (case t => wtm_at "take")))
local macro_rules | `(tactic| wtm_at "bt") => `(tactic| first | with_reducible exact bt_isinstance | with_reducible exact bt_iter | with_reducible exact bt_next | with_reducible exact bt_len | with_reducible exact bt_min | with_reducible exact bt_max | with_reducible exact bt_sum | with_reducible exact bt_callable | with_reducible exact bt_sorted | with_reducible exact bt_abs | with_reducible exact bt_getattr | with_reducible exact bt_list | with_reducible exact bt_range | with_reducible exact bt_float | with_reducible exact bt_int | with_reducible exact bt_bool | with_reducible exact bt_str | with_reducible exact bt_dict | with_reducible exact bt_tuple | with_reducible exact bt_super)
local macro_rules | `(tactic| wtm_at "gl") => `(tactic| first | with_reducible exact gl_Graph _ | with_reducible exact gl_EdgeView _ | with_reducible exact gl_DiGraph _ | with_reducible exact gl_CurrentEdge _ | with_reducible exact gl_build_residual_network _ | with_reducible exact gl__capacity_function _ | with_reducible exact gl_shortest_augmenting_path_impl _ | with_reducible exact gl_shortest_augmenting_path _ | with_reducible exact gl__law_cuts _ | with_reducible exact gl__law_spread _ | with_reducible exact gl_deque _)
local macro_rules | `(tactic| wtm_at "st") => `(tactic| first | (refine' st (by assumption) ?t ?p ?_ rfl rfl; (case t => wtm_at "take"); (case p => wtm_at "put"); wtm_at "sS") | (refine' stC (by assumption) ?q ?t ?_ rfl rfl; (case q => exact rfl); (case t => wtm_at "take"); wtm_at "sS"))
local macro_rules | `(tactic| wtm_at "s") => `(tactic| first | ((with_reducible show wpAny _ _ (execs _ _) _ _ _); first | ((with_reducible show wpAny _ _ (execs (_ :: _) _) _ _ _); refine wpAny_execs_cons ?_) | ((with_reducible show wpAny _ _ (execs [] _) _ _ _); refine wpAny_execs_nil ?_)) | ((with_reducible show wpAny _ _ (exec _ _) _ _ _); first | ((with_reducible show wpAny _ _ (exec (Stmt.Assign [Expr.Name _ _] _ _) _) _ _ _); refine wpAny_Assign_Name ?_) | ((with_reducible show wpAny _ _ (exec (Stmt.Assign [Expr.Subscript _ _ _] _ _) _) _ _ _); refine wpAny_Assign_Subscript ?_) | ((with_reducible show wpAny _ _ (exec (Stmt.Assign [Expr.Tuple _ _ _] _ _) _) _ _ _); first | refine Assign_Tuple ?_ | refine Assign_Tuple_swapped ?_ rfl rfl) | ((with_reducible show wpAny _ _ (exec (Stmt.Return (some _) _) _) _ _ _); refine wpAny_Return_some ?_) | ((with_reducible show wpAny _ _ (exec (Stmt.Expr _ _) _) _ _ _); refine wpAny_Expr ?_) | ((with_reducible show wpAny _ _ (exec (Stmt.If _ _ _ _) _) _ _ _); refine wpAny_If ?_) | ((with_reducible show wpAny _ _ (exec (Stmt.AugAssign (Expr.Subscript _ _ _) _ _ _) _) _ _ _); refine wpAny_AugAssign_SubscriptAny ?_)))
local macro_rules | `(tactic| wtm_at "e") => `(tactic| first | ((with_reducible show wpAny _ _ (eval _ _) _ _ _); first | ((with_reducible show wpAny _ _ (eval (Expr.Name _ _) (compEnvC _ _ _ _)) _ _ _); first | (refine' cld (by assumption) ?t ?g ?_ rfl rfl (by decide); (case t => wtm_at "take"); (case g => wtm_at "mem")) | (refine' cldC (by assumption) ?q ?t ?_ rfl rfl (by decide); (case q => exact rfl); (case t => wtm_at "take"))) | ((with_reducible show wpAny _ _ (eval (Expr.Name _ _) _) _ _ _); wtm_at "ld") | ((with_reducible show wpAny _ _ (eval (Expr.Constant (Const.int _) _ _) _) _ _ _); (refine cI (by assumption) ?_; wtm_at "stS")) | ((with_reducible show wpAny _ _ (eval (Expr.Constant (Const.str _) _ _) _) _ _ _); (refine cS (by assumption) ?_; wtm_at "stS")) | ((with_reducible show wpAny _ _ (eval (Expr.Attribute (Expr.Name _ _) _ _) _) _ _ _); refine Attribute_name ?_) | ((with_reducible show wpAny _ _ (eval (Expr.Attribute _ _ _) _) _ _ _); refine Attribute_any_ ?_) | ((with_reducible show wpAny _ _ (eval (Expr.Subscript _ _ _) _) _ _ _); refine Subscript_ ?_) | ((with_reducible show wpAny _ _ (eval (Expr.BinOp _ _ _ _) _) _ _ _); refine wpAny_BinOp ?_) | ((with_reducible show wpAny _ _ (eval (Expr.Compare _ [_] [_] _) _) _ _ _); refine wpAny_Compare1 ?_) | ((with_reducible show wpAny _ _ (eval (Expr.BoolOp BoolOp.And _ _) _) _ _ _); refine wpAny_And2 ?_) | ((with_reducible show wpAny _ _ (eval (Expr.IfExp _ _ _ _) _) _ _ _); refine wpAny_IfExp ?_) | ((with_reducible show wpAny _ _ (eval (Expr.UnaryOp _ _ _) _) _ _ _); refine wpAny_UnaryOp ?_) | ((with_reducible show wpAny _ _ (eval (Expr.Call (Expr.Attribute _ _ _) _ [] _) _) _ _ _); refine MethodCall_ ?_) | ((with_reducible show wpAny _ _ (eval (Expr.Call (Expr.Attribute _ _ _) _ (_ :: _) _) _) _ _ _); refine methodCall_KW ?_) | ((with_reducible show wpAny _ _ (eval (Expr.Call (Expr.Name _ _) _ [] _) _) _ _ _); refine Call_ ?_) | ((with_reducible show wpAny _ _ (eval (Expr.Tuple _ _ _) _) _ _ _); refine Tuple_ ?_) | ((with_reducible show wpAny _ _ (eval (Expr.List _ _) _) _ _ _); refine List_ ?_)) | ((with_reducible show wpAny _ _ (isTrue _ _ _) _ _ _); first | ((with_reducible show wpAny _ _ (isTrue (Expr.Compare _ [_] [_] _) _ _) _ _ _); refine wpAny_isTrue_Compare1 ?_) | ((with_reducible show wpAny _ _ (isTrue (Expr.UnaryOp UnaryOp.Not _ _) _ _) _ _ _); refine wpAny_isTrue_Not ?_) | ((with_reducible show wpAny _ _ (isTrue (Expr.BoolOp _ _ _) _ _) _ _ _); refine wpAny_isTrue_BoolOp ?_) | ((with_reducible show wpAny _ _ (isTrue (Expr.Name _ _) _ _) _ _ _); refine wpAny_isTrue_value ?_) | ((with_reducible show wpAny _ _ (isTrue (Expr.Call _ _ _ _) _ _) _ _ _); refine wpAny_isTrue_value ?_)) | ((with_reducible show wpAny _ _ (allTrue _ _ _) _ _ _); first | ((with_reducible show wpAny _ _ (allTrue BoolOp.And [] _) _ _ _); refine wpAny_allTrue_And_nil ?_) | ((with_reducible show wpAny _ _ (allTrue BoolOp.Or [] _) _ _ _); refine wpAny_allTrue_Or_nil ?_) | ((with_reducible show wpAny _ _ (allTrue BoolOp.And (_ :: _) _) _ _ _); refine wpAny_allTrue_And_cons ?_) | ((with_reducible show wpAny _ _ (allTrue BoolOp.Or (_ :: _) _) _ _ _); refine wpAny_allTrue_Or_cons ?_)) | ((with_reducible show wpAny _ _ (spliced (backTo _ (starEach [] _))) _ _ _); refine args_nil ?_) | ((with_reducible show wpAny _ _ (spliced (backTo _ (starEach (_ :: _) _))) _ _ _); refine args_cons ?_))
local macro_rules | `(tactic| wtm_at "v") => `(tactic| first | ((with_reducible show wpAny _ _ (storeName _ _ _) _ _ _); first | ((with_reducible show wpAny _ _ (storeName (compEnvC _ _ _ _) _ _) _ _ _); first | (refine' cst (by assumption) ?t ?p ?_ rfl rfl; (case t => wtm_at "take"); (case p => wtm_at "put"); wtm_at "sS") | (refine' cstC (by assumption) ?q ?t ?_ rfl rfl; (case q => exact rfl); (case t => wtm_at "take"); wtm_at "sS")) | ((with_reducible show wpAny _ _ (storeName _ _ _) _ _ _); wtm_at "st")) | ((with_reducible show wpAny _ _ (callWith _ _ _ _ _) _ _ _); first | ((with_reducible show wpAny _ _ (callWith _ (Value.builtin _) _ (backTo _ (starEach (_ :: _) _)) []) _ _ _); refine callB ?_) | ((with_reducible show wpAny _ _ (callWith _ (Value.type _) _ (backTo _ (starEach (_ :: _) _)) []) _ _ _); refine PyProof.Rows.callWith_type1 ?_) | ((with_reducible show wpAny _ _ (callWith _ (Value.ref _) _ (backTo _ (starEach (_ :: _) _)) []) _ _ _); refine callF (by assumption) (by exact rfl) ?_) | ((with_reducible show wpAny _ _ (callWith _ (Value.ref _) _ (backTo _ (starEach [] _)) []) _ _ _); refine callF0 (by assumption) (by exact rfl) ?_) | ((with_reducible show wpAny _ _ (callWith _ (Value.ref _) _ (backTo _ (starEach (_ :: _) _)) (backToKw _ (keywordEach (_ :: _) _))) _ _ _); refine callFk (by assumption) (by exact rfl) ?_)) | ((with_reducible show wpAny _ _ (call _ _ _) _ _ _); first | ((with_reducible show wpAny _ _ (call _ ([] ++ _) _) _ _ _); refine call_app0 ?_) | ((with_reducible show wpAny _ _ (call _ ([_] ++ _) _) _ _ _); refine call_app1 ?_) | ((with_reducible show wpAny _ _ (call (Value.builtin "list.append") [Value.ref _, _]) _ _ _); (refine' l_append (by assumption) ?t ?z ?_; (case t => wtm_at "take"); (case z => wtm_at "len"); wtm_at "sS"))) | ((with_reducible show wpAny _ _ (forIn [_] true _) _ _ _); refine wpAny_tests_one ?_) | ((with_reducible show wpAny _ _ (forIn [] true _) _ _ _); refine wpAny_tests_nil ?_) | ((with_reducible show wpAny _ _ (evalAll (List.map _ (backToKw _ (keywordEach (_ :: _) _)))) _ _ _); refine kws_cons ?_) | ((with_reducible show wpAny _ _ (evalAll (List.map _ (backToKw _ (keywordEach [] _)))) _ _ _); refine kws_nil ?_) | ((with_reducible show wpAny _ _ (getMethod _ _ _) _ _ _); first | ((with_reducible show wpAny _ _ (getMethod (Value.ref _) "append" _) _ _ _); (refine' gm_append (by assumption) ?t ?_; (case t => wtm_at "take"))) | ((with_reducible show wpAny _ _ (getMethod (Value.ref _) _ _) _ _ _); (refine' getGM (by assumption) ?g ?t1 ?t2 ?z ?_; (case g => first | with_reducible exact gme_add_node | with_reducible exact gme_add_nodes_from | with_reducible exact gme_add_edge | with_reducible exact gme_remove_edge | with_reducible exact gme_has_edge | with_reducible exact gme_is_multigraph | with_reducible exact gme_is_directed | with_reducible exact gme_edge_rows); (case t1 => wtm_at "take"); (case t2 => wtm_at "take"); (case z => exact rfl)))) | ((with_reducible show wpAny _ _ (assign _ _ _) _ _ _); first | ((with_reducible show wpAny _ _ (assign (Expr.Name _ _) _ _) _ _ _); refine assign_Name ?_) | ((with_reducible show wpAny _ _ (assign (Expr.Tuple [_, _] _ _) _ (Value.ref _)) _ _ _); (refine' asg2 (by assumption) ?hA ?t ?_; (case t => wtm_at "take"); (case hA => assumption); wtm_at "sS"))) | ((with_reducible show wpAny _ _ (pyIter (Value.ref _)) _ _ _); first | (refine' l_iter (by assumption) ?t ?_; (case t => wtm_at "take"); wtm_at "sitS") | (refine' i_iter (by assumption) ?tt ?_; (case tt => wtm_at "takes"); wtm_at "siteS") | (refine' v_iter (by assumption) ?tt ?_; (case tt => wtm_at "takes"); wtm_at "siteS")) | ((with_reducible show wpAny _ _ (truthy (Value.bool _)) _ _ _); refine wpAny_truthy_bool ?_) | ((with_reducible show wpAny _ _ (subscriptTail _ _ _ _) _ _ _); first | ((with_reducible show wpAny _ _ (subscriptTail _ _ (Value.ref _) (Value.int _ _)) _ _ _); first | (refine' dI_sub (by assumption) ?t ?v ?_ (by with_unfolding_all rfl); (case t => wtm_at "take"); (case v => wtm_at "vat"); wtm_at "sS") | (refine' l_sub (by assumption) ?t ?h0 ?hz ?hx ?_ (by with_unfolding_all rfl); (case t => wtm_at "take"); rotate_left 3)) | ((with_reducible show wpAny _ _ (subscriptTail _ _ (Value.ref _) (Value.str _ _)) _ _ _); (refine' dS_sub (by assumption) ?t ?v ?_ (by with_unfolding_all rfl); (case t => wtm_at "take"); (case v => wtm_at "vat"); wtm_at "sS"))) | ((with_reducible show wpAny _ _ (getItem (Value.ref _) (Value.int _ _)) _ _ _); first | (refine' dI_get (by assumption) ?t ?v ?_; (case t => wtm_at "take"); (case v => wtm_at "vat"); wtm_at "sS") | (refine' l_get (by assumption) ?t ?h0 ?hz ?hx ?_; (case t => wtm_at "take"); rotate_left 3)) | ((with_reducible show wpAny _ _ (setItem (Value.ref _) (Value.int _ _) _) _ _ _); first | (refine' dI_set (by assumption) ?t ?z ?_; (case t => wtm_at "take"); (case z => wtm_at "len"); wtm_at "sS") | (refine' l_set (by assumption) ?t ?h0 ?hz ?hz2 ?_; (case t => wtm_at "take"); rotate_left 3; wtm_at "sS")) | ((with_reducible show wpAny _ _ (compareOp _ _ _) _ _ _); first | ((with_reducible show wpAny _ _ (compareOp CmpOp.Lt (Value.int _ _) (Value.int _ _)) _ _ _); refine ltI ?_) | ((with_reducible show wpAny _ _ (compareOp CmpOp.Gt (Value.int _ _) (Value.int _ _)) _ _ _); refine gtI ?_) | ((with_reducible show wpAny _ _ (compareOp CmpOp.Eq (Value.int _ _) (Value.int _ _)) _ _ _); refine eqI ?_) | ((with_reducible show wpAny _ _ (compareOp CmpOp.NotEq (Value.int _ _) (Value.int _ _)) _ _ _); refine neI ?_)) | ((with_reducible show wpAny _ _ (binaryOp _ _ _) _ _ _); first | ((with_reducible show wpAny _ _ (binaryOp Operator.Add (Value.int _ _) (Value.int _ _)) _ _ _); (refine addI (by assumption) ?_; wtm_at "stS")) | ((with_reducible show wpAny _ _ (binaryOp Operator.Sub (Value.int _ _) (Value.int _ _)) _ _ _); (refine subI (by assumption) ?_; wtm_at "stS"))) | ((with_reducible show wpAny _ _ (inplaceOp Operator.Add (Value.int _ _) (Value.int _ _)) _ _ _); (refine iaddI (by assumption) ?_; wtm_at "stS")) | ((with_reducible show wpAny _ _ (newList _) _ _ _); (refine' l_new (by assumption) ?z ?_; (case z => (simp; done)); wtm_at "saS")) | ((with_reducible show wpAny _ _ (newTuple _) _ _ _); (refine' t_new (by assumption) ?z ?_; (case z => (simp; done)); wtm_at "saS")) | ((with_reducible show wpAny _ _ (getAttr (Value.ref _) _ _) _ _ _); wtm_at "getA"))
local macro_rules | `(tactic| wtm_at "getA") => `(tactic| (refine' getG2 (by assumption) ?g ?t1 ?t2 ?v ?d ?_; (case g => first | with_reducible exact gattr_adj | with_reducible exact gattr_node | with_reducible exact gattr_pred | with_reducible exact gattr_graph); (case t1 => wtm_at "take"); (case t2 => wtm_at "take"); (case v => wtm_at "at"); (case d => exact rfl); wtm_at "sS"))
local macro_rules | `(tactic| wtm_at "k") => `(tactic| ((with_reducible show (Frag.In _ _ ∧ wpAny _ _ _ _ _ _)); refine ⟨St.K (by assumption), ?_⟩))
local macro_rules | `(tactic| wtm_at "if") => `(tactic| ((with_reducible show ite _ _ _); first | refine ite_T (by decide) ?_ | refine ite_F (by decide) ?_ | refine ite_F (by exact Bool.false_ne_true) ?_ | refine ite_T (by exact rfl) ?_))
local macro_rules | `(tactic| wtm_at "w") => `(tactic| first | wtm_at "if" | wtm_at "k" | wtm_at "s" | wtm_at "e" | wtm_at "v")
set_option hygiene false in
local macro_rules | `(tactic| wtm_at "hk") => `(tactic| (intro n x hx; (repeat (rcases List.mem_cons.mp hx with rfl | hx; focus (first | exact Or.inl rfl | exact Or.inr ⟨rfl, rfl⟩))); cases hx))
set_option hygiene false in
local macro_rules | `(tactic| wtm_at "centerC") => `(tactic| ((case oth => wtm_at "oth"); (case nd => exact rfl); (case hk => wtm_at "hk"); clear S; intro A L s rm hh S env; (first | replace hA := hh.trans hA | skip); simp only [boundF, List.map_cons, List.map_nil, List.cons_append, List.nil_append, List.append_nil] at S))
set_option hygiene false in
local macro_rules | `(tactic| wtm_at "enter") => `(tactic| ((case oth => wtm_at "oth"); (case nd => exact rfl); clear S; intro A L s rm hh S env; (first | replace hA := hh.trans hA | skip); simp only [boundF, List.map_cons, List.map_nil, List.cons_append, List.nil_append, List.append_nil] at S))
local macro_rules | `(tactic| wtm_at "v") => `(tactic| first | ((with_reducible show wpAny _ _ (call (Value.builtin "min") [Value.int _ _, Value.int _ _]) _ _ _); (refine minH (by assumption) (by assumption) ?_; wtm_at "stS")) | ((with_reducible show wpAny _ _ (getMethod _ _ _) _ _ _); first | ((with_reducible show wpAny _ _ (getMethod (Value.ref _) "append" _) _ _ _); (refine' gm_dqAppend (by assumption) ?t ?_; (case t => wtm_at "take");)) | ((with_reducible show wpAny _ _ (getMethod (Value.ref _) _ _) _ _ _); (refine' ce_method (by assumption) ?g ?t1 ?t2 ?_; (case g => first | with_reducible exact ce_get_m | with_reducible exact ce_move_m | with_reducible exact ce_rewind_m); (case t1 => wtm_at "take"); (case t2 => wtm_at "take")))) | ((with_reducible show wpAny _ _ (pyIter (Value.ref _)) _ _ _); (refine' i_iterAt (by assumption) ?tt ?_; (case tt => wtm_at "takes"); wtm_at "sitS")) | ((with_reducible show wpAny _ _ (subscriptTail _ _ (Value.ref _) (Value.int _ _)) _ _ _); (refine' dI_subAt (by assumption) ?t ?v ?_ (by with_unfolding_all rfl); (case t => wtm_at "take"); (case v => wtm_at "vat"); wtm_at "sS")) | ((with_reducible show wpAny _ _ (getAttr (Value.ref _) _ _) _ _ _); (refine' sl_get (by assumption) ?g ?t1 ?t2 ?v ?d ?_; (case g => first | with_reducible exact sl_curr | with_reducible exact sl_edges | with_reducible exact sl_it); (case t1 => wtm_at "take"); (case t2 => wtm_at "take"); (case v => first | with_reducible assumption | exact rfl); (case d => exact rfl); wtm_at "sS")))
local macro_rules | `(tactic| wtm_at "w1") => `(tactic| ((fail_if_success (with_reducible show wpAny _ _ (exec (Stmt.For _ _ _ _ _) _) _ _ _)); (fail_if_success (with_reducible show wpAny _ _ (exec (Stmt.While _ _ _ _) _) _ _ _)); (fail_if_success (with_reducible show wpAny _ _ (exec (Stmt.Try _ _ _ _ _) _) _ _ _)); wtm_at "w"))
local macro_rules | `(tactic| wtm_at "ww") => `(tactic| repeat (wtm_at "w1"))
local macro_rules | `(tactic| wtm_at "bt") => `(tactic| with_reducible exact bt_StopIteration)
set_option hygiene false in
local macro_rules | `(tactic| wtm_at "srS") => `(tactic| (clear S; intro s rg S))
local macro_rules | `(tactic| wtm_at "pos") => `(tactic| first | decide | omega)
local macro_rules | `(tactic| wtm_at "v") => `(tactic| first | ((with_reducible show wpAny _ _ (call _ _ _) _ _ _); first | ((with_reducible show wpAny _ _ (call (Value.type "range") [Value.int _ _]) _ _ _); (refine range1 (by assumption) ?_; wtm_at "srS")) | ((with_reducible show wpAny _ _ (call (Value.builtin "abs") [Value.int _ _]) _ _ _); (refine absI (by assumption) ?_; wtm_at "stS")) | ((with_reducible show wpAny _ _ (call (Value.builtin "isinstance") [Value.int _ _, Value.type "int"]) _ _ _); refine isiI ?_) | ((with_reducible show wpAny _ _ (call (Value.builtin "len") [Value.ref _]) _ _ _); first | (refine' li_len (by assumption) ?t ?kz ?_; (case t => wtm_at "take"); (case kz => wtm_at "len"); wtm_at "stS") | (refine' t_len (by assumption) ?t ?kz ?_; (case t => wtm_at "take"); (case kz => wtm_at "len"); wtm_at "stS"))) | ((with_reducible show wpAny _ _ (binaryOp _ _ _) _ _ _); first | ((with_reducible show wpAny _ _ (binaryOp Operator.LShift (Value.int 1 _) (Value.int _ _)) _ _ _); (refine' shl1 (by assumption) ?kz ?_; (case kz => omega); wtm_at "stS")) | ((with_reducible show wpAny _ _ (binaryOp Operator.RShift (Value.int _ _) (Value.int _ _)) _ _ _); (refine shrN (by assumption) ?_; wtm_at "stS")) | ((with_reducible show wpAny _ _ (binaryOp Operator.BitAnd (Value.int _ _) (Value.int 1 _)) _ _ _); (refine and1 (by assumption) ?_; wtm_at "stS")) | ((with_reducible show wpAny _ _ (binaryOp Operator.Mod (Value.int _ _) (Value.int _ _)) _ _ _); (refine' modI (by assumption) ?kz ?_; (case kz => wtm_at "pos"); wtm_at "stS")) | ((with_reducible show wpAny _ _ (binaryOp Operator.FloorDiv (Value.int _ _) (Value.int _ _)) _ _ _); (refine' divI (by assumption) ?kz ?ky ?_; (case kz => wtm_at "pos"); (case ky => wtm_at "pos"); wtm_at "stS"))) | ((with_reducible show wpAny _ _ (inplaceOp Operator.BitOr (Value.int _ _) (Value.int _ _)) _ _ _); (refine orN (by assumption) ?_; wtm_at "stS")) | ((with_reducible show wpAny _ _ (unaryOp UnaryOp.USub (Value.int _ _)) _ _ _); (refine negI (by assumption) ?_; wtm_at "stS")) | ((with_reducible show wpAny _ _ (compareOp CmpOp.NotEq (Value.bool _) (Value.bool _)) _ _ _); refine neB ?_) | ((with_reducible show wpAny _ _ (truthy (Value.ref _)) _ _ _); first | (refine' li_truthy (by assumption) ?t ?kz ?_; (case t => wtm_at "take"); (case kz => wtm_at "len"); wtm_at "sS") | (refine' t_truthy (by assumption) ?t ?kz ?_; (case t => wtm_at "take"); (case kz => wtm_at "len"); wtm_at "sS")) | ((with_reducible show wpAny _ _ (getMethod _ _ _) _ _ _); first | ((with_reducible show wpAny _ _ (getMethod (Value.ref _) "pop" _) _ _ _); (refine' tm_pop (by assumption) ?t ?_; (case t => wtm_at "take");)) | ((with_reducible show wpAny _ _ (getMethod (Value.ref _) "setdefault" _) _ _ _); (refine' tm_setdefault (by assumption) ?t ?_; (case t => wtm_at "take");))))
set_option hygiene false in
local macro_rules | `(tactic| wtm_at "Rget") => `(tactic| (refine' subG (x := b.g) S ?zr2 ?zr3 (g_getitem (k := k) (n := n) (aa := b.aa) S (rm.in1.le (by omega)) ?zr4 ?zr5 (by assumption) ?_) (by with_unfolding_all rfl); (case zr2 => wtm_at "take"); (case zr3 => wtm_at "take"); (case zr4 => wtm_at "takes"); (case zr5 => wtm_at "at"); clear S; intro s S; simp only [List.cons_append, List.nil_append] at S; dsimp only))
local macro_rules | `(tactic| wtm_at "w2") => `(tactic| ((fail_if_success (with_reducible show wpAny _ _ (execs (_ :: _) _) _ _ _)); (fail_if_success (with_reducible show wpAny _ _ (execs [] _) _ _ _)); wtm_at "w1"))
local macro_rules | `(tactic| wtm_at "wz") => `(tactic| repeat (wtm_at "w2"))

/-! the spread -/
theorem range_small {n : Nat} (hn : n ≤ 1000000) : Builtin.Range.small 0 (n : Int) 1 = true ∧ Builtin.Range.rangeSize 0 (n : Int) 1 = n := by
  have e : Builtin.Range.rangeSize 0 (n : Int) 1 = n := by
    unfold Builtin.Range.rangeSize
    simp only [show (1 : Int) > 0 from by decide, if_true]
    split <;> omega
  refine ⟨?_, e⟩
  simp [Builtin.Range.small, Builtin.Range.rangeFitsLong, e]
  omega
section
variable {c : Cx} {A : Around} {E : Value → Shared → Prop} {s : Shared} {P R : List HP} {r it : Addr} {n : Nat}
theorem r_iterN {Q : Value → Shared → Prop} (S : St c P s) (t : Take (rng r 0 (n : Int) 1) P R) (hn : n ≤ 1000000) (h : ∀ s' it, St c (rIt it ((0 : Nat) : Int) ((n : Int) - (0 : Nat)) 1 :: P) s' → Q (.ref it) s') : wpAny c.M A (pyIter (.ref r)) Q E s := by
  refine r_iter S t (range_small hn).1 (range_small hn).2 fun s' it S' => h s' it ?_
  simpa using S'
theorem r_walkN (hh : A.handled = none) : Iter c A (.ref it) n (fun i => [rIt it (i : Nat) ((n : Int) - (i : Nat)) 1]) (fun i v => ∃ t, v = .int (i : Nat) t) (fun i _ => [rIt it ((i + 1 : Nat) : Int) ((n : Int) - (i + 1 : Nat)) 1]) [] := by
  have X := r_walk (c := c) (A := A) (it := it) (a := 0) (st := 1) (n := n) hh
  simp only [Int.zero_add, Int.mul_one] at X
  exact X
theorem r_self {x l st : Int} (S : St c P s) (t : Take (rIt it x l st) P R) (Q : Value → Shared → Prop) (E : Value → Shared → Prop) (q : Q (.ref it) s) : wpAny c.M A (pyIter (.ref it)) Q E s :=
  wpAny_pyIter_rangeiter (S.get t : rIt it x l st s.heap.get?) q
theorem li_append {l : Addr} {xs : List Int} {x : Int} {t : Tok} {Q : Value → Shared → Prop} (S : St c P s) (tk : Take (li l xs) P R) (hz : xs.length ≤ 100000) (h : ∀ s', St c (li l (xs ++ [x]) :: R) s' → Q .none s') : wpAny c.M A (call (.builtin "list.append") [.ref l, .int x t]) Q E s := by
  obtain ⟨vs, hv, S1⟩ := S.openLi tk
  exact l_append S1 .head (by have := hv.1; omega) fun s' S2 => h s' (S2.head_mono fun D hD => ⟨_, hv.push x t, hD⟩)
theorem gm_appendL {a : Addr} {xs : List Int} {pl : Sem Bool} {Q : Value × List Value → Shared → Prop} (S : St c P s) (t : Take (li a xs) P R) (h : Q (.builtin "list.append", [.ref a]) s) : wpAny c.M A (getMethod (.ref a) "append" pl) Q E s := by
  obtain ⟨vs, hv, hl⟩ := (S.get (X := li a xs) t)
  obtain ⟨n, hl⟩ := hl
  exact getMethod_builtin ⟨_, hl, rfl⟩ PySem.F.plainAttrs_list PySem.F.slot_list_append PySem.F.type_list_append (fun b e => by cases e; exact ⟨_, hl, rfl⟩) h
end
def toL (n : Nat) (to : Nat → Nat) : List Int := (List.range n).map fun x => ((to x : Nat) : Int)
theorem toL_len {n : Nat} {to : Nat → Nat} : (toL n to).length = n := by simp [toL]
theorem toL_get {n x : Nat} {to : Nat → Nat} (h : x < n) : (toL n to)[x]? = some ((to x : Nat) : Int) := by
  unfold toL; rw [List.getElem?_map, List.getElem?_range h]; rfl
theorem toL_set {n x m : Nat} {to : Nat → Nat} (h : x < n) : (toL n to).set x ((m : Nat) : Int) = toL n (updM to x m) := by
  refine List.ext_getElem? fun i => ?_
  rw [List.getElem?_set, toL_len]
  by_cases e : x = i
  · subst e; rw [if_pos rfl, if_pos h, toL_get h, updM_self]
  · rw [if_neg e]
    by_cases hi : i < n
    · rw [toL_get hi, toL_get hi, updM_ne (fun q => e q.symm)]
    · rw [List.getElem?_eq_none (by rw [toL_len]; omega), List.getElem?_eq_none (by rw [toL_len]; omega)]
theorem toL_succ {n : Nat} {to : Nat → Nat} : toL (n + 1) to = toL n to ++ [((to n : Nat) : Int)] := by unfold toL; rw [List.range_succ, List.map_append]; rfl
def F511 (vs vn vx vt vu vv vk : Option Value) : List (Str × Option Value) := [("spare", vs), ("n", vn), ("x", vx), ("to", vt), ("u", vu), ("v", vv), ("k", vk)]
noncomputable abbrev env511 (L : Addr) : Env := envX d511.1.qual d511.1.scope L 511 (.ref 510) []

theorem sp_comp {c : Cx} {A : Around} {s : Shared} {P R : List HP} {L : Addr} {n : Nat} {vs vx vt vu vv vk : Option Value} {tn : Tok} {Q : Flow → Shared → Prop}
    (S : St c P s) (hh : A.handled = none) (hA : A.handled = c.hx) (hn : n ≤ 100) (tk : Takes [frm L (F511 vs (some (.int (n : Nat) tn)) vx vt vu vv vk)] P R)
    (h : ∀ s' to, St c (frm L (F511 vs (some (.int (n : Nat) tn)) vx (some (.ref to)) vu vv vk) :: li to (toL n fun x => 2 ^ x) :: R) s' → Q .next s') :
    wpAny c.M A (exec (stAt d511.1.body 0) (env511 L)) Q NoE s := by
  dsimp only [d511, stAt, List.drop]
  replace S := S.takes tk
  clear tk
  simp only [F511, List.cons_append, List.nil_append] at S
  refine Assign_ListComp_ ?_ (by rfl) (by rfl)
  wtm_at "ww"
  refine' r_iterN (n := n) S ?zz1 (by omega) ?_
  case zz1 => wtm_at "take"
  wtm_at "sitS"
  wtm_at "ww"
  refine' comp_envU (oth := [(".0", none), ("x", none)]) S (by decide) rfl ?zz2 rfl ?zz3 ?_
  case zz2 => wtm_at "oth"
  case zz3 =>
    intro s' C S' Q E q
    refine' r_self S' ?zz4 Q E q
    case zz4 => wtm_at "take"
  clear S; intro s C S
  revert it S
  intro it0 S
  have S1 := (S.take (X := lst nw []) (by wtm_at "take")).head_mono (X' := li nw (toL 0 fun x => 2 ^ x)) fun D hD => ⟨[], ⟨rfl, by simp [toL]⟩, hD⟩
  clear S
  have S := S1
  clear S1
  refine' comp_loop (Ex := fun _ _ => []) (r_walkN (it := it0) (n := n) hh) (fun i P' => ∃ (vi : Option Value), P' = frm C [(".0", none), ("x", vi)] :: li nw (toL i fun x => 2 ^ x) :: frm L [("spare", vs), ("n", some (.int (n : Nat) tn)), ("x", vx), ("to", vt), ("u", vu), ("v", vv), ("k", vk)] :: R)
    (S.cov ?zz5) ⟨none, rfl⟩ ?_ ?_ ?_
  case zz5 => wtm_at "cov"
  · intro i v P' s hv S Q hq
    exact own_name (hq _ S)
  · rintro i hi _ s w ⟨vi, rfl⟩ ⟨ti, rfl⟩ S
    simp only [List.cons_append, List.nil_append] at S
    wtm_at "ww"
    refine' li_append (xs := toL i fun x => 2 ^ x) S ?zz6 (by rw [toL_len]; omega) ?_
    case zz6 => wtm_at "take"
    clear S; intro s S
    refine ⟨_, ⟨some (.int (i : Nat) ti), rfl⟩, ?_⟩
    rw [toL_succ]
    wtm_at "fin"
  · rintro _ s ⟨vi, rfl⟩ S
    simp only [List.cons_append, List.nil_append] at S
    refine ⟨rfl, ?_⟩
    wtm_at "ww"
    refine' fr_fin (C := C) S ?zz7 ?_
    case zz7 => wtm_at "take"
    clear S; intro s S
    refine' h _ nw ?zz8
    case zz8 =>
      simp only [F511]
      wtm_at "fin"
theorem sp_spare {c : Cx} {A : Around} {s : Shared} {P R : List HP} {L sa ta : Addr} {n : Nat} {xs : List (Addr × (Nat × Nat))} {to : Nat → Nat} {vn vx vu vv vk : Option Value} {Q : Flow → Shared → Prop}
    (S : St c P s) (hh : A.handled = none) (hA : A.handled = c.hx) (hn : n ≤ 100) (hxs : ∀ x ∈ xs, x.2.1 < n ∧ x.2.2 < n) (tk : Takes [frm L (F511 (some (.ref sa)) vn vx (some (.ref ta)) vu vv vk), lst sa (xs.map fun p => .ref p.1), fam xs tR, li ta (toL n to)] P R)
    (h : ∀ s' vu vv, St c (frm L (F511 (some (.ref sa)) vn vx (some (.ref ta)) vu vv vk) :: lst sa (xs.map fun p => .ref p.1) :: fam xs tR :: li ta (toL n ((xs.map (·.2)).foldl addA to)) :: R) s' → Q .next s') :
    wpAny c.M A (exec (stAt d511.1.body 1) (env511 L)) Q NoE s := by
  dsimp only [d511, stAt, List.drop]
  replace S := S.takes tk
  clear tk
  simp only [F511, List.cons_append, List.nil_append] at S
  refine wpAny_For ?_
  wtm_at "ww"
  refine' for_rule (Ex := fun _ _ => []) (l_walk (it := it) (l := sa) (vs := xs.map fun p => Value.ref p.1) hh) (fun i P' => ∃ (vu vv : Option Value), P' = frm L [("spare", some (.ref sa)), ("n", vn), ("x", vx), ("to", some (.ref ta)), ("u", vu), ("v", vv), ("k", vk)] :: fam xs tR :: li ta (toL n (((xs.take i).map (·.2)).foldl addA to)) :: R)
    (S.cov ?zz1) ⟨vu, vv, rfl⟩ ?_ ?_ ?_
  case zz1 => wtm_at "cov"
  · intro i v P' s hv S Q hq
    refine l_own S .head ?_ (hq _ S)
    rw [List.getElem?_map] at hv
    obtain ⟨x, -, rfl⟩ := Option.map_eq_some_iff.mp hv
    exact ⟨_, rfl⟩
  · clear S vu vv h
    rintro i hi _ s w ⟨vu, vv, rfl⟩ hw S
    rw [List.length_map] at hi
    obtain ⟨x, hx⟩ : ∃ x, xs[i]? = some x := ⟨_, List.getElem?_eq_getElem hi⟩
    have hxm : x ∈ xs := List.mem_of_getElem? hx
    obtain ⟨hu, hv⟩ := hxs x hxm
    rw [List.getElem?_map, hx] at hw
    cases hw
    obtain ⟨⟨q1, q2⟩, S1⟩ := (S.take (X := tR x) (by wtm_at "take")).ofHead (f := fun p : Tok × Tok => tup x.1 [.int x.2.1 p.1, .int x.2.2 p.2]) (fun D ⟨t1, t2, h⟩ => ⟨(t1, t2), h⟩)
    clear S
    have S := S1
    clear S1
    dsimp only at S
    wtm_at "ww"
    refine' li_get (xs := toL n (((xs.take i).map (·.2)).foldl addA to)) (i := x.2.1) S ?zz2 rfl (toL_get hu) (by omega) ?_
    case zz2 => wtm_at "take"
    intro tg
    wtm_at "ww"
    refine' li_set (xs := toL n (((xs.take i).map (·.2)).foldl addA to)) (i := x.2.1) S ?zz3 rfl (by rw [toL_len]; exact hu) (by omega) ?_
    case zz3 => wtm_at "take"
    clear S; intro s S
    rw [toL_set hu] at S
    wtm_at "ww"
    have e : ((xs.take (i + 1)).map (·.2)).foldl addA to = addA (((xs.take i).map (·.2)).foldl addA to) x.2 := by
      rw [List.take_add_one, hx]; simp [List.foldl_append]
    refine ⟨_, ⟨some (.int x.2.1 q1), some (.int x.2.2 q2), rfl⟩, ?_⟩
    rw [e]
    have S2 := ((S.take (X := tup x.1 [.int x.2.1 q1, .int x.2.2 q2]) (by wtm_at "take")).head_mono (X' := tR x) fun d h => ⟨q1, q2, h⟩).shutS (l := xs) (f := tR) (u := x) (by wtm_at "take") (by wtm_at "take") hxm
    clear S
    wtm_at "fin"
  · rintro _ s ⟨vu, vv, rfl⟩ S
    rw [List.length_map, List.take_length] at S
    simp only [List.cons_append, List.nil_append] at S
    wtm_at "ww"
    refine' h _ vu vv ?zz4
    case zz4 =>
      simp only [F511]
      wtm_at "fin"
theorem sp_in {c : Cx} {A : Around} {s : Shared} {P R : List HP} {L ta : Addr} {n k : Nat} {to : Nat → Nat} {tn t8 : Tok} {vs vx vu vv : Option Value} {Q : Flow → Shared → Prop}
    (S : St c P s) (hh : A.handled = none) (hA : A.handled = c.hx) (hn : n ≤ 100) (hk : k < n) (tk : Takes [frm L (F511 vs (some (.int (n : Nat) tn)) vx (some (.ref ta)) vu vv (some (.int (k : Nat) t8))), li ta (toL n to)] P R)
    (h : ∀ s' vx, St c (frm L (F511 vs (some (.int (n : Nat) tn)) vx (some (.ref ta)) vu vv (some (.int (k : Nat) t8))) :: li ta (toL n (rndI k to n)) :: R) s' → Q .next s') :
    wpAny c.M A (exec (stAt (bodyOf (stAt d511.1.body 2)) 0) (env511 L)) Q NoE s := by
  dsimp only [d511, stAt, bodyOf, List.drop]
  replace S := S.takes tk
  clear tk
  simp only [F511, List.cons_append, List.nil_append] at S
  refine wpAny_For ?_
  wtm_at "ww"
  refine' r_iterN (n := n) S ?zz0 (by omega) ?_
  case zz0 => wtm_at "take"
  wtm_at "sitS"
  refine' for_rule (Ex := fun _ _ => []) (r_walkN (it := it) (n := n) hh) (fun i P' => ∃ (vx : Option Value), P' = frm L [("spare", vs), ("n", some (.int (n : Nat) tn)), ("x", vx), ("to", some (.ref ta)), ("u", vu), ("v", vv), ("k", some (.int (k : Nat) t8))] :: li ta (toL n (rndI k to i)) :: R)
    (S.cov ?zz1) ⟨vx, rfl⟩ ?_ ?_ ?_
  case zz1 => wtm_at "cov"
  · intro i v P' s hv S Q hq
    exact own_name (hq _ S)
  · clear S vx h
    rintro i hi _ s w ⟨vx, rfl⟩ ⟨ti, rfl⟩ S
    simp only [List.cons_append, List.nil_append] at S
    wtm_at "ww"
    refine' li_sub (xs := toL n (rndI k to i)) (i := i) S ?zz2 rfl (toL_get hi) (by omega) ?_
    case zz2 => wtm_at "take"
    intro tg
    wtm_at "ww"
    rw [bit1]
    have e : rndI k to (i + 1) = if (rndI k to i i).testBit k then updM (rndI k to i) i (rndI k to i i ||| rndI k to i k) else rndI k to i := rfl
    by_cases hb : (rndI k to i i).testBit k = true
    · rw [if_pos hb]
      rw [if_pos hb] at e
      wtm_at "ww"
      refine' li_get (xs := toL n (rndI k to i)) (i := i) S ?zz3 rfl (toL_get hi) (by omega) ?_
      case zz3 => wtm_at "take"
      intro tg2
      wtm_at "ww"
      refine' li_sub (xs := toL n (rndI k to i)) (i := k) S ?zz4 rfl (toL_get hk) (by omega) ?_
      case zz4 => wtm_at "take"
      intro tg3
      wtm_at "ww"
      refine' li_set (xs := toL n (rndI k to i)) (i := i) S ?zz5 rfl (by rw [toL_len]; exact hi) (by omega) ?_
      case zz5 => wtm_at "take"
      clear S; intro s S
      rw [toL_set hi, ← e] at S
      wtm_at "ww"
      refine ⟨_, ⟨some (.int (i : Nat) ti), rfl⟩, ?_⟩
      wtm_at "fin"
    · rw [if_neg hb]
      rw [if_neg hb] at e
      rw [← e] at S
      wtm_at "ww"
      refine ⟨_, ⟨some (.int (i : Nat) ti), rfl⟩, ?_⟩
      wtm_at "fin"
  · rintro _ s ⟨vx, rfl⟩ S
    simp only [List.cons_append, List.nil_append] at S
    wtm_at "ww"
    refine' h _ vx ?zz6
    case zz6 =>
      simp only [F511]
      wtm_at "fin"
theorem sp_out {c : Cx} {A : Around} {s : Shared} {P R : List HP} {L ta : Addr} {n : Nat} {to : Nat → Nat} {tn : Tok} {vs vx vu vv vk : Option Value} {Q : Flow → Shared → Prop}
    (S : St c P s) (hh : A.handled = none) (hA : A.handled = c.hx) (hn : n ≤ 100) (tk : Takes [frm L (F511 vs (some (.int (n : Nat) tn)) vx (some (.ref ta)) vu vv vk), li ta (toL n to)] P R)
    (h : ∀ s' vx vk, St c (frm L (F511 vs (some (.int (n : Nat) tn)) vx (some (.ref ta)) vu vv vk) :: li ta (toL n (rnd n to n)) :: R) s' → Q .next s') :
    wpAny c.M A (exec (stAt d511.1.body 2) (env511 L)) Q NoE s := by
  have inn := @sp_in
  dsimp only [d511, stAt, bodyOf, List.drop] at inn ⊢
  replace S := S.takes tk
  clear tk
  simp only [F511, List.cons_append, List.nil_append] at S inn
  refine wpAny_For ?_
  wtm_at "ww"
  refine' r_iterN (n := n) S ?zz0 (by omega) ?_
  case zz0 => wtm_at "take"
  wtm_at "sitS"
  refine' for_rule (Ex := fun _ _ => []) (r_walkN (it := it) (n := n) hh) (fun i P' => ∃ (vx vk : Option Value), P' = frm L [("spare", vs), ("n", some (.int (n : Nat) tn)), ("x", vx), ("to", some (.ref ta)), ("u", vu), ("v", vv), ("k", vk)] :: li ta (toL n (rnd n to i)) :: R)
    (S.cov ?zz1) ⟨vx, vk, rfl⟩ ?_ ?_ ?_
  case zz1 => wtm_at "cov"
  · intro i v P' s hv S Q hq
    exact own_name (hq _ S)
  · clear S vx vk h
    rintro i hi _ s w ⟨vx, vk, rfl⟩ ⟨ti, rfl⟩ S
    simp only [List.cons_append, List.nil_append] at S
    wtm_at "ww"
    refine' inn (n := n) (k := i) (to := rnd n to i) (t8 := ti) (tn := tn) S hh hA hn hi ?zz2 ?_
    case zz2 => wtm_at "takes"
    clear S
    intro s vx S
    wtm_at "ww"
    refine ⟨_, ⟨vx, some (.int (i : Nat) ti), rfl⟩, ?_⟩
    rw [show rndI i (rnd n to i) n = rnd n to (i + 1) from rfl] at S
    wtm_at "fin"
  · rintro _ s ⟨vx, vk, rfl⟩ S
    simp only [List.cons_append, List.nil_append] at S
    wtm_at "ww"
    refine' h _ vx vk ?zz6
    case zz6 =>
      simp only [F511]
      wtm_at "fin"
theorem law_spread {c : Cx} {A : Around} {s : Shared} {P R : List HP} {k : Nat} {sa : Addr} {n : Nat} {xs : List (Addr × (Nat × Nat))} {tn : Tok} {Rr : Result → Shared → Prop}
    (S : St c P s) (rm : Rm A (k + 1)) (hA : A.handled = c.hx) (hx : c.hx = none) (hn : n ≤ 100) (hxs : ∀ x ∈ xs, x.2.1 < n ∧ x.2.2 < n) (tk : Takes [lst sa (xs.map fun p => .ref p.1), fam xs tR] P R)
    (h : ∀ s' ta, St c (lst sa (xs.map fun p => .ref p.1) :: fam xs tR :: li ta (toL n (spread n (xs.map (·.2)))) :: R) s' → Rr (.ok (.ret (.ref ta))) s') :
    codeAny c.M A (.call (.ref 511) ⟨[.ref sa, .int (n : Nat) tn], []⟩) Rr s := by
  replace S := S.takes tk
  clear tk
  refine' call_K (binds := [("spare", .ref sa), ("n", .int (n : Nat) tn)]) S rm (by exact rfl) (by rfl) (BindsTo.of_eq rfl) (locs rfl) ?oth ?nd ?_
  wtm_at "enter"
  have hh := hA.trans hx
  refine wpAny_execs_cons ?_
  refine' sp_comp (L := L) (n := n) (tn := tn) (vs := some (.ref sa)) (vx := none) (vt := none) (vu := none) (vv := none) (vk := none) S hh hA hn ?zz1 ?_
  case zz1 => simp only [F511]; wtm_at "takes"
  clear S
  intro s ta S
  dsimp only
  refine wpAny_execs_cons ?_
  refine' sp_spare (L := L) (n := n) (sa := sa) (ta := ta) (xs := xs) (to := fun x => 2 ^ x) (vn := some (.int (n : Nat) tn)) (vx := none) (vu := none) (vv := none) (vk := none) S hh hA hn hxs ?zz2 ?_
  case zz2 => wtm_at "takes"
  clear S
  intro s vu vv S
  dsimp only
  refine wpAny_execs_cons ?_
  refine' sp_out (L := L) (n := n) (ta := ta) (tn := tn) (to := (xs.map (·.2)).foldl addA fun x => 2 ^ x) (vs := some (.ref sa)) (vx := none) (vu := vu) (vv := vv) (vk := none) S hh hA hn ?zz3 ?_
  case zz3 => wtm_at "takes"
  clear S
  intro s vx vk S
  simp only [F511] at S
  dsimp only
  wtm_at "ww"
  refine' h _ ta ?zz4
  case zz4 => wtm_at "fin"

/-! the list of the cuts -/
theorem bit0 {m k : Nat} : ((((m >>> k) % 2 : Nat) : Int) == 0) = !m.testBit k := by
  rw [Nat.testBit_eq_decide_div_mod_eq, Nat.shiftRight_eq_div_pow, Bool.eq_iff_iff, beq_iff_eq, Bool.not_eq_true', decide_eq_false_iff_not]
  omega
section
variable {c : Cx} {A : Around} {E : Value → Shared → Prop} {s : Shared} {P R R1 R2 R3 : List HP} {d a : Addr} {xs : List (Addr × (Nat × Nat))} {cap : Nat × Nat → Int} {ep k u v : Nat} {t1 t2 : Tok}
theorem dTa_of (S : St c P s) (ta : Take (dTa c d xs cap ep) P R1) (tb : Take (fam xs tR) P R2) : ∃ tg : Nat × Nat → Tok, s.heap.DictOfH (tupleKind (intKind Pg c.w)) d (xs.map (tE cap tg)) ∧ (xs.map (·.2)).Nodup := by
  obtain ⟨o, es, tg, h1, h2, h3, h4, h5⟩ := S.get ta
  refine ⟨tg, ⟨o, es, ep, h1, h2, h3, h4, fun x hx => ?_, tE_nodup h5⟩, h5⟩
  obtain ⟨y, hy, rfl⟩ := List.mem_map.mp hx
  exact tR_key ((S.take tb).get (X := tR y) (Take.famAt hy))
theorem t_subA {j : Nat} {value slice : Expr} {Q : Value → Shared → Prop} (S : St c P s) (rm : Rm A (j + 1)) (ta : Take (dTa c d xs cap ep) P R1) (tb : Take (fam xs tR) P R2) (tk : Take (tup a [.int u t1, .int v t2]) P R3) (he : (u, v) ∈ xs.map (·.2)) (hq : ∀ s' t, St c P s' → Q (.int (cap (u, v)) t) s')
    (hs : subscripted slice false (.ref d) (.ref a) = operate [.ref d, .ref a] (getItem (.ref d) (.ref a)) := by with_unfolding_all rfl) : wpAny c.M A (subscriptTail value slice (.ref d) (.ref a)) Q E s := by
  obtain ⟨tg, hD, hn⟩ := dTa_of S ta tb
  obtain ⟨x, hx, e⟩ := List.mem_map.mp he
  have ha := atKey_tE (cap := cap) (tg := tg) hn hx
  rw [e] at ha
  exact tail_any hD.typeIs slot_dict_getitem.lookup (wpAny_getItem_heap (tupleKind_room_in1 rm.units1) (tup_key (S.get tk)) hD ha (hq _ _ S.tok)) hs
theorem dT_nd {D : PH} (h : dT c d xs cap D) : (xs.map (·.2)).Nodup := let ⟨_, _, _, _, _, _, _, _, h⟩ := h; h
end
def F506 (vn vs vt vc : Option Value) : List (Str × Option Value) := [("n", vn), ("s", vs), ("t", vt), ("cuts", vc)]
noncomputable abbrev env506 (L : Addr) : Env := envX d506.1.qual d506.1.scope L 506 (.ref 505) [("side", L + 2), ("laid", L + 1)]
def laidR (c : Cx) (d : Addr) (xs : List (Addr × (Nat × Nat))) (cap : Nat × Nat → Int) : List HP := [dT c d xs cap, fam xs tR]
theorem cuts_loop {c : Cx} {A : Around} {s : Shared} {P R : List HP} {k : Nat} {L d ca : Addr} {n s0 t0 : Nat} {xs : List (Addr × (Nat × Nat))} {cap : Nat × Nat → Int} {tn ts tt : Tok} {Q : Flow → Shared → Prop}
    (S : St c P s) (rm : Rm A (k + 4)) (hh : A.handled = none) (hA : A.handled = c.hx) (hn : n ≤ 10) (hxs : xs.length ≤ 100)
    (tk : Takes [frm L (F506 (some (.int (n : Nat) tn)) (some (.int (s0 : Nat) ts)) (some (.int (t0 : Nat) tt)) (some (.ref ca))), lst ca [], cel (L + 2) none, cel (L + 1) (some (.ref d)), dT c d xs cap, fam xs tR] P R)
    (h : ∀ s' (cs : List (Addr × (Int × Int))) vside, cs.map (·.2) = (sidesOf n s0 t0).map (fun m => (totS (xs.map fun e => e.2) cap m, (m : Int))) → St c (frm L (F506 (some (.int (n : Nat) tn)) (some (.int (s0 : Nat) ts)) (some (.int (t0 : Nat) tt)) (some (.ref ca))) :: lst ca (cs.map fun p => .ref p.1) :: fam cs tp2 :: cel (L + 2) vside :: cel (L + 1) (some (.ref d)) :: dT c d xs cap :: fam xs tR :: R) s' → Q .next s') :
    wpAny c.M A (exec (stAt d506.1.body 1) (env506 L)) Q NoE s := by
  dsimp only [d506, stAt, List.drop]
  replace S := S.takes tk
  clear tk
  simp only [F506, List.cons_append, List.nil_append] at S
  have h2n : 2 ^ n ≤ 1000000 := Nat.le_trans (Nat.pow_le_pow_right (by decide) hn) (by decide)
  refine wpAny_For ?_
  wtm_at "ww"
  refine' r_iterN (n := 2 ^ n) S ?zz0 h2n ?_
  case zz0 => wtm_at "take"
  wtm_at "sitS"
  replace S := S.emp tp2
  refine' for_rule (Ex := fun _ _ => []) (r_walkN (it := it) (n := 2 ^ n) hh) (fun i P' => ∃ (cs : List (Addr × (Int × Int))) (vside : Option Value), cs.map (·.2) = ((List.range i).filter fun m => crs m (s0, t0)).map (fun m => (totS (xs.map fun e => e.2) cap m, (m : Int))) ∧ P' = frm L [("n", some (.int (n : Nat) tn)), ("s", some (.int (s0 : Nat) ts)), ("t", some (.int (t0 : Nat) tt)), ("cuts", some (.ref ca))] :: lst ca (cs.map fun p => .ref p.1) :: fam cs tp2 :: cel (L + 2) vside :: cel (L + 1) (some (.ref d)) :: dT c d xs cap :: fam xs tR :: R)
    (S.cov ?zz1) ⟨[], none, rfl, rfl⟩ ?_ ?_ ?_
  case zz1 =>
    simp only [List.map_nil]
    wtm_at "cov"
  · intro i v P' s hv S Q hq
    exact own_name (hq _ S)
  · clear S h
    rintro m hm _ s w ⟨cs, vside, hcs, rfl⟩ ⟨ti, rfl⟩ S
    simp only [List.cons_append, List.nil_append] at S
    wtm_at "ww"
    have hsk : ∀ {P2 : List HP}, ¬ crs m (s0, t0) = true → (∃ (cs : List (Addr × (Int × Int))) (vside : Option Value), cs.map (·.2) = ((List.range m).filter fun m => crs m (s0, t0)).map (fun m => (totS (xs.map fun e => e.2) cap m, (m : Int))) ∧ P2 = frm L [("n", some (.int (n : Nat) tn)), ("s", some (.int (s0 : Nat) ts)), ("t", some (.int (t0 : Nat) tt)), ("cuts", some (.ref ca))] :: lst ca (cs.map fun p => .ref p.1) :: fam cs tp2 :: cel (L + 2) vside :: cel (L + 1) (some (.ref d)) :: dT c d xs cap :: fam xs tR :: R) →
        (∃ (cs : List (Addr × (Int × Int))) (vside : Option Value), cs.map (·.2) = ((List.range (m + 1)).filter fun m => crs m (s0, t0)).map (fun m => (totS (xs.map fun e => e.2) cap m, (m : Int))) ∧ P2 = frm L [("n", some (.int (n : Nat) tn)), ("s", some (.int (s0 : Nat) ts)), ("t", some (.int (t0 : Nat) tt)), ("cuts", some (.ref ca))] :: lst ca (cs.map fun p => .ref p.1) :: fam cs tp2 :: cel (L + 2) vside :: cel (L + 1) (some (.ref d)) :: dT c d xs cap :: fam xs tR :: R) := by
      intro P2 hc hP
      have e : ((List.range (m + 1)).filter fun m => crs m (s0, t0)) = (List.range m).filter fun m => crs m (s0, t0) := by
        rw [List.range_succ, List.filter_append]; simp [hc]
      rw [e]; exact hP
    rw [bit1]
    by_cases h1 : m.testBit s0 = true
    · rw [if_pos h1]
      wtm_at "ww"
      rw [bit0]
      by_cases h2 : m.testBit t0 = true
      · rw [if_neg (by simp [h2])]
        wtm_at "ww"
        refine ⟨_, hsk (by simp [crs, h2]) ⟨cs, some (.int (m : Nat) ti), hcs, rfl⟩, ?_⟩
        wtm_at "fin"
      · rw [if_pos (by simp [h2])]
        wtm_at "ww"
        have hcr : crs m (s0, t0) = true := by simp at h2; simp [crs, h1, h2]
        have hnd := dT_nd (S.get (X := dT c d xs cap) (by wtm_at "take"))
        refine ListComp_ ?_ (by rfl)
        wtm_at "ww"
        refine' iter_t S ?zz2 ?_
        case zz2 => wtm_at "take"
        clear S; intro s it2 ep S
        simp only [List.cons_append, List.nil_append] at S
        wtm_at "ww"
        refine' comp_env (oth := [(".0", none), ("u", none), ("v", none)]) S (by decide) rfl ?zz3 rfl ?zz4 ?_
        case zz3 => wtm_at "oth"
        case zz4 =>
          intro s' C S' Q E q
          refine wpAny_pyIter_keyiter (i := 0) (d := d) (n := xs.length) (ep := ep) ?_ q
          obtain ⟨o, g1, g2, g3⟩ := (S'.get (X := kIt it2 d 0 xs.length ep) (by wtm_at "take"))
          exact ⟨o, g1, g2, g3⟩
        clear S; intro s C S
        have S1 := (S.take (X := lst nw []) (by wtm_at "take")).head_mono (X' := li nw []) fun D hD => ⟨[], ⟨rfl, by simp⟩, hD⟩
        clear S
        have S := S1
        clear S1
        refine' comp_loop (Ex := fun _ _ => []) (t_iter (it := it2) (d := d) (xs := xs) (cap := cap) (ep := ep) hh) (fun i P' => ∃ (vu vv : Option Value), P' = frm C [(".0", none), ("u", vu), ("v", vv)] :: li nw ((((xs.take i).map (·.2)).filter (crs m)).map cap) :: fam xs tR :: cel (L + 2) (some (.int (m : Nat) ti)) :: cel (L + 1) (some (.ref d)) :: rIt it (((m + 1 : Nat)) : Int) (((2 ^ n : Nat) : Int) - (m + 1 : Nat)) 1 :: frm L [("n", some (.int (n : Nat) tn)), ("s", some (.int (s0 : Nat) ts)), ("t", some (.int (t0 : Nat) tt)), ("cuts", some (.ref ca))] :: lst ca (cs.map fun p => .ref p.1) :: fam cs tp2 :: R)
          (S.cov ?zz5) ⟨none, none, rfl⟩ ?_ ?_ ?_
        case zz5 =>
          simp only [List.take_zero, List.map_nil, List.filter_nil]
          wtm_at "cov"
        · intro i v P' s hv S Q hq
          obtain ⟨x, -, rfl⟩ := hv
          exact k_own S .head (hq _ S)
        · clear S
          rintro i hi _ s w ⟨vu, vv, rfl⟩ ⟨x, hx, rfl⟩ S
          simp only [List.cons_append, List.nil_append] at S
          have hxm : x ∈ xs := List.mem_of_getElem? hx
          have hel : (x.2.1, x.2.2) ∈ xs.map (·.2) := List.mem_map.mpr ⟨x, hxm, rfl⟩
          obtain ⟨⟨q1, q2⟩, S1⟩ := (S.take (X := tR x) (by wtm_at "take")).ofHead (f := fun p : Tok × Tok => tup x.1 [.int x.2.1 p.1, .int x.2.2 p.2]) (fun D ⟨t1, t2, h⟩ => ⟨(t1, t2), h⟩)
          clear S
          have S := S1
          clear S1
          dsimp only at S
          wtm_at "ww"
          have S2 := ((S.take (X := tup x.1 [.int x.2.1 q1, .int x.2.2 q2]) (by wtm_at "take")).head_mono (X' := tR x) fun d h => ⟨q1, q2, h⟩).shutS (l := xs) (f := tR) (u := x) (by wtm_at "take") (by wtm_at "take") hxm
          clear S
          have S := S2
          clear S2
          have htk : ((xs.take (i + 1)).map (·.2)).filter (crs m) = ((xs.take i).map (·.2)).filter (crs m) ++ if crs m x.2 then [x.2] else [] := by
            rw [List.take_add_one, hx]; simp [List.filter_append, List.filter_cons]
          have hskip : ¬ crs m x.2 = true → ((((xs.take (i + 1)).map (·.2)).filter (crs m)).map cap) = ((((xs.take i).map (·.2)).filter (crs m)).map cap) := fun q => by rw [htk, if_neg q, List.append_nil]
          rw [bit1]
          by_cases g1 : m.testBit x.2.1 = true
          · rw [if_pos g1]
            wtm_at "ww"
            rw [bit0]
            by_cases g2 : m.testBit x.2.2 = true
            · rw [if_neg (by simp [g2])]
              wtm_at "ww"
              refine ⟨_, ⟨some (.int x.2.1 q1), some (.int x.2.2 q2), rfl⟩, ?_⟩
              rw [hskip (by simp [crs, g2])]
              wtm_at "fin"
            · rw [if_pos (by simp [g2])]
              have hx2 : crs m x.2 = true := by simp at g2; simp [crs, g1, g2]
              wtm_at "ww"
              refine' t_subA (j := k) (xs := xs) (cap := cap) (ep := ep) S (rm.le (by omega)) ?za1 ?za2 ?za3 hel ?_
              case za1 => wtm_at "take"
              case za2 => wtm_at "take"
              case za3 => wtm_at "take"
              clear S; intro s tq S
              refine' li_append (xs := (((xs.take i).map (·.2)).filter (crs m)).map cap) S ?za4 ?za5 ?_
              case za4 => wtm_at "take"
              case za5 =>
                rw [List.length_map]
                refine Nat.le_trans (List.length_filter_le _ _) ?_
                rw [List.length_map, List.length_take]; omega
              clear S; intro s S
              refine ⟨_, ⟨some (.int x.2.1 q1), some (.int x.2.2 q2), rfl⟩, ?_⟩
              rw [htk, if_pos hx2, List.map_append, List.map_cons, List.map_nil]
              wtm_at "fin"
          · rw [if_neg g1]
            wtm_at "ww"
            refine ⟨_, ⟨some (.int x.2.1 q1), some (.int x.2.2 q2), rfl⟩, ?_⟩
            rw [hskip (by simp [crs, g1])]
            wtm_at "fin"
        · rintro _ s ⟨vu, vv, rfl⟩ S
          rw [List.take_length] at S
          simp only [List.cons_append, List.nil_append] at S
          refine ⟨rfl, ?_⟩
          refine ⟨_, _, _, S, by wtm_at "take", fun s S => ?_⟩
          wtm_at "ww"
          refine' call_app0 (li_sum (xs := (((xs.map (·.2)).filter (crs m)).map cap)) S hh ?zb1 ?_)
          case zb1 => wtm_at "take"
          clear S; intro s tsum S
          have hcl : cs.length ≤ 1000000 := by
            have e1 : cs.length = (cs.map (·.2)).length := by rw [List.length_map]
            rw [e1, hcs, List.length_map]
            refine Nat.le_trans (List.length_filter_le _ _) ?_
            rw [List.length_range]; omega
          wtm_at "ww"
          dsimp only
          have htot : (((xs.map fun e => e.2).filter (crs m)).map cap).sum = totS (xs.map fun e => e.2) cap m := rfl
          rw [htot] at S
          have S4 := ((S.take (X := tup nw [.int (totS (xs.map fun e => e.2) cap m) tsum, .int (m : Nat) ti]) (by wtm_at "take")).head_mono (X' := tp2 (nw, (totS (xs.map fun e => e.2) cap m, (m : Int)))) fun d h => ⟨tsum, ti, h⟩).growE (l := cs) (u := (nw, (totS (xs.map fun e => e.2) cap m, (m : Int)))) (f := tp2) (X := tp2 (nw, (totS (xs.map fun e => e.2) cap m, (m : Int)))) (by wtm_at "take") (by wtm_at "take") tp2 rfl (fun _ _ => rfl)
          clear S
          refine ⟨_, ⟨cs ++ [(nw, (totS (xs.map fun e => e.2) cap m, (m : Int)))], some (.int (m : Nat) ti), ?_, rfl⟩, ?_⟩
          · rw [List.map_append, hcs, List.range_succ, List.filter_append, List.map_append]
            simp [hcr]
          · rw [List.map_append, List.map_cons, List.map_nil]
            wtm_at "fin"
    · rw [if_neg h1]
      wtm_at "ww"
      refine ⟨_, hsk (by simp [crs, h1]) ⟨cs, some (.int (m : Nat) ti), hcs, rfl⟩, ?_⟩
      wtm_at "fin"
  · rintro _ s ⟨cs, vside, hcs, rfl⟩ S
    simp only [List.cons_append, List.nil_append] at S
    wtm_at "ww"
    refine' h _ cs vside hcs ?zz9
    case zz9 =>
      simp only [F506]
      wtm_at "fin"
theorem law_cuts {c : Cx} {A : Around} {s : Shared} {P R : List HP} {k : Nat} {d : Addr} {n s0 t0 : Nat} {xs : List (Addr × (Nat × Nat))} {cap : Nat × Nat → Int} {tn ts tt : Tok} {Rr : Result → Shared → Prop}
    (S : St c P s) (rm : Rm A (k + 5)) (hA : A.handled = c.hx) (hx : c.hx = none) (hn : n ≤ 10) (hxs : xs.length ≤ 100) (tk : Takes [dT c d xs cap, fam xs tR] P R)
    (h : ∀ s' ca (cs : List (Addr × (Int × Int))), cs.map (·.2) = (sidesOf n s0 t0).map (fun m => (totS (xs.map fun e => e.2) cap m, (m : Int))) → St c (lst ca (cs.map fun p => .ref p.1) :: fam cs tp2 :: dT c d xs cap :: fam xs tR :: R) s' → Rr (.ok (.ret (.ref ca))) s') :
    codeAny c.M A (.call (.ref 506) ⟨[.ref d, .int (n : Nat) tn, .int (s0 : Nat) ts, .int (t0 : Nat) tt], []⟩) Rr s := by
  replace S := S.takes tk
  clear tk
  refine' call_C (binds := [("laid", .ref d), ("n", .int (n : Nat) tn), ("s", .int (s0 : Nat) ts), ("t", .int (t0 : Nat) tt)]) (lb := [("n", .int (n : Nat) tn), ("s", .int (s0 : Nat) ts), ("t", .int (t0 : Nat) tt)]) (cb := [("laid", .ref d)]) (cl := fun L => [("side", L + 2), ("laid", L + 1)]) (cv := fun L => [(L + 2, none), (L + 1, some (.ref d))]) S rm (by exact rfl) (by rfl) (BindsTo.of_eq rfl) rfl rfl (fun _ => rfl) (fun _ => rfl) ?hk (fun _ => rfl) rfl ?oth ?nd ?_
  wtm_at "centerC"
  have hh := hA.trans hx
  wtm_at "ww"
  refine' cuts_loop (k := k) (L := L) (n := n) (s0 := s0) (t0 := t0) (tn := tn) (ts := ts) (tt := tt) (d := d) (ca := nw) (xs := xs) (cap := cap) S rm hh hA hn hxs ?zz1 ?_
  case zz1 => simp only [F506]; wtm_at "takes"
  clear S
  intro s cs vside hcs S
  simp only [F506] at S
  dsimp only
  wtm_at "ww"
  refine' h _ nw cs hcs ?zz4
  case zz4 => wtm_at "fin"

/-! the law's frame -/
structure Lo where
  (script rows head n narrow s t G laid k c R told room net spare amount passed cuts sides to crossed x y z : Option Value)
def F516 (l : Lo) : List (Str × Option Value) := [("script", l.script), ("rows", l.rows), ("head", l.head), ("n", l.n), ("narrow", l.narrow), ("s", l.s), ("t", l.t), ("G", l.G), ("laid", l.laid), ("k", l.k), ("c", l.c), ("R", l.R), ("told", l.told), ("room", l.room), ("net", l.net), ("spare", l.spare), ("amount", l.amount), ("passed", l.passed), ("cuts", l.cuts), ("sides", l.sides), ("to", l.to), ("crossed", l.crossed), ("x", l.x), ("y", l.y), ("z", l.z)]
noncomputable abbrev env516 (L : Addr) : Env := envX d516.1.qual d516.1.scope L 516 (.ref 515) [("least", L + 3), ("v", L + 2), ("u", L + 1)]
def zL (n : Nat) (g : Nat → Int) : List Int := (List.range n).map g
theorem zL_len {n : Nat} {g : Nat → Int} : (zL n g).length = n := by simp [zL]
theorem zL_get {n x : Nat} {g : Nat → Int} (h : x < n) : (zL n g)[x]? = some (g x) := by
  unfold zL; rw [List.getElem?_map, List.getElem?_range h]; rfl
def updZ (g : Nat → Int) (x : Nat) (m : Int) : Nat → Int := fun i => if i = x then m else g i
theorem zL_set {n x : Nat} {m : Int} {g : Nat → Int} : (zL n g).set x m = zL n (updZ g x m) := by
  refine List.ext_getElem? fun i => ?_
  rw [List.getElem?_set, zL_len]
  by_cases hi : i < n
  · by_cases e : x = i
    · subst e; rw [if_pos rfl, if_pos hi, zL_get hi]; simp [updZ]
    · rw [if_neg e, zL_get hi, zL_get hi]; have q : ¬ i = x := fun q => e q.symm
      simp [updZ, q]
  · rw [List.getElem?_eq_none (l := zL n (updZ g x m)) (by rw [zL_len]; omega)]
    split
    · rename_i e; rw [if_neg (by omega)]
    · rw [List.getElem?_eq_none (by rw [zL_len]; omega)]
theorem zL_rep {n : Nat} : List.replicate n (0 : Int) = zL n fun _ => 0 := by
  unfold zL; rw [List.map_const', List.length_range]
theorem dT_congr {c : Cx} {d : Addr} {xs : List (Addr × (Nat × Nat))} {cap cap' : Nat × Nat → Int} {D : PH} (h : dT c d xs cap D) (e : ∀ x ∈ xs.map (·.2), cap x = cap' x) : dT c d xs cap' D := by
  obtain ⟨ep, o, es, tg, h1, h2, h3, h4, h5⟩ := h
  refine ⟨ep, o, es, tg, h1, h2, h3, ?_, h5⟩
  rw [h4]
  congr 1
  refine List.map_congr_left fun x hx => ?_
  unfold tE
  rw [e x.2 (List.mem_map.mpr ⟨x, hx, rfl⟩)]
/-- what is laid, and the graph -/
structure LInv (n : Nat) (V : GV) (el : List (Nat × Nat)) (cap : Nat × Nat → Int) : Prop where
  ok : V.Ok
  hn : V.n = n
  na : ∀ u < V.n, (V.nattr u).length ≤ 100
  mem : ∀ e, e ∈ el ↔ e ∈ V.el ∧ e.1 ≠ e.2
  at_ : ∀ e ∈ V.el, ∃ t : Tok, V.eattr e = [(Str.ofString "capacity", Value.int (cap e) t)] ∧ 1 ≤ cap e
  nd : el.Nodup
theorem insP_mem {el : List (Nat × Nat)} {e i : Nat × Nat} : i ∈ insP el e ↔ i ∈ el ∨ i = e := by
  unfold insP; split
  · constructor
    · exact .inl
    · rintro (h | rfl)
      · exact h
      · assumption
  · simp
theorem insP_nodup {el : List (Nat × Nat)} {e : Nat × Nat} (h : el.Nodup) : (insP el e).Nodup := by
  unfold insP; split
  · exact h
  · rename_i q
    rw [List.nodup_append]
    refine ⟨h, by simp, fun a ha b hb z => ?_⟩
    simp at hb; subst hb; subst z; exact q ha
theorem put_el {V : GV} {e : Nat × Nat} {w : Value} : (V.put e w).el = insP V.el e := rfl
theorem LInv.put {n : Nat} {V : GV} {el : List (Nat × Nat)} {cap : Nat × Nat → Int} {u v : Nat} {w : Int} {t : Tok} (I : LInv n V el cap) (hu : u < n) (hv : v < n) (hw : 1 ≤ w) (hl : V.el.length < 1000) :
    LInv n (V.put (u, v) (.int w t)) (if u = v then el else insP el (u, v)) (updE cap (u, v) w) := by
  refine ⟨GV.put_ok I.ok (by rw [I.hn]; exact hu) (by rw [I.hn]; exact hv) hl, I.hn, I.na, fun e => ?_, fun e he => ?_, ?_⟩
  · rw [put_el, insP_mem]
    split
    · rename_i q; subst q
      rw [I.mem]
      constructor
      · rintro ⟨a, b⟩; exact ⟨.inl a, b⟩
      · rintro ⟨a | rfl, b⟩
        · exact ⟨a, b⟩
        · exact absurd rfl b
    · rename_i q
      rw [insP_mem, I.mem]
      constructor
      · rintro (⟨a, b⟩ | rfl)
        · exact ⟨.inl a, b⟩
        · exact ⟨.inr rfl, q⟩
      · rintro ⟨a | rfl, b⟩
        · exact .inl ⟨a, b⟩
        · exact .inr rfl
  · rw [put_el, insP_mem] at he
    by_cases q : e = (u, v)
    · subst q
      refine ⟨t, ?_, by rw [updE_self]; exact hw⟩
      rw [updE_self]
      by_cases hin : (u, v) ∈ V.el
      · obtain ⟨t0, h0, _⟩ := I.at_ _ hin
        simp only [GV.put, if_pos hin, if_true, h0]
        rfl
      · simp only [GV.put, if_neg hin, if_true]
    · obtain ⟨t0, h0, h1⟩ := I.at_ e (he.resolve_right q)
      refine ⟨t0, ?_, by rw [updE_ne q]; exact h1⟩
      rw [updE_ne q]
      simp only [GV.put, if_neg q, h0]
  · split
    · exact I.nd
    · exact insP_nodup I.nd
theorem LInv.out {n : Nat} {V : GV} {el : List (Nat × Nat)} {cap : Nat × Nat → Int} {e : Nat × Nat} (I : LInv n V el cap) : LInv n (V.out e) (el.filter fun i => decide (i ≠ e)) cap := by
  refine ⟨⟨I.ok.nd.filter _, fun i hi => I.ok.lt i (List.mem_filter.mp hi).1, I.ok.small, Nat.le_trans (List.length_filter_le _ _) I.ok.few⟩, I.hn, I.na, fun i => ?_, fun i hi => I.at_ i (List.mem_filter.mp hi).1, I.nd.filter _⟩
  show _ ↔ i ∈ outE V.el e ∧ _
  unfold outE
  rw [List.mem_filter, List.mem_filter, I.mem]
  constructor
  · rintro ⟨⟨a, b⟩, d⟩; exact ⟨⟨a, d⟩, b⟩
  · rintro ⟨⟨a, d⟩, b⟩; exact ⟨⟨a, b⟩, d⟩
theorem LInv.lt {n : Nat} {V : GV} {el : List (Nat × Nat)} {cap : Nat × Nat → Int} (I : LInv n V el cap) {e : Nat × Nat} (h : e ∈ el) : e.1 < n ∧ e.2 < n := by
  have := I.ok.lt e ((I.mem e).mp h).1
  rw [I.hn] at this; exact this
theorem LInv.pos {n : Nat} {V : GV} {el : List (Nat × Nat)} {cap : Nat × Nat → Int} (I : LInv n V el cap) {e : Nat × Nat} (h : e ∈ el) : 1 ≤ cap e := (I.at_ e ((I.mem e).mp h).1).elim fun _ q => q.2
theorem LInv.ck {n : Nat} {V : GV} {el : List (Nat × Nat)} {cap : Nat × Nat → Int} (I : LInv n V el cap) : cK V cap = cL2 el cap := by
  funext x y
  unfold cK cL2
  have : ((x, y) ∈ kept V) = ((x, y) ∈ el) := propext ((kept_mem I.ok).trans (I.mem _).symm)
  simp only [this]
theorem range_source {c : Cx} {r : Addr} {n : Nat} (hn : n ≤ 1000000) : Source c (.ref r) n [rng r 0 (n : Int) 1] := by
  refine ⟨fun B P s Q rm hh S h => ?_⟩
  refine r_iterN S .head hn fun s' it S' => ?_
  have X := r_walkN (c := c) (A := B) (it := it) (n := n) hh
  refine h s' (.ref it) (fun i => [rIt it (i : Nat) ((n : Int) - (i : Nat)) 1, rng r 0 (n : Int) 1]) (fun i v => ∃ t, v = .int (i : Nat) t) (fun i _ => [rIt it ((i + 1 : Nat) : Int) ((n : Int) - (i + 1 : Nat)) 1, rng r 0 (n : Int) 1]) [rng r 0 (n : Int) 1] ⟨fun i hi P s Q E S h => ?_, fun P s Q E S h => ?_⟩ (fun _ _ h => h) (fun _ _ => rfl) (fun _ _ h => h) S'
  · exact X.next i hi (rng r 0 (n : Int) 1 :: P) s Q E S h
  · exact X.stop (rng r 0 (n : Int) 1 :: P) s Q E S h
section
variable {c : Cx} {A : Around} {E : Value → Shared → Prop} {s : Shared} {P R R1 R2 : List HP} {Q : Value → Shared → Prop}
/-- the script's head, as a new list -/
theorem script_slice {l : Addr} {ns : List Int} {k : Nat} {value : Expr} {p pos ck : Pos} {ck2 : Nat} {env : Env} (hz : ns.length ≤ 100000) (hl : ∃ vs, IntsOf vs ns ∧ c.h₀.IsList l vs.toArray)
    (h : wpAny c.M A (eval value env) (fun o s₁ => o = .ref l ∧ ∃ P1, St c P1 s₁ ∧ ∀ s' b, St c (li b (ns.take k) :: P1) s' → Q (.ref b) s') E s) (ht : ∀ o r, letTemporaryGo value o r = pure () := by intro _ _; rfl) :
    wpAny c.M A (eval (.Subscript value (.Slice none (some (.Constant (.int (k : Int)) ck2 ck)) none p) pos) env) Q E s := by
  refine wpAny_Subscript_Slice (T := "list") (id := "list.__getitem__") list_getitem_lookup (wpAny_mono h (fun o s₁ h₁ => ?_) fun _ _ x => x) ht
  obtain ⟨rfl, P1, S1, hq⟩ := h₁
  refine wpAny_Slice (wpAny_pure ?_)
  rw [evalPart_some]
  refine wpAny_Constant_int ?_
  refine wpAny_pure ?_
  have S2 : St c P1 { s₁ with toks := s₁.toks + 1 } := S1.tok
  have S3 : St c P1 { s₁ with toks := s₁.toks + 1, heap := s₁.heap.push { cls := .type "slice", data := .fields #[.none, .int (k : Int) s₁.toks, .none] } } := S2.ext (fun b o e => Heap.get?_push_of_some _ e)
  obtain ⟨vs, hv, o, ho, r⟩ := hl
  have hL : Heap.IsList (s₁.heap.push { cls := .type "slice", data := .fields #[.none, .int (k : Int) s₁.toks, .none] }) l vs.toArray := ⟨o, S3.keep _ _ (sub_uni_left _ _ _ _ ho), r⟩
  refine ⟨Heap.IsList.typeIs (s := { s₁ with toks := s₁.toks + 1, heap := s₁.heap.push { cls := .type "slice", data := .fields #[.none, .int (k : Int) s₁.toks, .none] } }) hL, wpAny_getItem_list_slice hL (Heap.IsSliceOf.new ..) .none (.int _ _) .none (by simp) ?_ (by rw [List.size_toArray, hv.1, sizeLine_eq]; omega)⟩
  rw [slicePick_upto']
  refine hq _ _ (S3.alloc rfl ⟨vs.take k, ⟨by simp [hv.1], fun i x hx => ?_⟩, ?_⟩)
  · rw [List.getElem?_take] at hx ⊢
    split at hx
    · rename_i hlt; rw [if_pos hlt]; exact hv.2 i x hx
    · cases hx
  · exact ⟨0, one_self⟩
end

/-! the law's head -/
theorem ite_int {c : Cx} {A : Around} {s : Shared} {P : List HP} {b : Bool} {t1 t2 : Sem Value} {F : Value → Shared → Prop} (_ : St c P s) (h1 : b = true → wpAny c.M A t1 (fun v s => ∃ n t, v = .int n t ∧ St c P s) NoE s) (h2 : b = false → wpAny c.M A t2 (fun v s => ∃ n t, v = .int n t ∧ St c P s) NoE s)
    (hF : ∀ n t s, St c P s → F (.int n t) s) : if b = true then wpAny c.M A t1 F NoE s else wpAny c.M A t2 F NoE s := by
  cases b with
  | true =>
    rw [if_pos rfl]
    exact wpAny_mono (h1 rfl) (fun v s ⟨n, t, e, S⟩ => by subst e; exact hF n t s S) fun _ _ x => x
  | false =>
    rw [if_neg Bool.false_ne_true]
    exact wpAny_mono (h2 rfl) (fun v s ⟨n, t, e, S⟩ => by subst e; exact hF n t s S) fun _ _ x => x
theorem int_end {c : Cx} {s : Shared} {P : List HP} {n : Int} {t : Tok} (S : St c P s) : ∃ m u, Value.int n t = .int m u ∧ St c P s := ⟨_, _, rfl, S⟩
theorem get_of_len {xs : List Int} {i : Nat} (h : i < xs.length) : ∃ x, xs[i]? = some x := ⟨_, List.getElem?_eq_getElem h⟩
theorem la_head {c : Cx} {A : Around} {s : Shared} {R : List HP} {L sc : Addr} {script : List Int} {l : Lo} {Q : Flow → Shared → Prop}
    (S : St c (frm L (F516 { l with script := some (.ref sc) }) :: R) s) (hA : A.handled = c.hx) (hx : c.hx = none) (hz : script.length ≤ 100) (hl : ∃ vs, IntsOf vs script ∧ c.h₀.IsList sc vs.toArray)
    (h : ∀ s' ra (hd : Int) (n s0 t0 : Nat) nb t1 t2 t3 t4, 2 ≤ n → n ≤ 5 → s0 < n → t0 < n → s0 ≠ t0 →
      St c (frm L (F516 { l with script := some (.ref sc), rows := some (.ref ra), head := some (.int hd t1), n := some (.int (n : Nat) t2), narrow := some (.bool nb), s := some (.int (s0 : Nat) t3), t := some (.int (t0 : Nat) t4) }) :: li ra (script.take 28) :: R) s' → wpAny c.M A (execs (d516.1.body.drop 6) (env516 L)) Q NoE s') :
    wpAny c.M A (execs d516.1.body (env516 L)) Q NoE s := by
  have hh := hA.trans hx
  dsimp only [d516, List.drop] at h ⊢
  simp only [F516] at S h
  refine wpAny_execs_cons (wpAny_Assign_Name ?_)
  refine' script_slice (k := 28) (l := sc) (ns := script) (by omega) hl ?_
  wtm_at "ww"
  refine ⟨rfl, _, S, ?_⟩
  clear S; intro s ra S
  wtm_at "wz"
  dsimp only
  have hr : (script.take 28).length ≤ 100000 := by rw [List.length_take]; omega
  refine wpAny_execs_cons ?_
  wtm_at "wz"
  refine' ite_int S (fun hb => ?_) (fun hb => ?_) ?_
  rotate_left 2
  · clear S
    intro hd t1 s S
    wtm_at "wz"
    dsimp only
    refine wpAny_execs_cons ?_
    wtm_at "wz"
    dsimp only
    obtain ⟨n, hn⟩ : ∃ n : Nat, 2 + hd % 4 = (n : Int) := ⟨(2 + hd % 4).toNat, by omega⟩
    rw [hn] at S
    have hn2 : 2 ≤ n ∧ n ≤ 5 := by omega
    refine wpAny_execs_cons ?_
    wtm_at "wz"
    dsimp only
    refine wpAny_execs_cons ?_
    wtm_at "wz"
    dsimp only
    obtain ⟨s0, hs⟩ : ∃ s0 : Nat, hd / 8 % (n : Int) = (s0 : Int) := ⟨(hd / 8 % (n : Int)).toNat, by have := Int.emod_nonneg (hd / 8) (b := (n : Int)) (by omega); omega⟩
    have hs0 : s0 < n := by have := Int.emod_lt_of_pos (hd / 8) (b := (n : Int)) (by omega); omega
    rw [hs] at S
    refine wpAny_execs_cons ?_
    wtm_at "wz"
    dsimp only
    obtain ⟨t0, ht, ht0, hne⟩ : ∃ t0 : Nat, ((s0 : Int) + 1 + hd / 40 % ((n : Int) - 1)) % (n : Int) = (t0 : Int) ∧ t0 < n ∧ s0 ≠ t0 := by
      have h1 := Int.emod_nonneg ((s0 : Int) + 1 + hd / 40 % ((n : Int) - 1)) (b := (n : Int)) (by omega)
      have h2 := Int.emod_lt_of_pos ((s0 : Int) + 1 + hd / 40 % ((n : Int) - 1)) (b := (n : Int)) (by omega)
      refine ⟨(((s0 : Int) + 1 + hd / 40 % ((n : Int) - 1)) % (n : Int)).toNat, by omega, by omega, ?_⟩
      clear S hs h
      have h3 : n = 2 ∨ n = 3 ∨ n = 4 ∨ n = 5 := by omega
      rcases h3 with rfl | rfl | rfl | rfl <;> omega
    rw [ht] at S
    exact h _ ra hd n s0 t0 _ _ _ _ _ hn2.1 hn2.2 hs0 ht0 hne S
  · have hlen : 0 < (script.take 28).length := by
      simp only [bne_iff_ne, ne_eq] at hb; omega
    wtm_at "wz"
    obtain ⟨y, hy⟩ := get_of_len hlen
    refine' li_sub (xs := script.take 28) (i := 0) S ?zz1 rfl hy (by omega) ?_
    case zz1 => wtm_at "take"
    intro ty
    exact int_end S
  · wtm_at "wz"
    exact int_end S

/-! the graph is made -/
theorem la_graph {c : Cx} {A : Around} {s : Shared} {R : List HP} {k : Nat} {L : Addr} {n : Nat} {tn : Tok} {l : Lo} {Q : Flow → Shared → Prop}
    (S : St c (frm L (F516 { l with n := some (.int (n : Nat) tn) }) :: R) s) (rm : Rm A (k + 30)) (hA : A.handled = c.hx) (hx : c.hx = none) (hn : n ≤ 5)
    (h : ∀ s' a V ld, LInv n V [] (fun _ => 0) → V.el = [] →
      St c (frm L (F516 { l with n := some (.int (n : Nat) tn), G := some (.ref a.g), laid := some (.ref ld) }) :: dT c ld [] (fun _ => 0) :: fam [] tR :: (graphR c a V ++ R)) s' → wpAny c.M A (execs (d516.1.body.drop 9) (env516 L)) Q NoE s') :
    wpAny c.M A (execs (d516.1.body.drop 6) (env516 L)) Q NoE s := by
  have hh := hA.trans hx
  dsimp only [d516, List.drop] at h ⊢
  simp only [F516] at S h
  refine wpAny_execs_cons ?_
  wtm_at "wz"
  refine wpAny_call (call_cls (fI := 345) (k := k + 20) S (rm.le (by omega)) (by exact rfl) (by kernel_rfl) (by kernel_rfl) ?_)
  intro B s x dx rmB hhB S
  refine' di_init (k := k + 1) S (rmB.le (by omega)) ?zz1 ?_
  case zz1 => wtm_at "takes"
  clear S; intro s gd nd ad pd S
  refine ⟨rfl, ?_⟩
  simp only [List.cons_append, List.nil_append] at S
  dsimp only
  wtm_at "wz"
  obtain ⟨b0, W0, hb0, hW0, hW1, hW2, S1⟩ := fresh_graph S (x := x) (dx := dx) (gd := gd) (nd := nd) (ad := ad) (pd := pd) (by wtm_at "takes")
  clear S
  have S := S1
  clear S1
  rw [← hb0] at S
  refine wpAny_execs_cons ?_
  simp only [graphR, List.cons_append, List.nil_append] at S
  wtm_at "wz"
  have S2 := St.unflat (l := [rng rg 0 (n : Int) 1]) (S.takes (Xs := [rng rg 0 (n : Int) 1]) (by wtm_at "takes"))
  refine' wpAny_call (add_nodes (k := k) S2 (rm.le (by omega)) hh ?zz2 (range_source (c := c) (r := rg) (n := n) (by omega)) hW0 hW1 (by omega) ?_)
  case zz2 => wtm_at "takes"
  clear S S2; intro s b W hb hWn hWe hWg hWa S
  rw [← hb] at S
  simp only [graphR, List.cons_append, List.nil_append] at S
  dsimp only
  refine wpAny_execs_cons ?_
  wtm_at "wz"
  refine dictT0 S ?_
  clear S; intro s ld S
  have S1 := S fun _ => 0
  clear S
  have S := S1
  clear S1
  wtm_at "wz"
  dsimp only
  refine' h _ b W ld ⟨⟨by rw [hWe]; exact List.nodup_nil, by rw [hWe]; simp, by omega, by rw [hWe]; simp⟩, hWn, fun u hu => by rw [hWa u (by omega)]; simp, fun e => by rw [hWe]; simp, fun e he => by rw [hWe] at he; simp at he, List.nodup_nil⟩ hWe ?zz3
  case zz3 =>
    simp only [graphR, List.cons_append, List.nil_append]
    wtm_at "fin"

/-! the edges are laid -/
theorem range_three {M : Int} (h2 : M ≤ 23) : ∃ N : Nat, N ≤ 8 ∧ Builtin.Range.rangeSize 1 M 3 = N ∧ (∀ i : Nat, i < N → 1 + (i : Int) * 3 < M) := by
  unfold Builtin.Range.rangeSize
  simp only [show (3 : Int) > 0 from by decide, if_true]
  by_cases h : 1 < M
  · rw [if_pos h]
    refine ⟨((M - 1 - 1) / 3 + 1).toNat, by omega, by omega, fun i hi => by omega⟩
  · rw [if_neg h]
    exact ⟨0, by omega, rfl, fun i hi => by omega⟩
theorem range_three_small {M : Int} (h1 : -10 ≤ M) (h2 : M ≤ 23) : Builtin.Range.small 1 M 3 = true := by
  obtain ⟨N, hN, e, -⟩ := range_three h2
  simp [Builtin.Range.small, Builtin.Range.rangeFitsLong, e]
  omega
theorem ite_intP {c : Cx} {A : Around} {s : Shared} {P : List HP} {b : Bool} {t1 t2 : Sem Value} {F : Value → Shared → Prop} (S : St c P s) (Pr : Int → Prop) (h1 : b = true → wpAny c.M A t1 (fun v s => ∃ n t, v = .int n t ∧ Pr n ∧ St c P s) NoE s) (h2 : b = false → wpAny c.M A t2 (fun v s => ∃ n t, v = .int n t ∧ Pr n ∧ St c P s) NoE s)
    (hF : ∀ n t s, Pr n → St c P s → F (.int n t) s) : if b = true then wpAny c.M A t1 F NoE s else wpAny c.M A t2 F NoE s := by
  cases b with
  | true =>
    rw [if_pos rfl]
    exact wpAny_mono (h1 rfl) (fun v s ⟨n, t, e, p, S⟩ => by subst e; exact hF n t s p S) fun _ _ x => x
  | false =>
    rw [if_neg Bool.false_ne_true]
    exact wpAny_mono (h2 rfl) (fun v s ⟨n, t, e, p, S⟩ => by subst e; exact hF n t s p S) fun _ _ x => x
theorem int_endP {c : Cx} {s : Shared} {P : List HP} {Pr : Int → Prop} {n : Int} {t : Tok} (S : St c P s) (p : Pr n) : ∃ m u, Value.int n t = .int m u ∧ Pr m ∧ St c P s := ⟨_, _, rfl, p, S⟩
theorem la_build {c : Cx} {A : Around} {s : Shared} {R : List HP} {k n : Nat} {L ra ld : Addr} {rows : List Int} {a : GA} {V : GV} {nb : Bool} {tn : Tok} {v1 v2 : Option Value} {l : Lo} {Q : Flow → Shared → Prop}
    (S : St c (frm L (F516 { l with rows := some (.ref ra), n := some (.int (n : Nat) tn), narrow := some (.bool nb), G := some (.ref a.g), laid := some (.ref ld) }) :: li ra rows :: cel (L + 1) v1 :: cel (L + 2) v2 :: dT c ld [] (fun _ => 0) :: fam [] tR :: (graphR c a V ++ R)) s)
    (rm : Rm A (k + 30)) (hA : A.handled = c.hx) (hx : c.hx = none) (hn2 : 2 ≤ n) (hn : n ≤ 5) (I0 : LInv n V [] fun _ => 0) (hV : V.el = []) (hr : rows.length ≤ 28)
    (h : ∀ s' b W (xs : List (Addr × (Nat × Nat))) cap lk lc v1 v2, b.g = a.g → LInv n W (xs.map (·.2)) cap → W.el.length ≤ 8 → xs.length ≤ 8 →
      St c (frm L (F516 { l with rows := some (.ref ra), n := some (.int (n : Nat) tn), narrow := some (.bool nb), G := some (.ref b.g), laid := some (.ref ld), k := lk, c := lc }) :: li ra rows :: cel (L + 1) v1 :: cel (L + 2) v2 :: dT c ld xs cap :: fam xs tR :: (graphR c b W ++ R)) s' → Q .next s') :
    wpAny c.M A (exec (stAt d516.1.body 9) (env516 L)) Q NoE s := by
  have hh := hA.trans hx
  dsimp only [d516, stAt, List.drop]
  simp only [F516, graphR, List.cons_append, List.nil_append] at S
  refine wpAny_For ?_
  wtm_at "wz"
  obtain ⟨M, hM⟩ : ∃ M : Int, (if (25 : Int) < (rows.length : Int) then (25 : Int) else (rows.length : Int)) - 2 = M := ⟨_, rfl⟩
  have hM2 : M ≤ 23 ∧ M + 2 ≤ rows.length ∧ -2 ≤ M := by rw [← hM]; split <;> omega
  rw [hM]
  obtain ⟨N, hN8, hN, hNM⟩ := range_three hM2.1
  refine range3 S (by decide) (PyProof.noPylong_small (by decide)) ?_
  clear S; intro s rg S
  refine' r_iter (n := N) S ?zz1 (range_three_small (by omega) hM2.1) hN ?_
  case zz1 => wtm_at "take"
  wtm_at "sitS"
  have S1 := S.head_mono (X' := rIt it ((1 : Int) + ((0 : Nat) : Int) * 3) ((N : Int) - ((0 : Nat) : Int)) 3) fun D hD => by simpa using hD
  clear S
  have S := S1
  clear S1
  refine' for_rule (Ex := fun _ _ => []) (r_walk (it := it) (a := 1) (st := 3) (n := N) hh) (fun i P' => ∃ (b : GA) (W : GV) (xs : List (Addr × (Nat × Nat))) (cap : Nat × Nat → Int) (lk lc v1 v2 : Option Value), b.g = a.g ∧ LInv n W (xs.map (·.2)) cap ∧ W.el.length ≤ i ∧ xs.length ≤ i ∧
      P' = frm L (F516 { l with rows := some (.ref ra), n := some (.int (n : Nat) tn), narrow := some (.bool nb), G := some (.ref b.g), laid := some (.ref ld), k := lk, c := lc }) :: li ra rows :: cel (L + 1) v1 :: cel (L + 2) v2 :: dT c ld xs cap :: fam xs tR :: (graphR c b W ++ R))
    (S.cov ?zz2) ⟨a, V, [], fun _ => 0, l.k, l.c, v1, v2, rfl, I0, by rw [hV]; simp, by simp, rfl⟩ ?_ ?_ ?_
  case zz2 =>
    simp only [F516, graphR, List.cons_append, List.nil_append]
    wtm_at "cov"
  · intro i v P' s hv S Q hq
    exact own_name (hq _ S)
  · clear S h
    rintro i hi _ s w ⟨b, W, xs, cap, lk, lc, v1, v2, hbg, I, hWl, hxl, rfl⟩ ⟨ti, rfl⟩ S
    have hi2 := hNM i hi
    have hki : (1 : Int) + (i : Int) * 3 = ((1 + 3 * i : Nat) : Int) := by push_cast; omega
    rw [hki]
    simp only [F516, graphR, List.cons_append, List.nil_append] at S
    wtm_at "wz"
    dsimp only
    obtain ⟨y0, hy0⟩ := get_of_len (xs := rows) (i := 1 + 3 * i) (by omega)
    obtain ⟨y1, hy1⟩ := get_of_len (xs := rows) (i := 2 + 3 * i) (by omega)
    obtain ⟨y2, hy2⟩ := get_of_len (xs := rows) (i := 3 + 3 * i) (by omega)
    refine wpAny_execs_cons ?_
    wtm_at "wz"
    refine' li_sub (xs := rows) (i := 1 + 3 * i) S ?zz3 rfl hy0 (by omega) ?_
    case zz3 => wtm_at "take"
    intro q0
    wtm_at "wz"
    dsimp only
    obtain ⟨u, hu, hun⟩ : ∃ u : Nat, y0 % (n : Int) = (u : Int) ∧ u < n := ⟨(y0 % (n : Int)).toNat, by have := Int.emod_nonneg y0 (b := (n : Int)) (by omega); omega, by have := Int.emod_lt_of_pos y0 (b := (n : Int)) (by omega); omega⟩
    rw [hu] at S
    obtain ⟨tu, htu⟩ : ∃ x, x = t := ⟨_, rfl⟩
    rw [← htu] at S
    refine wpAny_execs_cons ?_
    wtm_at "wz"
    refine' li_sub (xs := rows) (i := 2 + 3 * i) S ?zz4 (by push_cast; omega) hy1 (by omega) ?_
    case zz4 => wtm_at "take"
    intro q1
    wtm_at "wz"
    dsimp only
    obtain ⟨v, hv, hvn⟩ : ∃ v : Nat, y1 % (n : Int) = (v : Int) ∧ v < n := ⟨(y1 % (n : Int)).toNat, by have := Int.emod_nonneg y1 (b := (n : Int)) (by omega); omega, by have := Int.emod_lt_of_pos y1 (b := (n : Int)) (by omega); omega⟩
    rw [hv] at S
    obtain ⟨tv, htv⟩ : ∃ x, x = t := ⟨_, rfl⟩
    rw [← htv] at S
    refine wpAny_execs_cons ?_
    wtm_at "wz"
    refine' ite_intP S (fun m => 1 ≤ m) (fun _ => ?_) (fun _ => ?_) ?_
    · wtm_at "wz"
      refine' li_sub (xs := rows) (i := 3 + 3 * i) S ?zz5 (by push_cast; omega) hy2 (by omega) ?_
      case zz5 => wtm_at "take"
      intro q2
      wtm_at "wz"
      exact int_endP S (by have := Int.emod_nonneg y2 (b := (3 : Int)) (by omega); omega)
    · wtm_at "wz"
      refine' li_sub (xs := rows) (i := 3 + 3 * i) S ?zz6 (by push_cast; omega) hy2 (by omega) ?_
      case zz6 => wtm_at "take"
      intro q2
      wtm_at "wz"
      exact int_endP S (by omega)
    · clear S
      intro m tm s hm S
      wtm_at "wz"
      dsimp only
      refine wpAny_execs_cons ?_
      wtm_at "wz"
      have hatt2 : ∀ e ∈ W.el, (W.eattr e).length ≤ 100 := fun e he => by obtain ⟨t, h, _⟩ := I.at_ e he; rw [h]; simp
      refine' wpAny_call (di_add_edge (k := k) (a := b) (V := W) S (rm.le (by omega)) hA I.ok I.na hatt2 (by rw [I.hn]; exact hun) (by rw [I.hn]; exact hvn) ?zz7 ?_)
      case zz7 => wtm_at "takes"
      clear S; intro s x1 S
      dsimp only
      have J := I.put (t := tm) hun hvn hm (by omega)
      obtain ⟨b2, hb2, hg2⟩ : ∃ b2, b2 = b.edge (u, v) x1 ∧ b2.g = b.g := ⟨_, rfl, rfl⟩
      have hWl2 : (W.put (u, v) (.int m tm)).el.length ≤ i + 1 := by
        rw [put_el]; unfold insP; split
        · omega
        · rw [List.length_append, List.length_singleton]; omega
      obtain ⟨W2, hW2⟩ : ∃ W2, W2 = W.put (u, v) (.int m tm) := ⟨_, rfl⟩
      rw [← hb2, ← hW2, ← hg2] at S
      rw [← hW2] at J hWl2
      simp only [graphR, List.cons_append, List.nil_append] at S
      refine wpAny_execs_cons ?_
      wtm_at "wz"
      by_cases huv : u = v
      · rw [if_neg (by simp [huv])]
        rw [if_pos huv] at J
        wtm_at "ww"
        dsimp only
        have S2 := (S.take (X := dT c ld xs cap) (by wtm_at "take")).head_mono (X' := dT c ld xs (updE cap (u, v) m)) fun D hD => dT_congr hD fun x hx => (updE_ne fun e => ((I.mem x).mp hx).2 (by rw [e]; exact huv)).symm
        clear S
        refine ⟨_, ⟨b2, W2, xs, updE cap (u, v) m, some (.int ((1 + 3 * i : Nat) : Int) ti), some (.int m tm), some (.int (u : Nat) tu), some (.int (v : Nat) tv), hg2.trans hbg, J, hWl2, by omega, rfl⟩, ?_⟩
        simp only [F516, graphR, List.cons_append, List.nil_append]
        wtm_at "fin"
      · rw [if_pos (by simp; omega)]
        rw [if_neg huv] at J
        wtm_at "ww"
        refine' t_set (j := k) (xs := xs) (cap := cap) (w := m) S (rm.le (by omega)) ?za1 ?za2 ?za3 (by omega) ?_
        case za1 => wtm_at "take"
        case za2 => wtm_at "take"
        case za3 => wtm_at "take"
        clear S; intro s xs2 hxs2 S
        wtm_at "ww"
        dsimp only
        have hxl2 : xs2.length ≤ i + 1 := by
          have e1 : xs2.length = (xs2.map (·.2)).length := by rw [List.length_map]
          rw [e1, hxs2]; unfold insP; split
          · rw [List.length_map]; omega
          · rw [List.length_append, List.length_map, List.length_singleton]; omega
        rw [← hxs2] at J
        refine ⟨_, ⟨b2, W2, xs2, updE cap (u, v) m, some (.int ((1 + 3 * i : Nat) : Int) ti), some (.int m tm), some (.int (u : Nat) tu), some (.int (v : Nat) tv), hg2.trans hbg, J, hWl2, hxl2, rfl⟩, ?_⟩
        simp only [F516, graphR, List.cons_append, List.nil_append]
        wtm_at "fin"
  · rintro _ s ⟨b, W, xs, cap, lk, lc, v1, v2, hbg, I, hWl, hxl, rfl⟩ S
    simp only [F516, graphR, List.cons_append, List.nil_append] at S
    wtm_at "ww"
    refine' h _ b W xs cap lk lc v1 v2 hbg I (by omega) (by omega) ?zb1
    case zb1 =>
      simp only [F516, graphR, List.cons_append, List.nil_append]
      wtm_at "fin"

/-! the call of shortest_augmenting_path out of the law -/
theorem sap_law {c : Cx} {A : Around} {s : Shared} {P R : List HP} {k n : Nat} {L : Addr} {l : List (Str × Option Value)} {a : GA} {V : GV} {el : List (Nat × Nat)} {cap : Nat × Nat → Int} {s0 t0 : Nat} {ts tt : Tok} {Rr : Result → Shared → Prop}
    (S : St c P s) (rm : Rm A (k + 61)) (hA : A.handled = c.hx) (hx : c.hx = none) (hfr : A.frames = some [env516 L]) (I : LInv n V el cap) (hV : V.el.length ≤ 400) (hn : n ≤ 90) (hs0 : s0 < n) (ht0 : t0 < n) (hst : s0 ≠ t0)
    (tk : Takes (frm L l :: tabX 481 capQ [] :: tabX 476 resQ [] :: tabX 488 sapQ [] :: graphR c a V) P R)
    (h : ∀ s' b el2 eps f F inf ti2 t w, Best n s0 t0 (cL2 el cap) f F → (∀ e, e ∈ el2 ↔ (e ∈ el ∨ (e.2, e.1) ∈ el)) →
      St c (rS c b n el2 eps (cL2 el cap) f inf ti2 F t w ++ (frm L l :: tabX 481 capQ [] :: tabX 476 resQ [] :: tabX 488 sapQ [] :: (graphR c a V ++ R))) s' → Rr (.ok (.ret (.ref b.g))) s') :
    codeAny c.M A (.call (.ref 501) ⟨[.ref a.g, .int s0 ts, .int t0 tt], []⟩) Rr s := by
  have hh := hA.trans hx
  have S1 := S.takes tk
  simp only [List.cons_append] at S1
  have S2 : St c (frm L l :: fam [] frP :: _) s := (S1.emp frP).mono fun _ h => Sat.swap h
  have S3 : St c (fam [(L, l)] frP :: _) s := S2.mono fun _ h => Sat.consFam (f := frP) (u := (L, l)) h
  clear S S1 S2 tk
  have FO : FrOk [env516 L] [(L, l)] := ⟨show ScopeKind.function ≠ .module by decide, rfl, trivial⟩
  have hsub := I.hn
  subst hsub
  simp only [graphR, List.cons_append, List.nil_append] at S3
  refine' sap_all (k := k) (a := a) (V := V) (cap := cap) (frs := [(L, l)]) (outer := [env516 L]) S3 rm hh hx hfr FO I.ok hV hn hs0 ht0 hst I.at_ ?zz1 ?_
  case zz1 =>
    simp only [graphR, List.cons_append, List.nil_append]
    wtm_at "takes"
  clear S3
  intro s' b el2 eps f F inf ti2 t w hB hEl S
  rw [I.ck] at hB S
  simp only [rS, graphR, List.cons_append, List.nil_append] at S
  have S2 := S.takes (Xs := [fam [(L, l)] frP]) (by wtm_at "takes")
  have S3 : St c (frm L l :: fam [] frP :: _) s' := S2.uncons
  clear S S2
  refine' h s' b el2 eps f F inf ti2 t w hB (fun e => ?_) ?zz2
  case zz2 =>
    simp only [rS, graphR, List.cons_append, List.nil_append]
    have S := S3
    clear S3
    simp only [List.append_eq, List.cons_append, List.nil_append] at S
    wtm_at "fin"
  rw [hEl, kept_mem I.ok, kept_mem I.ok, I.mem, I.mem]
theorem la_sap {c : Cx} {A : Around} {s : Shared} {R : List HP} {k n : Nat} {L : Addr} {l : Lo} {a : GA} {V : GV} {el : List (Nat × Nat)} {cap : Nat × Nat → Int} {s0 t0 : Nat} {tn ts tt : Tok} {Q : Flow → Shared → Prop}
    (S : St c (frm L (F516 { l with s := some (.int (s0 : Nat) ts), t := some (.int (t0 : Nat) tt), G := some (.ref a.g) }) :: tabX 481 capQ [] :: tabX 476 resQ [] :: tabX 488 sapQ [] :: (graphR c a V ++ R)) s)
    (rm : Rm A (k + 70)) (hA : A.handled = c.hx) (hx : c.hx = none) (hfr : A.frames = some [env516 L]) (I : LInv n V el cap) (hV : V.el.length ≤ 400) (hn : n ≤ 90) (hs0 : s0 < n) (ht0 : t0 < n) (hst : s0 ≠ t0)
    (h : ∀ s' b el2 eps f F inf ti2 t w td, Best n s0 t0 (cL2 el cap) f F → (∀ e, e ∈ el2 ↔ (e ∈ el ∨ (e.2, e.1) ∈ el)) →
      St c (frm L (F516 { l with s := some (.int (s0 : Nat) ts), t := some (.int (t0 : Nat) tt), G := some (.ref a.g), R := some (.ref b.g), told := some (.ref td) }) :: li td [F] :: (rS c b n el2 eps (cL2 el cap) f inf ti2 F t w ++ (tabX 481 capQ [] :: tabX 476 resQ [] :: tabX 488 sapQ [] :: (graphR c a V ++ R)))) s' → wpAny c.M A (execs (d516.1.body.drop 12) (env516 L)) Q NoE s') :
    wpAny c.M A (execs (d516.1.body.drop 10) (env516 L)) Q NoE s := by
  have hh := hA.trans hx
  dsimp only [d516, List.drop] at h ⊢
  simp only [F516, graphR, List.cons_append, List.nil_append] at S
  refine wpAny_execs_cons ?_
  wtm_at "wz"
  refine' wpAny_call (sap_law (k := k) (n := n) (L := L) (a := a) (V := V) (el := el) (cap := cap) S (rm.le (by omega)) hA hx hfr I hV hn hs0 ht0 hst ?zz1 ?_)
  case zz1 => wtm_at "takes"
  clear S
  intro s b el2 eps f F inf ti2 tF w hB hEl S
  simp only [rS, graphR, List.cons_append, List.nil_append] at S
  wtm_at "wz"
  dsimp only
  refine wpAny_execs_cons ?_
  wtm_at "wz"
  dsimp only
  have S1 := (S.take (X := lst nw [.int F tF]) (by wtm_at "take")).head_mono (X' := li nw [F]) fun D hD => ⟨[.int F tF], ⟨rfl, fun i x hx => by
      rcases i with _ | i
      · simp at hx; subst hx; exact ⟨tF, rfl⟩
      · simp at hx⟩, hD⟩
  clear S
  refine' h _ b el2 eps f F inf ti2 tF w nw hB hEl ?zz2
  case zz2 =>
    simp only [F516, rS, graphR, List.cons_append, List.nil_append]
    wtm_at "fin"

section
variable {c : Cx} {A : Around} {E : Value → Shared → Prop} {s : Shared} {P R R1 R2 R3 : List HP} {d a : Addr} {xs : List (Addr × (Nat × Nat))} {cap : Nat × Nat → Int} {ep k u v : Nat} {t1 t2 : Tok}
theorem t_setdefaultI {j : Nat} {w : Int} {tw : Tok} {Q : Value → Shared → Prop} (S : St c P s) (rm : Rm A (j + 2)) (ta : Take (dT c d xs cap) P R1) (tb : Take (fam xs tR) R1 R2) (tk : Take (tup a [.int u t1, .int v t2]) R2 R3) (hz : xs.length ≤ 1000000)
    (hq : ∀ s' xs' z tz, xs'.map (·.2) = insP (xs.map (·.2)) (u, v) → St c (dT c d xs' (if (u, v) ∈ xs.map (·.2) then cap else updE cap (u, v) w) :: fam xs' tR :: R3) s' → Q (.int z tz) s') : wpAny c.M A (call (.builtin "dict.setdefault") [.ref d, .ref a, .int w tw]) Q E s := by
  have S1 := S.takes (Xs := [dT c d xs cap, fam xs tR, tup a [.int u t1, .int v t2]]) (.cons ta (.cons tb (.cons tk .nil)))
  simp only [List.cons_append, List.nil_append] at S1
  obtain ⟨tg, hD, hn⟩ := dT_of S1 .head (.tail .head)
  refine call_meetsIn PySem.F.slot_dict_setdefault hD.typeIs PySem.F.entry_dict_setdefault (PySem.F.args_dict_setdefault_3 _ _ _) (meetsH_setdefault (knd := tupleKind (intKind Pg c.w)) (S1.notSys .head dT_owns) _)
    ⟨rm.units1, _, _, tup_key (S1.get (.tail (.tail .head))), hD, by rw [List.length_map, sizeLine_eq]; omega, fun p hp => ?_, fun hnone h' hm' hs => ?_⟩
  · by_cases he : (u, v) ∈ xs.map (·.2)
    · obtain ⟨x, hx, e⟩ := List.mem_map.mp he
      have ha := atKey_tE (cap := cap) (tg := tg) hn hx
      rw [e, hp] at ha
      cases ha
      refine hq _ xs _ _ (by unfold insP; rw [if_pos he]) ?_
      rw [if_pos he]
      exact St.tok (S1.mono fun _ h => Sat.cons_mono (fun _ h => Sat.cons_mono (fun _ h => Sat.drop h) h) h)
    · rw [atKey_tE_none he] at hp; cases hp
  · by_cases he : (u, v) ∈ xs.map (·.2)
    · obtain ⟨x, hx, e⟩ := List.mem_map.mp he
      have ha := atKey_tE (cap := cap) (tg := tg) hn hx
      rw [e, hnone] at ha; cases ha
    · have hm2 : h'.DictOfH (tupleKind (intKind Pg c.w)) d (storedH (xs.map (tE cap tg)) [(u : Int), (v : Int)] a (.int w tw)) := by rw [storedH_new hnone]; exact hm'
      have key := dT_store (D := one d (h'.get? d)) hn hm2 one_self
      have S2 : ∀ n, St c (dT c d (xs ++ [(a, (u, v))]) (updE cap (u, v) w) :: fam xs tR :: tup a [.int u t1, .int v t2] :: R3) { s with heap := h', toks := n } := fun n => S1.upd dT_owns (fun b hb => hs.2 b hb) (key.2 he)
      refine hq _ (xs ++ [(a, (u, v))]) _ _ (by unfold insP; rw [if_neg he]; simp) ?_
      rw [if_neg he]
      exact (St.tgrow (S2 _) (.tail .head) (.tail .head) (a, (u, v)) fun D q => ⟨_, _, q⟩).mono fun _ h => Sat.swap h
theorem t_popI {j : Nat} {Q : Value → Shared → Prop} (S : St c P s) (rm : Rm A (j + 2)) (ta : Take (dT c d xs cap) P R1) (tb : Take (fam xs tR) R1 R2) (tk : Take (tup a [.int u t1, .int v t2]) R2 R3) (hz : xs.length ≤ 1000000) (he : (u, v) ∈ xs.map (·.2))
    (hq : ∀ s' xs' z tz, xs'.map (·.2) = (xs.map (·.2)).filter (fun i => decide (i ≠ (u, v))) → St c (dT c d xs' cap :: fam xs' tR :: R3) s' → Q (.int z tz) s') : wpAny c.M A (call (.builtin "dict.pop") [.ref d, .ref a]) Q E s := by
  have S1 := S.takes (Xs := [dT c d xs cap, fam xs tR, tup a [.int u t1, .int v t2]]) (.cons ta (.cons tb (.cons tk .nil)))
  simp only [List.cons_append, List.nil_append] at S1
  obtain ⟨tg, hD, hn⟩ := dT_of S1 .head (.tail .head)
  obtain ⟨x, hx, e⟩ := List.mem_map.mp he
  have ha := atKey_tE (cap := cap) (tg := tg) hn hx
  rw [e] at ha
  refine call_meetsIn PySem.F.slot_dict_pop hD.typeIs PySem.F.entry_dict_pop (PySem.F.args_dict_pop_2 _ _) (meetsH_pop (knd := tupleKind (intKind Pg c.w)))
    ⟨rm.units1, _, _, _, tup_key (S1.get (.tail (.tail .head))), hD, by rw [List.length_map, sizeLine_eq]; omega, ha, fun h' i hi hm' hs => ?_⟩
  rw [List.getElem?_map] at hi
  obtain ⟨y, hy, hy2⟩ := Option.map_eq_some_iff.mp hi
  have hye : y.2 = (u, v) := by
    simp only [tE, Prod.mk.injEq] at hy2
    exact two_inj (y := (u, v)) hy2.1
  have hne : (xs.eraseIdx i).map (·.2) = (xs.map (·.2)).filter fun z => decide (z ≠ (u, v)) := fil_erase hn ⟨y.1, by rw [hy, ← hye]⟩
  have hX : dT c d (xs.eraseIdx i) cap (one d (h'.get? d)) := by
    obtain ⟨o, es, ep, g1, g2, g3, g4, g5, g6⟩ := hm'
    refine ⟨ep, o, es, tg, one_self.trans g1, g2, g3, ?_, ?_⟩
    · rw [g4, erase_map]
    · rw [hne]; exact hn.filter _
  have S2 : ∀ n, St c (dT c d (xs.eraseIdx i) cap :: fam xs tR :: tup a [.int u t1, .int v t2] :: R3) { s with heap := h', toks := n } := fun n => S1.upd dT_owns (fun b hb => hs.2 b hb) hX
  refine hq _ _ _ _ hne ?_
  have S3 := fun n => ((S2 n).mono fun _ h => Sat.swap h).famSub (List.eraseIdx_sublist xs i)
  exact (S3 _).mono fun _ h => Sat.swap (Sat.cons_mono (fun _ h => Sat.cons_mono (fun _ h => Sat.drop h) h) h)
end
/-! what there is room for -/
def roomC (E : List (Nat × Nat)) (cap : Nat × Nat → Int) (e : Nat × Nat) : Int := if e ∈ E then cap e else 0
def RoomI (E : List (Nat × Nat)) (ro : List (Nat × Nat)) : Prop := ∀ e, e ∈ ro ↔ (e ∈ E ∨ (e.2, e.1) ∈ E)
theorem RoomI.step {E ro : List (Nat × Nat)} {u v : Nat} (h : RoomI E ro) : RoomI (E ++ [(u, v)]) (insP (insP ro (u, v)) (v, u)) := by
  intro e
  obtain ⟨x, y⟩ := e
  rw [insP_mem, insP_mem, h (x, y)]
  simp only [List.mem_append, List.mem_singleton, Prod.mk.injEq]
  constructor
  · rintro ((a | a) | a)
    · exact a.elim (fun q => .inl (.inl q)) fun q => .inr (.inl q)
    · exact .inl (.inr a)
    · exact .inr (.inr ⟨a.2, a.1⟩)
  · rintro ((a | a) | (a | a))
    · exact .inl (.inl (.inl a))
    · exact .inl (.inr a)
    · exact .inl (.inl (.inr a))
    · exact .inr ⟨a.2, a.1⟩
theorem roomC_step {E ro : List (Nat × Nat)} {cap : Nat × Nat → Int} {u v : Nat} (h : RoomI E ro) (huv : u ≠ v) (e : Nat × Nat) :
    (if (v, u) ∈ insP ro (u, v) then updE (roomC E cap) (u, v) (cap (u, v)) else updE (updE (roomC E cap) (u, v) (cap (u, v))) (v, u) 0) e = roomC (E ++ [(u, v)]) cap e := by
  have hne : ((v, u) : Nat × Nat) ≠ (u, v) := fun q => huv (Prod.mk.inj q).2
  by_cases h1 : e = (u, v)
  · subst h1
    have r : roomC (E ++ [(u, v)]) cap (u, v) = cap (u, v) := by unfold roomC; rw [if_pos (by simp)]
    rw [r]
    split
    · exact updE_self
    · rw [updE_ne hne.symm]; exact updE_self
  · have r : roomC (E ++ [(u, v)]) cap e = roomC E cap e := by
      unfold roomC
      simp only [List.mem_append, List.mem_singleton, h1, or_false]
    rw [r]
    split
    · exact updE_ne h1
    · rename_i hno
      by_cases h2 : e = (v, u)
      · subst h2
        rw [updE_self]
        unfold roomC
        rw [if_neg]
        intro q
        exact hno (insP_mem.mpr (.inl ((h (v, u)).mpr (.inl q))))
      · rw [updE_ne h2, updE_ne h1]
theorem la_room {c : Cx} {A : Around} {s : Shared} {R : List HP} {k : Nat} {L ld : Addr} {xs : List (Addr × (Nat × Nat))} {cap : Nat × Nat → Int} {v1 v2 : Option Value} {l : Lo} {Q : Flow → Shared → Prop}
    (S : St c (frm L (F516 { l with laid := some (.ref ld) }) :: cel (L + 1) v1 :: cel (L + 2) v2 :: dT c ld xs cap :: fam xs tR :: R) s)
    (rm : Rm A (k + 10)) (hA : A.handled = c.hx) (hx : c.hx = none) (hxl : xs.length ≤ 100) (hne : ∀ e ∈ xs.map (·.2), e.1 ≠ e.2)
    (h : ∀ s' rd (ys : List (Addr × (Nat × Nat))) v1 v2, RoomI (xs.map (·.2)) (ys.map (·.2)) → (ys.map (·.2)).Nodup → ys.length ≤ 200 →
      St c (frm L (F516 { l with laid := some (.ref ld), room := some (.ref rd) }) :: cel (L + 1) v1 :: cel (L + 2) v2 :: dT c rd ys (roomC (xs.map (·.2)) cap) :: fam ys tR :: dT c ld xs cap :: fam xs tR :: R) s' → wpAny c.M A (execs (d516.1.body.drop 14) (env516 L)) Q NoE s') :
    wpAny c.M A (execs (d516.1.body.drop 12) (env516 L)) Q NoE s := by
  have hh := hA.trans hx
  dsimp only [d516, List.drop] at h ⊢
  simp only [F516] at S
  refine wpAny_execs_cons ?_
  wtm_at "wz"
  refine dictT0 S ?_
  clear S; intro s rd S
  have S1 := S (roomC ((xs.take 0).map (·.2)) cap)
  clear S
  have S := S1
  clear S1
  wtm_at "wz"
  dsimp only
  refine wpAny_execs_cons (wpAny_For ?_)
  wtm_at "wz"
  refine' iter_t (d := ld) (xs := xs) (cap := cap) S ?zz1 ?_
  case zz1 => wtm_at "take"
  clear S; intro s it ep S
  refine' for_rule (Ex := fun _ _ => []) (t_iter (it := it) (d := ld) (xs := xs) (cap := cap) (ep := ep) hh) (fun i P' => ∃ (ys : List (Addr × (Nat × Nat))) (v1 v2 : Option Value), RoomI ((xs.take i).map (·.2)) (ys.map (·.2)) ∧ ys.length ≤ 2 * i ∧
      P' = frm L (F516 { l with laid := some (.ref ld), room := some (.ref rd) }) :: cel (L + 1) v1 :: cel (L + 2) v2 :: dT c rd ys (roomC ((xs.take i).map (·.2)) cap) :: fam ys tR :: fam xs tR :: R)
    (S.cov ?zz2) ⟨[], v1, v2, fun e => by simp, by simp, rfl⟩ ?_ ?_ ?_
  case zz2 =>
    simp only [F516, List.cons_append, List.nil_append]
    wtm_at "cov"
  · intro i v P' s hv S Q hq
    obtain ⟨x, -, rfl⟩ := hv
    exact k_own S .head (hq _ S)
  · clear S h
    rintro i hi _ s w ⟨ys, v1, v2, hI, hyl, rfl⟩ ⟨x, hxi, rfl⟩ S
    have hxm : x ∈ xs := List.mem_of_getElem? hxi
    have hel : (x.2.1, x.2.2) ∈ xs.map (·.2) := List.mem_map.mpr ⟨x, hxm, rfl⟩
    have huv := hne _ hel
    simp only [F516, List.cons_append, List.nil_append] at S
    obtain ⟨⟨q1, q2⟩, S1⟩ := (S.take (X := tR x) (by wtm_at "take")).ofHead (f := fun p : Tok × Tok => tup x.1 [.int x.2.1 p.1, .int x.2.2 p.2]) (fun D ⟨t1, t2, h⟩ => ⟨(t1, t2), h⟩)
    clear S
    have S := S1
    clear S1
    dsimp only at S
    wtm_at "ww"
    have S2 := ((S.take (X := tup x.1 [.int x.2.1 q1, .int x.2.2 q2]) (by wtm_at "take")).head_mono (X' := tR x) fun d h => ⟨q1, q2, h⟩).shutS (l := xs) (f := tR) (u := x) (by wtm_at "take") (by wtm_at "take") hxm
    clear S
    have S := S2
    clear S2
    wtm_at "ww"
    refine' t_subA (j := k) (xs := xs) (cap := cap) (ep := ep) S (rm.le (by omega)) ?za1 ?za2 ?za3 hel ?_
    case za1 => wtm_at "take"
    case za2 => wtm_at "take"
    case za3 => wtm_at "take"
    clear S; intro s tq S
    wtm_at "ww"
    refine' t_set (j := k) (xs := ys) (cap := roomC ((xs.take i).map (·.2)) cap) (w := cap (x.2.1, x.2.2)) S (rm.le (by omega)) ?zb1 ?zb2 ?zb3 (by omega) ?_
    case zb1 => wtm_at "take"
    case zb2 => wtm_at "take"
    case zb3 => wtm_at "take"
    clear S; intro s y1 hy1 S
    wtm_at "ww"
    refine' t_setdefaultI (j := k) (xs := y1) (cap := updE (roomC ((xs.take i).map (·.2)) cap) (x.2.1, x.2.2) (cap (x.2.1, x.2.2))) (w := 0) S (rm.le (by omega)) ?zd1 ?zd2 ?zd3 ?zd4 ?_
    case zd1 => wtm_at "take"
    case zd2 => wtm_at "take"
    case zd3 => wtm_at "take"
    case zd4 =>
      have e1 : y1.length = (y1.map (·.2)).length := by rw [List.length_map]
      rw [e1, hy1]; unfold insP; split
      · rw [List.length_map]; omega
      · rw [List.length_append, List.length_map, List.length_singleton]; omega
    clear S; intro s y2 z tz hy2 S
    dsimp only
    wtm_at "ww"
    dsimp only
    have eT : ((xs.take (i + 1)).map (·.2)) = (xs.take i).map (·.2) ++ [(x.2.1, x.2.2)] := by
      rw [List.take_add_one, hxi]; simp
    have hI2 : RoomI ((xs.take (i + 1)).map (·.2)) (y2.map (·.2)) := by
      rw [eT, hy2, hy1]; exact hI.step
    have hl2 : y2.length ≤ 2 * (i + 1) := by
      have e1 : y2.length = (y2.map (·.2)).length := by rw [List.length_map]
      have e2 : y1.length = (y1.map (·.2)).length := by rw [List.length_map]
      have e3 : (y1.map (·.2)).length ≤ ys.length + 1 := by
        rw [hy1]; unfold insP; split
        · rw [List.length_map]; omega
        · rw [List.length_append, List.length_map, List.length_singleton]; omega
      rw [e1, hy2]; unfold insP; split
      · omega
      · rw [List.length_append, List.length_singleton]; omega
    refine ⟨_, ⟨y2, some (.int x.2.1 q1), some (.int x.2.2 q2), hI2, hl2, rfl⟩, ?_⟩
    have S3 := S.head_mono (X' := dT c rd y2 (roomC ((xs.take (i + 1)).map (·.2)) cap)) fun D hD => dT_congr hD fun e _ => by
      rw [eT, hy1]; exact roomC_step hI huv e
    clear S
    simp only [F516, List.cons_append, List.nil_append]
    wtm_at "fin"
  · rintro _ s ⟨ys, v1, v2, hI, hyl, rfl⟩ S
    rw [List.take_length] at hI S
    simp only [F516, List.cons_append, List.nil_append] at S
    have hnd := dT_nd (S.get (X := dT c rd ys (roomC (xs.map (·.2)) cap)) (by wtm_at "take"))
    dsimp only
    refine' h _ rd ys v1 v2 hI hnd (by omega) ?zz3
    case zz3 =>
      simp only [F516]
      wtm_at "fin"

/-! the flow is looked through -/
def netS (ro : List (Nat × Nat)) (f : Nat → Nat → Int) (x : Nat) : Int := ((ro.filter fun e => decide (e.1 = x)).map fun e => f e.1 e.2).sum
theorem netS_step {ro : List (Nat × Nat)} {f : Nat → Nat → Int} {u v : Nat} : updZ (netS ro f) u (netS ro f u + f u v) = netS (ro ++ [(u, v)]) f := by
  funext x
  unfold updZ
  unfold netS
  rw [List.filter_append, List.map_append, List.sum_append]
  by_cases h : x = u
  · subst h; simp
  · have h2 : ¬ u = x := fun q => h q.symm
    rw [if_neg h]; simp [h2]
def spareOf (el : List (Nat × Nat)) (cap : Nat × Nat → Int) (f : Nat → Nat → Int) (ro : List (Nat × Nat)) : List (Nat × Nat) := ro.filter fun e => decide (f e.1 e.2 < roomC el cap e)
theorem eR_open {c : Cx} {s : Shared} {P R : List HP} {a : Addr} {cv fv : Int} (S : St c P s) (t : Take (eR c a cv fv) P R) : ∃ t1 t2, St c (dS c a [("capacity", .int cv t1), ("flow", .int fv t2)] :: R) s := by
  obtain ⟨⟨t1, t2⟩, S⟩ := (S.take t).ofHead (f := fun p : Tok × Tok => dS c a [("capacity", .int cv p.1), ("flow", .int fv p.2)]) (fun D ⟨t1, t2, h⟩ => ⟨(t1, t2), h⟩)
  exact ⟨t1, t2, S⟩
theorem la_net {c : Cx} {A : Around} {s : Shared} {R : List HP} {k n s0 t0 : Nat} {L rd : Addr} {ys : List (Addr × (Nat × Nat))} {el el2 : List (Nat × Nat)} {eps : Nat → Nat} {cap : Nat × Nat → Int} {f : Nat → Nat → Int} {b : GA} {F : Int} {tn : Tok} {v1 v2 : Option Value} {l : Lo} {Q : Flow → Shared → Prop}
    (S : St c (frm L (F516 { l with n := some (.int (n : Nat) tn), R := some (.ref b.g), room := some (.ref rd) }) :: cel (L + 1) v1 :: cel (L + 2) v2 :: dT c rd ys (roomC el cap) :: fam ys tR :: pt b.g (instObj 420 b.dx) :: dS c b.dx [("_pred", .ref b.pd), ("graph", .ref b.gd), ("_node", .ref b.nd), ("_adj", .ref b.ad)] :: dI c b.ad (idx n b.aa) :: fam (List.range n) (fun i => dAt c (intKind Pg c.w) (b.aa i) (succE el2 b.ea i) (eps i)) :: fam el2 (fun e => eR c (b.ea e) (cL2 el cap e.1 e.2) (f e.1 e.2)) :: R) s)
    (rm : Rm A (k + 10)) (hA : A.handled = c.hx) (hx : c.hx = none) (hn : n ≤ 10) (hyl : ys.length ≤ 200) (hI : RoomI el (ys.map (·.2))) (hel : ∀ e ∈ el, e.1 < n ∧ e.2 < n) (hEl : ∀ e, e ∈ el2 ↔ (e ∈ el ∨ (e.2, e.1) ∈ el)) (B : Best n s0 t0 (cL2 el cap) f F)
    (h : ∀ s' na sa (zs : List (Addr × (Nat × Nat))) va v1 v2, zs.map (·.2) = spareOf el cap f (ys.map (·.2)) →
      St c (frm L (F516 { l with n := some (.int (n : Nat) tn), R := some (.ref b.g), room := some (.ref rd), net := some (.ref na), spare := some (.ref sa), amount := va }) :: cel (L + 1) v1 :: cel (L + 2) v2 :: li na (zL n (netS (ys.map (·.2)) f)) :: lst sa (zs.map fun p => .ref p.1) :: fam zs tR :: R) s' → wpAny c.M A (execs (d516.1.body.drop 17) (env516 L)) Q NoE s') :
    wpAny c.M A (execs (d516.1.body.drop 14) (env516 L)) Q NoE s := by
  have hh := hA.trans hx
  dsimp only [d516, List.drop] at h ⊢
  simp only [F516] at S
  refine wpAny_execs_cons ?_
  wtm_at "wz"
  refine' li_new (v := .none) (x := 0) (k := (n : Int)) S ?zz0 (by omega) (by omega) ?_
  case zz0 => wtm_at "take"
  clear S; intro s na S
  rw [Int.toNat_natCast, zL_rep] at S
  wtm_at "wz"
  dsimp only
  refine wpAny_execs_cons ?_
  wtm_at "wz"
  dsimp only
  obtain ⟨sa, hsa⟩ : ∃ x, x = nw := ⟨_, rfl⟩
  rw [← hsa] at S
  replace S := S.emp tR
  refine wpAny_execs_cons (wpAny_For ?_)
  wtm_at "wz"
  refine' iter_t (d := rd) (xs := ys) (cap := roomC el cap) S ?zz1 ?_
  case zz1 => wtm_at "take"
  clear S; intro s it ep S
  refine' for_rule (Ex := fun _ _ => []) (t_iter (it := it) (d := rd) (xs := ys) (cap := roomC el cap) (ep := ep) hh) (fun i P' => ∃ (zs : List (Addr × (Nat × Nat))) (va v1 v2 : Option Value), zs.map (·.2) = spareOf el cap f ((ys.take i).map (·.2)) ∧
      P' = frm L (F516 { l with n := some (.int (n : Nat) tn), R := some (.ref b.g), room := some (.ref rd), net := some (.ref na), spare := some (.ref sa), amount := va }) :: cel (L + 1) v1 :: cel (L + 2) v2 :: li na (zL n (netS ((ys.take i).map (·.2)) f)) :: lst sa (zs.map fun p => .ref p.1) :: fam zs tR :: fam ys tR :: pt b.g (instObj 420 b.dx) :: dS c b.dx [("_pred", .ref b.pd), ("graph", .ref b.gd), ("_node", .ref b.nd), ("_adj", .ref b.ad)] :: dI c b.ad (idx n b.aa) :: fam (List.range n) (fun i => dAt c (intKind Pg c.w) (b.aa i) (succE el2 b.ea i) (eps i)) :: fam el2 (fun e => eR c (b.ea e) (cL2 el cap e.1 e.2) (f e.1 e.2)) :: R)
    (S.cov ?zz2) ⟨[], l.amount, v1, v2, by simp [spareOf], rfl⟩ ?_ ?_ ?_
  case zz2 =>
    simp only [F516, List.cons_append, List.nil_append, List.map_nil, List.take_zero]
    rw [show netS [] f = fun _ => 0 from rfl]
    wtm_at "cov"
  · intro i v P' s hv S Q hq
    obtain ⟨x, -, rfl⟩ := hv
    exact k_own S .head (hq _ S)
  · clear S h
    rintro i hi _ s w ⟨zs, va, v1, v2, hzs, rfl⟩ ⟨x, hxi, rfl⟩ S
    have hxm : x ∈ ys := List.mem_of_getElem? hxi
    have hro : (x.2.1, x.2.2) ∈ ys.map (·.2) := List.mem_map.mpr ⟨x, hxm, rfl⟩
    obtain ⟨hu, hv, hin, hin2⟩ : x.2.1 < n ∧ x.2.2 < n ∧ (x.2.1, x.2.2) ∈ el2 ∧ (x.2.2, x.2.1) ∈ el2 := by
      have q := (hI _).mp hro
      refine ⟨?_, ?_, (hEl _).mpr q, (hEl _).mpr q.symm⟩
      · exact q.elim (fun z => (hel _ z).1) fun z => (hel _ z).2
      · exact q.elim (fun z => (hel _ z).2) fun z => (hel _ z).1
    have qv : valueAt (succE el2 b.ea x.2.1) (x.2.2 : Int) = some (.ref (b.ea (x.2.1, x.2.2))) := by rw [valueAt_succE, if_pos hin]
    have qv2 : valueAt (succE el2 b.ea x.2.2) (x.2.1 : Int) = some (.ref (b.ea (x.2.2, x.2.1))) := by rw [valueAt_succE, if_pos hin2]
    simp only [F516, List.cons_append, List.nil_append] at S
    obtain ⟨⟨q1, q2⟩, S1⟩ := (S.take (X := tR x) (by wtm_at "take")).ofHead (f := fun p : Tok × Tok => tup x.1 [.int x.2.1 p.1, .int x.2.2 p.2]) (fun D ⟨t1, t2, h⟩ => ⟨(t1, t2), h⟩)
    clear S
    have S := S1
    clear S1
    dsimp only at S
    wtm_at "wz"
    have S2 := ((S.take (X := tup x.1 [.int x.2.1 q1, .int x.2.2 q2]) (by wtm_at "take")).head_mono (X' := tR x) fun d h => ⟨q1, q2, h⟩).shutS (l := ys) (f := tR) (u := x) (by wtm_at "take") (by wtm_at "take") hxm
    clear S
    have S := S2
    clear S2
    refine wpAny_execs_cons ?_
    wtm_at "wz"
    wtm_at "Rget"
    wtm_at "wz"
    obtain ⟨u1, u2, S1⟩ := eR_open (cv := cL2 el cap x.2.1 x.2.2) (fv := f x.2.1 x.2.2) (a := b.ea (x.2.1, x.2.2)) S (by wtm_at "take")
    clear S
    have S := S1
    clear S1
    wtm_at "wz"
    refine wpAny_execs_cons ?_
    wtm_at "wz"
    wtm_at "Rget"
    wtm_at "wz"
    have S1 := S.backX (l := el2) (f := fun e => eR c (b.ea e) (cL2 el cap e.1 e.2) (f e.1 e.2)) (u := (x.2.1, x.2.2)) (X := dS c (b.ea (x.2.1, x.2.2)) [("capacity", .int (cL2 el cap x.2.1 x.2.2) u1), ("flow", .int (f x.2.1 x.2.2) u2)]) (by wtm_at "take") (by wtm_at "take") (fun D hD => ⟨u1, u2, hD⟩) hin
    clear S
    have S := S1
    clear S1
    refine' t_subA (j := k) (xs := ys) (cap := roomC el cap) (ep := ep) S (rm.le (by omega)) ?za1 ?za2 ?za3 hro ?_
    case za1 => wtm_at "take"
    case za2 => wtm_at "take"
    case za3 => wtm_at "take"
    clear S; intro s tq S
    wtm_at "wz"
    have hcr : cL2 el cap x.2.1 x.2.2 = roomC el cap (x.2.1, x.2.2) := rfl
    have hle : f x.2.1 x.2.2 ≤ roomC el cap (x.2.1, x.2.2) := B.fl.cap _ hu _ hv
    have han : f x.2.1 x.2.2 + f x.2.2 x.2.1 = 0 := by have := B.fl.anti _ hu _ hv; omega
    rw [if_neg (by rw [hcr]; simp)]
    wtm_at "wz"
    refine' t_subA (j := k) (xs := ys) (cap := roomC el cap) (ep := ep) S (rm.le (by omega)) ?zb1 ?zb2 ?zb3 hro ?_
    case zb1 => wtm_at "take"
    case zb2 => wtm_at "take"
    case zb3 => wtm_at "take"
    clear S; intro s tq2 S
    wtm_at "wz"
    rw [if_neg (by simp; omega)]
    wtm_at "wz"
    wtm_at "Rget"
    wtm_at "wz"
    obtain ⟨u3, u4, S1⟩ := eR_open (cv := cL2 el cap x.2.2 x.2.1) (fv := f x.2.2 x.2.1) (a := b.ea (x.2.2, x.2.1)) S (by wtm_at "take")
    clear S
    have S := S1
    clear S1
    wtm_at "wz"
    have S1 := S.backX (l := el2) (f := fun e => eR c (b.ea e) (cL2 el cap e.1 e.2) (f e.1 e.2)) (u := (x.2.2, x.2.1)) (X := dS c (b.ea (x.2.2, x.2.1)) [("capacity", .int (cL2 el cap x.2.2 x.2.1) u3), ("flow", .int (f x.2.2 x.2.1) u4)]) (by wtm_at "take") (by wtm_at "take") (fun D hD => ⟨u3, u4, hD⟩) hin2
    clear S
    have S := S1
    clear S1
    rw [if_neg (by simp [han])]
    wtm_at "wz"
    refine wpAny_execs_nil ?_
    dsimp only
    refine wpAny_execs_cons ?_
    wtm_at "wz"
    refine' li_get (xs := zL n (netS ((ys.take i).map (·.2)) f)) (i := x.2.1) S ?zc1 rfl (zL_get hu) (by omega) ?_
    case zc1 => wtm_at "take"
    intro tg
    wtm_at "wz"
    refine' li_set (xs := zL n (netS ((ys.take i).map (·.2)) f)) (i := x.2.1) S ?zc2 rfl (by rw [zL_len]; exact hu) (by omega) ?_
    case zc2 => wtm_at "take"
    clear S; intro s S
    rw [zL_set, netS_step] at S
    wtm_at "wz"
    dsimp only
    refine wpAny_execs_cons ?_
    wtm_at "wz"
    refine' t_subA (j := k) (xs := ys) (cap := roomC el cap) (ep := ep) S (rm.le (by omega)) ?zd1 ?zd2 ?zd3 hro ?_
    case zd1 => wtm_at "take"
    case zd2 => wtm_at "take"
    case zd3 => wtm_at "take"
    clear S; intro s tq3 S
    wtm_at "wz"
    have eT : ((ys.take (i + 1)).map (·.2)) = (ys.take i).map (·.2) ++ [(x.2.1, x.2.2)] := by
      rw [List.take_add_one, hxi]; simp
    have eS : spareOf el cap f ((ys.take (i + 1)).map (·.2)) = spareOf el cap f ((ys.take i).map (·.2)) ++ if f x.2.1 x.2.2 < roomC el cap (x.2.1, x.2.2) then [(x.2.1, x.2.2)] else [] := by
      rw [eT]; unfold spareOf; rw [List.filter_append]; congr 1
      by_cases q : f x.2.1 x.2.2 < roomC el cap (x.2.1, x.2.2)
      · rw [if_pos q]; simp [q]
      · rw [if_neg q]; simp [q]
    by_cases hlt : f x.2.1 x.2.2 < roomC el cap (x.2.1, x.2.2)
    · rw [if_pos (by simpa using hlt)]
      rw [if_pos hlt] at eS
      have hzl : zs.length ≤ 200 := by
        have e1 : zs.length = (zs.map (·.2)).length := by rw [List.length_map]
        rw [e1, hzs]; unfold spareOf
        refine Nat.le_trans (List.length_filter_le _ _) ?_
        rw [List.length_map, List.length_take]; omega
      wtm_at "ww"
      dsimp only
      have S4 := ((S.take (X := tup nw [.int (x.2.1 : Nat) q1, .int (x.2.2 : Nat) q2]) (by wtm_at "take")).head_mono (X' := tR (nw, (x.2.1, x.2.2))) fun d h => ⟨q1, q2, h⟩).growE (l := zs) (u := (nw, (x.2.1, x.2.2))) (f := tR) (X := tR (nw, (x.2.1, x.2.2))) (by wtm_at "take") (by wtm_at "take") tR rfl (fun _ _ => rfl)
      clear S
      refine ⟨_, ⟨zs ++ [(nw, (x.2.1, x.2.2))], some (.int (f x.2.1 x.2.2) u2), some (.int x.2.1 q1), some (.int x.2.2 q2), ?_, rfl⟩, ?_⟩
      · rw [List.map_append, hzs, eS]; rfl
      · rw [List.map_append, List.map_cons, List.map_nil, eT]
        simp only [F516, List.cons_append, List.nil_append]
        wtm_at "fin"
    · rw [if_neg (by simpa using hlt)]
      rw [if_neg hlt, List.append_nil] at eS
      wtm_at "ww"
      dsimp only
      refine ⟨_, ⟨zs, some (.int (f x.2.1 x.2.2) u2), some (.int x.2.1 q1), some (.int x.2.2 q2), ?_, rfl⟩, ?_⟩
      · rw [hzs, eS]
      · rw [eT]
        simp only [F516, List.cons_append, List.nil_append]
        wtm_at "fin"
  · rintro _ s ⟨zs, va, v1, v2, hzs, rfl⟩ S
    rw [List.take_length] at hzs S
    simp only [F516, List.cons_append, List.nil_append] at S
    dsimp only
    refine' h _ na sa zs va v1 v2 hzs ?zz3
    case zz3 =>
      simp only [F516]
      wtm_at "fin"

/-! what passes through -/
section
variable {n s0 t0 : Nat} {el ro : List (Nat × Nat)} {cap : Nat × Nat → Int} {f : Nat → Nat → Int} {F : Int}
theorem off_room (B : Best n s0 t0 (cL2 el cap) f F) (hI : RoomI el ro) {x y : Nat} (hx : x < n) (hy : y < n) (h : (x, y) ∉ ro) : f x y = 0 ∧ cL2 el cap x y = 0 := by
  have h1 : (x, y) ∉ el := fun q => h ((hI _).mpr (.inl q))
  have h2 : (y, x) ∉ el := fun q => h ((hI _).mpr (.inr q))
  have c1 : cL2 el cap x y = 0 := by unfold cL2; rw [if_neg h1]
  have c2 : cL2 el cap y x = 0 := by unfold cL2; rw [if_neg h2]
  have g1 := B.fl.cap x hx y hy
  have g2 := B.fl.cap y hy x hx
  have g3 := B.fl.anti x hx y hy
  exact ⟨by omega, c1⟩
theorem room_lt (hI : RoomI el ro) (hel : ∀ e ∈ el, e.1 < n ∧ e.2 < n) {e : Nat × Nat} (h : e ∈ ro) : e.1 < n ∧ e.2 < n :=
  ((hI e).mp h).elim (hel e) fun q => ⟨(hel _ q).2, (hel _ q).1⟩
theorem netS_sum (B : Best n s0 t0 (cL2 el cap) f F) (hI : RoomI el ro) (hel : ∀ e ∈ el, e.1 < n ∧ e.2 < n) (hnd : ro.Nodup) {x : Nat} (hx : x < n) : netS ro f x = sN n (f x) := by
  unfold netS
  rw [sum_pairs (n := n) (g := fun e => f e.1 e.2) (hnd.filter _) fun e he => room_lt hI hel (List.mem_filter.mp he).1, sN_one hx]
  · refine sN_congr fun y hy => ?_
    by_cases q : (x, y) ∈ ro
    · rw [if_pos (List.mem_filter.mpr ⟨q, by simp⟩)]
    · rw [if_neg fun z => q (List.mem_filter.mp z).1]
      exact (off_room B hI hx hy q).1.symm
  · intro a ha hne
    refine sN_zero fun y hy => ?_
    rw [if_neg fun z => hne (by simpa using (List.mem_filter.mp z).2)]
theorem net_passed (B : Best n s0 t0 (cL2 el cap) f F) (hI : RoomI el ro) (hel : ∀ e ∈ el, e.1 < n ∧ e.2 < n) (hnd : ro.Nodup) (hst : s0 ≠ t0) :
    zL n (netS ro f) = zL n (updZ (updZ (fun _ => 0) s0 F) t0 (-F)) := by
  unfold zL
  refine List.map_congr_left fun x hx => ?_
  have hx := List.mem_range.mp hx
  rw [netS_sum B hI hel hnd hx, B.fl.net x hx]
  unfold updZ
  by_cases h1 : x = t0
  · subst h1
    rw [if_pos rfl, if_pos rfl, if_neg fun q => hst q.symm]; omega
  · rw [if_neg h1, if_neg h1]; simp
theorem spare_step (B : Best n s0 t0 (cL2 el cap) f F) (hI : RoomI el ro) : ∀ x < n, ∀ y < n, (x, y) ∈ spareOf el cap f ro ↔ f x y < cL2 el cap x y := by
  intro x hx y hy
  unfold spareOf
  rw [List.mem_filter, decide_eq_true_eq]
  constructor
  · exact fun h => h.2
  · intro h
    refine ⟨?_, h⟩
    apply Classical.byContradiction
    intro q
    have := off_room B hI hx hy q
    omega
end
theorem la_passed {c : Cx} {A : Around} {s : Shared} {R : List HP} {k n s0 t0 : Nat} {L td na : Addr} {g : Nat → Int} {F : Int} {tn ts tt : Tok} {l : Lo} {Q : Flow → Shared → Prop}
    (S : St c (frm L (F516 { l with n := some (.int (n : Nat) tn), s := some (.int (s0 : Nat) ts), t := some (.int (t0 : Nat) tt), told := some (.ref td), net := some (.ref na) }) :: li td [F] :: li na (zL n g) :: R) s)
    (rm : Rm A (k + 10)) (hA : A.handled = c.hx) (hx : c.hx = none) (hn : n ≤ 10) (hs0 : s0 < n) (ht0 : t0 < n) (hg : zL n g = zL n (updZ (updZ (fun _ => 0) s0 F) t0 (-F)))
    (h : ∀ s' vp, St c (frm L (F516 { l with n := some (.int (n : Nat) tn), s := some (.int (s0 : Nat) ts), t := some (.int (t0 : Nat) tt), told := some (.ref td), net := some (.ref na), passed := vp }) :: li td [F] :: R) s' → wpAny c.M A (execs (d516.1.body.drop 21) (env516 L)) Q NoE s') :
    wpAny c.M A (execs (d516.1.body.drop 17) (env516 L)) Q NoE s := by
  have hh := hA.trans hx
  dsimp only [d516, List.drop] at h ⊢
  simp only [F516] at S
  refine wpAny_execs_cons ?_
  wtm_at "wz"
  refine' li_new (v := .none) (x := 0) (k := (n : Int)) S ?zz0 (by omega) (by omega) ?_
  case zz0 => wtm_at "take"
  clear S; intro s pa S
  rw [Int.toNat_natCast, zL_rep] at S
  wtm_at "wz"
  dsimp only
  refine wpAny_execs_cons ?_
  wtm_at "wz"
  refine' li_sub (xs := [F]) (i := 0) S ?zz1 rfl rfl (by omega) ?_
  case zz1 => wtm_at "take"
  intro q0
  wtm_at "wz"
  refine' li_set (xs := zL n fun _ => 0) (i := s0) S ?zz2 rfl (by rw [zL_len]; exact hs0) (by omega) ?_
  case zz2 => wtm_at "take"
  clear S; intro s S
  rw [zL_set] at S
  dsimp only
  refine wpAny_execs_cons ?_
  wtm_at "wz"
  refine' li_sub (xs := [F]) (i := 0) S ?zz3 rfl rfl (by omega) ?_
  case zz3 => wtm_at "take"
  intro q1
  wtm_at "wz"
  refine' li_set (xs := zL n (updZ (fun _ => 0) s0 F)) (i := t0) S ?zz4 rfl (by rw [zL_len]; exact ht0) (by omega) ?_
  case zz4 => wtm_at "take"
  clear S; intro s S
  rw [zL_set] at S
  dsimp only
  refine wpAny_execs_cons ?_
  wtm_at "wz"
  refine' li_ne (xs := zL n g) (ys := zL n (updZ (updZ (fun _ => 0) s0 F) t0 (-F))) S (rm.le (by omega)) ?zz5 ?zz6 (by rw [zL_len, zL_len]) ?_
  case zz5 => wtm_at "take"
  case zz6 => wtm_at "take"
  rw [hg]
  wtm_at "wz"
  rw [if_neg (by simp)]
  wtm_at "wz"
  refine' li_sub (xs := [F]) (i := 0) S ?zz7 rfl rfl (by omega) ?_
  case zz7 => wtm_at "take"
  intro q2
  wtm_at "wz"
  refine wpAny_execs_nil ?_
  dsimp only
  refine' h _ (some (.ref pa)) ?zz8
  case zz8 =>
    simp only [F516]
    wtm_at "fin"

/-! the cuts, the least of them, the spread -/
theorem leastS_map {n s0 t0 : Nat} {el : List (Nat × Nat)} {cap : Nat × Nat → Int} {F : Int} :
    (((sidesOf n s0 t0).map fun m => (totS el cap m, (m : Int))).filter fun p : Int × Int => decide (p.1 = F)).map (·.2) = (leastS n s0 t0 el cap F).map fun m : Nat => (m : Int) := by
  unfold leastS
  rw [List.filter_map, List.map_map]
  rfl
theorem lex_le {p q : Int × Int} (h : lexB p q = false) : q.1 ≤ p.1 := by
  unfold lexB at h
  split at h
  · omega
  · simp at h; omega
theorem least_is {n s0 t0 : Nat} {el : List (Nat × Nat)} {cap : Nat × Nat → Int} {f : Nat → Nat → Int} {F : Int} {cs : List (Addr × (Int × Int))} {b : Addr × (Int × Int)} (B : Best n s0 t0 (cL2 el cap) f F) (hnd : el.Nodup) (hel : ∀ e ∈ el, e.1 < n ∧ e.2 < n)
    (hcs : cs.map (·.2) = (sidesOf n s0 t0).map fun m => (totS el cap m, (m : Int))) (hb : b ∈ cs) (hmin : ∀ x ∈ cs, lexB x.2 b.2 = false) : b.2.1 = F := by
  have h1 : b.2 ∈ cs.map (·.2) := List.mem_map.mpr ⟨b, hb, rfl⟩
  rw [hcs] at h1
  obtain ⟨m, hm, e⟩ := List.mem_map.mp h1
  have g1 := least_ge B hnd hel hm
  obtain ⟨m2, hm2, e2⟩ := least_at B hnd hel
  have h2 : ((totS el cap m2, (m2 : Int)) : Int × Int) ∈ cs.map (·.2) := by rw [hcs]; exact List.mem_map.mpr ⟨m2, hm2, rfl⟩
  obtain ⟨x, hx, ex⟩ := List.mem_map.mp h2
  have g2 := lex_le (hmin x hx)
  rw [ex, ← e] at g2
  rw [← e]
  dsimp only at g2 ⊢
  omega
theorem cs_pos {n s0 t0 : Nat} {el : List (Nat × Nat)} {cap : Nat × Nat → Int} {f : Nat → Nat → Int} {F : Int} {cs : List (Addr × (Int × Int))} (B : Best n s0 t0 (cL2 el cap) f F) (hnd : el.Nodup) (hel : ∀ e ∈ el, e.1 < n ∧ e.2 < n)
    (hcs : cs.map (·.2) = (sidesOf n s0 t0).map fun m => (totS el cap m, (m : Int))) : 0 < cs.length := by
  obtain ⟨m2, hm2, e2⟩ := least_at B hnd hel
  have e1 : cs.length = (cs.map (·.2)).length := by rw [List.length_map]
  rw [e1, hcs, List.length_map]
  exact List.length_pos_of_mem hm2
theorem cs_few {n s0 t0 : Nat} {el : List (Nat × Nat)} {cap : Nat × Nat → Int} {cs : List (Addr × (Int × Int))} (hn : n ≤ 10) (hcs : cs.map (·.2) = (sidesOf n s0 t0).map fun m => (totS el cap m, (m : Int))) : cs.length ≤ 1024 := by
  have e1 : cs.length = (cs.map (·.2)).length := by rw [List.length_map]
  rw [e1, hcs, List.length_map]
  unfold sidesOf
  refine Nat.le_trans (List.length_filter_le _ _) ?_
  rw [List.length_range]
  exact Nat.pow_le_pow_right (by decide) hn
theorem la_cuts {c : Cx} {A : Around} {s : Shared} {R : List HP} {k n s0 t0 : Nat} {L ld sa : Addr} {xs zs : List (Addr × (Nat × Nat))} {cap : Nat × Nat → Int} {f : Nat → Nat → Int} {F : Int} {tn ts tt : Tok} {v3 : Option Value} {l : Lo} {Q : Flow → Shared → Prop}
    (S : St c (frm L (F516 { l with n := some (.int (n : Nat) tn), s := some (.int (s0 : Nat) ts), t := some (.int (t0 : Nat) tt), laid := some (.ref ld), spare := some (.ref sa) }) :: cel (L + 3) v3 :: dT c ld xs cap :: fam xs tR :: lst sa (zs.map fun p => .ref p.1) :: fam zs tR :: R) s)
    (rm : Rm A (k + 10)) (hA : A.handled = c.hx) (hx : c.hx = none) (hn : n ≤ 10) (hxl : xs.length ≤ 100) (hel : ∀ e ∈ xs.map (·.2), e.1 < n ∧ e.2 < n) (hzs : ∀ x ∈ zs, x.2.1 < n ∧ x.2.2 < n) (B : Best n s0 t0 (cL2 (xs.map (·.2)) cap) f F)
    (h : ∀ s' ca sd ta t3, St c (frm L (F516 { l with n := some (.int (n : Nat) tn), s := some (.int (s0 : Nat) ts), t := some (.int (t0 : Nat) tt), laid := some (.ref ld), spare := some (.ref sa), cuts := some (.ref ca), sides := some (.ref sd), to := some (.ref ta) }) :: cel (L + 3) (some (.int F t3)) :: dT c ld xs cap :: fam xs tR ::
      li sd ((leastS n s0 t0 (xs.map (·.2)) cap F).map fun m : Nat => (m : Int)) :: li ta (toL n (spread n (zs.map (·.2)))) :: R) s' → wpAny c.M A (execs (d516.1.body.drop 25) (env516 L)) Q NoE s') :
    wpAny c.M A (execs (d516.1.body.drop 21) (env516 L)) Q NoE s := by
  have hh := hA.trans hx
  dsimp only [d516, List.drop] at h ⊢
  simp only [F516] at S
  have hnd := dT_nd (S.get (X := dT c ld xs cap) (by wtm_at "take"))
  refine wpAny_execs_cons ?_
  wtm_at "wz"
  refine' wpAny_call (law_cuts (k := k) (d := ld) (n := n) (s0 := s0) (t0 := t0) (xs := xs) (cap := cap) S (rm.le (by omega)) hA hx hn hxl ?zz1 ?_)
  case zz1 => wtm_at "takes"
  clear S
  intro s ca cs hcs S
  wtm_at "wz"
  dsimp only
  have hcl := cs_few hn hcs
  refine wpAny_execs_cons ?_
  wtm_at "wz"
  refine' min_tups (l := ca) (ts := cs) S (rm.le (by omega)) hh ?zz2 (cs_pos B hnd hel hcs) ?_
  case zz2 => wtm_at "takes"
  clear S
  intro s b hb hmin S
  have hbF := least_is B hnd hel hcs hb hmin
  wtm_at "wz"
  obtain ⟨⟨q1, q2⟩, S1⟩ := (S.take (X := tp2 b) (by wtm_at "take")).ofHead (f := fun p : Tok × Tok => tup b.1 [.int b.2.1 p.1, .int b.2.2 p.2]) (fun D ⟨t1, t2, h⟩ => ⟨(t1, t2), h⟩)
  clear S
  have S := S1
  clear S1
  dsimp only at S
  refine' tup_sub (l := b.1) (vs := [.int b.2.1 q1, .int b.2.2 q2]) (k := 0) S ?zz3 rfl rfl (by simp) ?_
  case zz3 => wtm_at "take"
  wtm_at "wz"
  have S2 := ((S.take (X := tup b.1 [.int b.2.1 q1, .int b.2.2 q2]) (by wtm_at "take")).head_mono (X' := tp2 b) fun d h => ⟨q1, q2, h⟩).shutS (l := cs) (f := tp2) (u := b) (by wtm_at "take") (by wtm_at "take") hb
  clear S
  have S := S2
  clear S2
  rw [hbF] at S
  dsimp only
  refine wpAny_execs_cons ?_
  refine Assign_ListComp_ ?_ (by rfl) (by rfl)
  wtm_at "ww"
  refine' comp_envU (oth := [(".0", none), ("total", none), ("side", none)]) S (by decide) rfl ?zz4 rfl ?zz5 ?_
  case zz4 => wtm_at "oth"
  case zz5 =>
    intro s' C S' Q E q
    refine' l_self (l := ca) (i := 0) S' ?zz6 Q E q
    case zz6 => wtm_at "take"
  clear S; intro s C S
  obtain ⟨sd, hsd⟩ : ∃ x, x = nw := ⟨_, rfl⟩
  rw [← hsd] at S
  rw [← hsd]
  have S1 := (S.take (X := lst sd []) (by wtm_at "take")).head_mono (X' := li sd []) fun D hD => ⟨[], ⟨rfl, by simp⟩, hD⟩
  clear S
  have S := S1
  clear S1
  refine' comp_loop (Ex := fun _ _ => []) (l_walk (it := it) (l := ca) (vs := cs.map fun p => Value.ref p.1) hh) (fun i P' => ∃ (vt vs : Option Value), P' = frm C [(".0", none), ("total", vt), ("side", vs)] :: li sd ((((cs.take i).map (·.2)).filter fun p : Int × Int => decide (p.1 = F)).map (·.2)) :: fam cs tp2 :: cel (L + 3) (some (.int F q1)) :: frm L (F516 { l with n := some (.int (n : Nat) tn), s := some (.int (s0 : Nat) ts), t := some (.int (t0 : Nat) tt), laid := some (.ref ld), spare := some (.ref sa), cuts := some (.ref ca) }) :: dT c ld xs cap :: fam xs tR :: lst sa (zs.map fun p => .ref p.1) :: fam zs tR :: R)
    (S.cov ?zz7) ⟨none, none, rfl⟩ ?_ ?_ ?_
  case zz7 =>
    simp only [F516, List.take_zero, List.map_nil, List.filter_nil]
    wtm_at "cov"
  · intro i v P' s hv S Q hq
    refine l_own S .head ?_ (hq _ S)
    rw [List.getElem?_map] at hv
    obtain ⟨x, -, rfl⟩ := Option.map_eq_some_iff.mp hv
    exact ⟨_, rfl⟩
  · clear S h
    rintro i hi _ s w ⟨vt, vs, rfl⟩ hw S
    rw [List.length_map] at hi
    obtain ⟨x, hxi⟩ : ∃ x, cs[i]? = some x := ⟨_, List.getElem?_eq_getElem hi⟩
    have hxm : x ∈ cs := List.mem_of_getElem? hxi
    rw [List.getElem?_map, hxi] at hw
    cases hw
    simp only [F516, List.cons_append, List.nil_append] at S
    obtain ⟨⟨p1, p2⟩, S1⟩ := (S.take (X := tp2 x) (by wtm_at "take")).ofHead (f := fun p : Tok × Tok => tup x.1 [.int x.2.1 p.1, .int x.2.2 p.2]) (fun D ⟨t1, t2, h⟩ => ⟨(t1, t2), h⟩)
    clear S
    have S := S1
    clear S1
    dsimp only at S
    wtm_at "ww"
    have S2 := ((S.take (X := tup x.1 [.int x.2.1 p1, .int x.2.2 p2]) (by wtm_at "take")).head_mono (X' := tp2 x) fun d h => ⟨p1, p2, h⟩).shutS (l := cs) (f := tp2) (u := x) (by wtm_at "take") (by wtm_at "take") hxm
    clear S
    have S := S2
    clear S2
    have htk : (((cs.take (i + 1)).map (·.2)).filter fun p : Int × Int => decide (p.1 = F)).map (·.2) = (((cs.take i).map (·.2)).filter fun p : Int × Int => decide (p.1 = F)).map (·.2) ++ if x.2.1 = F then [x.2.2] else [] := by
      rw [List.take_add_one, hxi, Option.toList_some, List.map_append, List.filter_append, List.map_append]
      congr 1
      by_cases q : x.2.1 = F
      · rw [if_pos q]; simp [q]
      · rw [if_neg q]; simp [q]
    by_cases q : x.2.1 = F
    · rw [if_pos (by simp [q])]
      rw [if_pos q] at htk
      wtm_at "ww"
      refine' li_append (xs := (((cs.take i).map (·.2)).filter fun p : Int × Int => decide (p.1 = F)).map (·.2)) S ?zd1 ?zd2 ?_
      case zd1 => wtm_at "take"
      case zd2 =>
        rw [List.length_map]
        refine Nat.le_trans (List.length_filter_le _ _) ?_
        rw [List.length_map, List.length_take]; omega
      clear S; intro s S
      refine ⟨_, ⟨some (.int x.2.1 p1), some (.int x.2.2 p2), rfl⟩, ?_⟩
      rw [htk]
      simp only [F516, List.cons_append, List.nil_append]
      wtm_at "fin"
    · rw [if_neg (by simp [q])]
      rw [if_neg q, List.append_nil] at htk
      refine ⟨_, ⟨some (.int x.2.1 p1), some (.int x.2.2 p2), rfl⟩, ?_⟩
      rw [htk]
      simp only [F516, List.cons_append, List.nil_append]
      wtm_at "fin"
  · rintro _ s ⟨vt, vs, rfl⟩ S
    rw [List.length_map, List.take_of_length_le (Nat.le_refl _), hcs, leastS_map] at S
    simp only [F516, List.cons_append, List.nil_append] at S
    refine ⟨rfl, ?_⟩
    wtm_at "ww"
    refine' fr_fin (C := C) S ?ze1 ?_
    case ze1 => wtm_at "take"
    clear S; intro s S
    dsimp only
    refine wpAny_execs_cons ?_
    wtm_at "wz"
    refine' wpAny_call (law_spread (k := k) (sa := sa) (n := n) (xs := zs) S (rm.le (by omega)) hA hx (by omega) hzs ?ze2 ?_)
    case ze2 => wtm_at "takes"
    clear S
    intro s ta S
    wtm_at "wz"
    dsimp only
    refine' h _ ca sd ta q1 ?ze3
    case ze3 =>
      simp only [F516]
      wtm_at "fin"

/-! what the arcs with room tell of every edge -/
theorem la_tell {c : Cx} {A : Around} {s : Shared} {R : List HP} {k n s0 t0 : Nat} {L ld sd ta : Addr} {xs : List (Addr × (Nat × Nat))} {cap : Nat × Nat → Int} {ms : List Nat} {to : Nat → Nat} {ts tt : Tok} {v1 v2 : Option Value} {l : Lo} {Q : Flow → Shared → Prop}
    (S : St c (frm L (F516 { l with s := some (.int (s0 : Nat) ts), t := some (.int (t0 : Nat) tt), laid := some (.ref ld), sides := some (.ref sd), to := some (.ref ta) }) :: cel (L + 1) v1 :: cel (L + 2) v2 :: dT c ld xs cap :: fam xs tR :: li sd (ms.map fun m : Nat => (m : Int)) :: li ta (toL n to) :: R) s)
    (rm : Rm A (k + 10)) (hA : A.handled = c.hx) (hx : c.hx = none) (hn : n ≤ 10) (hxl : xs.length ≤ 100) (hel : ∀ e ∈ xs.map (·.2), e.1 < n ∧ e.2 < n) (hs0 : s0 < n) (ht0 : t0 < n) (hms : ms.length ≤ 1024)
    (h1 : ∀ e ∈ xs.map (·.2), ((ms.filter fun m => crs m e).length = ms.length ↔ ((to s0).testBit e.1 = true ∧ (to e.2).testBit t0 = true)))
    (h2 : ∀ e ∈ xs.map (·.2), (0 < (ms.filter fun m => crs m e).length ↔ (to e.1).testBit e.2 = false))
    (h : ∀ s' vc v1 v2, St c (frm L (F516 { l with s := some (.int (s0 : Nat) ts), t := some (.int (t0 : Nat) tt), laid := some (.ref ld), sides := some (.ref sd), to := some (.ref ta), crossed := vc }) :: cel (L + 1) v1 :: cel (L + 2) v2 :: dT c ld xs cap :: fam xs tR :: R) s' → Q .next s') :
    wpAny c.M A (exec (stAt d516.1.body 25) (env516 L)) Q NoE s := by
  have hh := hA.trans hx
  dsimp only [d516, stAt, List.drop]
  simp only [F516] at S
  refine wpAny_For ?_
  wtm_at "wz"
  refine' iter_t (d := ld) (xs := xs) (cap := cap) S ?zz1 ?_
  case zz1 => wtm_at "take"
  clear S; intro s ito ep S
  refine' for_rule (Ex := fun _ _ => []) (t_iter (it := ito) (d := ld) (xs := xs) (cap := cap) (ep := ep) hh) (fun i P' => ∃ (vc v1 v2 : Option Value), 
      P' = frm L (F516 { l with s := some (.int (s0 : Nat) ts), t := some (.int (t0 : Nat) tt), laid := some (.ref ld), sides := some (.ref sd), to := some (.ref ta), crossed := vc }) :: cel (L + 1) v1 :: cel (L + 2) v2 :: fam xs tR :: li sd (ms.map fun m : Nat => (m : Int)) :: li ta (toL n to) :: R)
    (S.cov ?zz2) ⟨l.crossed, v1, v2, rfl⟩ ?_ ?_ ?_
  case zz2 =>
    simp only [F516, List.cons_append, List.nil_append]
    wtm_at "cov"
  · intro i v P' s hv S Q hq
    obtain ⟨x, -, rfl⟩ := hv
    exact k_own S .head (hq _ S)
  · clear S h
    rintro i hi _ s w ⟨vc, v1, v2, rfl⟩ ⟨x, hxi, rfl⟩ S
    have hxm : x ∈ xs := List.mem_of_getElem? hxi
    have hro : (x.2.1, x.2.2) ∈ xs.map (·.2) := List.mem_map.mpr ⟨x, hxm, rfl⟩
    obtain ⟨hu, hv⟩ := hel _ hro
    have g1 := h1 _ hro
    have g2 := h2 _ hro
    dsimp only at hu hv g1 g2
    simp only [F516, List.cons_append, List.nil_append] at S
    obtain ⟨⟨q1, q2⟩, S1⟩ := (S.take (X := tR x) (by wtm_at "take")).ofHead (f := fun p : Tok × Tok => tup x.1 [.int x.2.1 p.1, .int x.2.2 p.2]) (fun D ⟨t1, t2, h⟩ => ⟨(t1, t2), h⟩)
    clear S
    have S := S1
    clear S1
    dsimp only at S
    wtm_at "wz"
    have S2 := ((S.take (X := tup x.1 [.int x.2.1 q1, .int x.2.2 q2]) (by wtm_at "take")).head_mono (X' := tR x) fun d h => ⟨q1, q2, h⟩).shutS (l := xs) (f := tR) (u := x) (by wtm_at "take") (by wtm_at "take") hxm
    clear S
    have S := S2
    clear S2
    refine wpAny_execs_cons ?_
    refine Assign_ListComp_ ?_ (by rfl) (by rfl)
    obtain ⟨vs, hvs, S1⟩ := S.openLi (a := sd) (xs := ms.map fun m : Nat => (m : Int)) (by wtm_at "take")
    clear S
    have S := S1
    clear S1
    have hvl : vs.length = ms.length := by rw [hvs.1, List.length_map]
    wtm_at "ww"
    obtain ⟨cr, hcr⟩ : ∃ x, x = nw := ⟨_, rfl⟩
    rw [← hcr] at S
    rw [← hcr]
    refine' comp_envU (oth := [(".0", none), ("side", none)]) S (by decide) rfl ?zz4 rfl ?zz5 ?_
    case zz4 => wtm_at "oth"
    case zz5 =>
      intro s' C S' Q E q
      refine' l_self (l := sd) (i := 0) S' ?zz6 Q E q
      case zz6 => wtm_at "take"
    clear S; intro s C S
    have S1 := (S.take (X := lst cr []) (by wtm_at "take")).head_mono (X' := li cr []) fun D hD => ⟨[], ⟨rfl, by simp⟩, hD⟩
    clear S
    have S := S1
    clear S1
    refine' comp_loop (Ex := fun _ _ => []) (l_walk (it := it) (l := sd) (vs := vs) hh) (fun j P' => ∃ (vx : Option Value), P' = frm C [(".0", none), ("side", vx)] :: li cr (((ms.take j).filter fun m => crs m (x.2.1, x.2.2)).map fun m : Nat => (m : Int)) ::
        kIt ito ld (i + 1) xs.length ep :: dTa c ld xs cap ep :: frm L (F516 { l with s := some (.int (s0 : Nat) ts), t := some (.int (t0 : Nat) tt), laid := some (.ref ld), sides := some (.ref sd), to := some (.ref ta), crossed := vc }) :: cel (L + 1) (some (.int x.2.1 q1)) :: cel (L + 2) (some (.int x.2.2 q2)) :: fam xs tR :: li ta (toL n to) :: R)
      (S.cov ?zz7) ⟨none, rfl⟩ ?_ ?_ ?_
    case zz7 =>
      simp only [F516, List.take_zero, List.map_nil, List.filter_nil]
      wtm_at "cov"
    · intro i v P' s hv S Q hq
      exact own_name (hq _ S)
    · clear S
      rintro j hj _ s w ⟨vx, rfl⟩ hw S
      obtain ⟨m, hm⟩ : ∃ m, ms[j]? = some m := ⟨_, List.getElem?_eq_getElem (by omega)⟩
      obtain ⟨tm, htm⟩ := hvs.2 j (m : Int) (by rw [List.getElem?_map, hm]; rfl)
      rw [htm] at hw
      cases hw
      have htk : ((ms.take (j + 1)).filter fun m => crs m (x.2.1, x.2.2)).map (fun m : Nat => (m : Int)) = ((ms.take j).filter fun m => crs m (x.2.1, x.2.2)).map (fun m : Nat => (m : Int)) ++ if crs m (x.2.1, x.2.2) = true then [(m : Int)] else [] := by
        rw [List.take_add_one, hm, Option.toList_some, List.filter_append, List.map_append]
        congr 1
        by_cases q : crs m (x.2.1, x.2.2) = true
        · rw [if_pos q]; simp [q]
        · rw [if_neg q]; simp [q]
      simp only [F516, List.cons_append, List.nil_append] at S
      wtm_at "ww"
      rw [bit1]
      by_cases b1 : m.testBit x.2.1 = true
      · rw [if_pos b1]
        wtm_at "ww"
        rw [bit0]
        by_cases b2 : m.testBit x.2.2 = true
        · rw [if_neg (by simp [b2])]
          wtm_at "ww"
          rw [if_neg (by simp [crs, b2]), List.append_nil] at htk
          refine ⟨_, ⟨some (.int (m : Nat) tm), rfl⟩, ?_⟩
          rw [htk]
          simp only [F516, List.cons_append, List.nil_append]
          wtm_at "fin"
        · rw [if_pos (by simp [b2])]
          rw [if_pos (by simp at b2; simp [crs, b1, b2])] at htk
          wtm_at "ww"
          refine' li_append (xs := ((ms.take j).filter fun m => crs m (x.2.1, x.2.2)).map fun m : Nat => (m : Int)) S ?zd1 ?zd2 ?_
          case zd1 => wtm_at "take"
          case zd2 =>
            rw [List.length_map]
            refine Nat.le_trans (List.length_filter_le _ _) ?_
            rw [List.length_take]; omega
          clear S; intro s S
          refine ⟨_, ⟨some (.int (m : Nat) tm), rfl⟩, ?_⟩
          rw [htk]
          simp only [F516, List.cons_append, List.nil_append]
          wtm_at "fin"
      · rw [if_neg b1]
        wtm_at "ww"
        rw [if_neg (by simp [crs, b1]), List.append_nil] at htk
        refine ⟨_, ⟨some (.int (m : Nat) tm), rfl⟩, ?_⟩
        rw [htk]
        simp only [F516, List.cons_append, List.nil_append]
        wtm_at "fin"
    · rintro _ s ⟨vx, rfl⟩ S
      rw [hvl, List.take_length] at S
      simp only [F516, List.cons_append, List.nil_append] at S
      have S1 := (S.take (X := lst sd vs) (by wtm_at "take")).head_mono (X' := li sd (ms.map fun m : Nat => (m : Int))) fun D hD => ⟨vs, hvs, hD⟩
      clear S
      have S := S1
      clear S1
      refine ⟨rfl, ?_⟩
      wtm_at "ww"
      refine' fr_fin (C := C) S ?ze1 ?_
      case ze1 => wtm_at "take"
      clear S; intro s S
      dsimp only
      have hfl : (ms.filter fun m => crs m (x.2.1, x.2.2)).length ≤ 1024 := Nat.le_trans (List.length_filter_le _ _) hms
      refine wpAny_execs_cons ?_
      wtm_at "wz"
      refine' li_sub (xs := toL n to) (i := s0) S ?zf1 rfl (toL_get hs0) (by omega) ?_
      case zf1 => wtm_at "take"
      intro p1
      wtm_at "wz"
      rw [bit1]
      have e1 : ((((ms.filter fun m => crs m (x.2.1, x.2.2)).map fun m : Nat => (m : Int)).length : Int) == ((ms.map fun m : Nat => (m : Int)).length : Int)) = decide ((ms.filter fun m => crs m (x.2.1, x.2.2)).length = ms.length) := by
        rw [List.length_map, List.length_map, Bool.eq_iff_iff, beq_iff_eq, decide_eq_true_eq]; omega
      have e2 : decide ((0 : Int) < ((((ms.filter fun m => crs m (x.2.1, x.2.2)).map fun m : Nat => (m : Int)).length : Nat) : Int)) = decide (0 < (ms.filter fun m => crs m (x.2.1, x.2.2)).length) := by
        rw [List.length_map, decide_eq_decide]; omega
      rw [e1]
      simp only [g1]
      by_cases b1 : (to s0).testBit x.2.1 = true
      · rw [if_pos b1]
        wtm_at "wz"
        refine' li_sub (xs := toL n to) (i := x.2.2) S ?zf2 rfl (toL_get hv) (by omega) ?_
        case zf2 => wtm_at "take"
        intro p2
        wtm_at "wz"
        rw [bit1]
        rw [if_neg (by simp [b1])]
        wtm_at "wz"
        refine wpAny_execs_nil ?_
        dsimp only
        refine wpAny_execs_cons ?_
        wtm_at "wz"
        refine' li_sub (xs := toL n to) (i := x.2.1) S ?zf3 rfl (toL_get hu) (by omega) ?_
        case zf3 => wtm_at "take"
        intro p3
        wtm_at "wz"
        rw [bit0, e2]
        rw [if_neg (by simp only [g2]; cases (to x.2.1).testBit x.2.2 <;> simp)]
        wtm_at "ww"
        dsimp only
        refine ⟨_, ⟨some (.ref cr), some (.int x.2.1 q1), some (.int x.2.2 q2), rfl⟩, ?_⟩
        simp only [F516, List.cons_append, List.nil_append]
        wtm_at "fin"
      · rw [if_neg b1]
        wtm_at "wz"
        rw [if_neg (by simp [b1])]
        wtm_at "wz"
        refine wpAny_execs_nil ?_
        dsimp only
        refine wpAny_execs_cons ?_
        wtm_at "wz"
        refine' li_sub (xs := toL n to) (i := x.2.1) S ?zf3 rfl (toL_get hu) (by omega) ?_
        case zf3 => wtm_at "take"
        intro p3
        wtm_at "wz"
        rw [bit0, e2]
        rw [if_neg (by simp only [g2]; cases (to x.2.1).testBit x.2.2 <;> simp)]
        wtm_at "ww"
        dsimp only
        refine ⟨_, ⟨some (.ref cr), some (.int x.2.1 q1), some (.int x.2.2 q2), rfl⟩, ?_⟩
        simp only [F516, List.cons_append, List.nil_append]
        wtm_at "fin"
  · rintro _ s ⟨vc, v1, v2, rfl⟩ S
    simp only [F516, List.cons_append, List.nil_append] at S
    dsimp only
    refine' h _ vc v1 v2 ?zz3
    case zz3 =>
      simp only [F516]
      wtm_at "fin"

/-! x, y, z -/
theorem li_last {c : Cx} {A : Around} {E : Value → Shared → Prop} {s : Shared} {P R : List HP} {l : Addr} {xs : List Int} {x k : Int} {t : Tok} {value slice : Expr} {Q : Value → Shared → Prop} (S : St c P s) (tk : Take (li l xs) P R) (hk : k = -1) (hx : xs[xs.length - 1]? = some x) (hz : xs.length ≤ 100000) (h : ∀ t, Q (.int x t) s)
    (hs : subscripted slice false (.ref l) (.int k t) = operate [.ref l, .int k t] (getItem (.ref l) (.int k t)) := by with_unfolding_all rfl) : wpAny c.M A (subscriptTail value slice (.ref l) (.int k t)) Q E s := by
  obtain ⟨vs, hv, S1⟩ := S.openLi tk
  obtain ⟨tv, hv2⟩ := hv.2 _ x hx
  exact tail_any (lst_isList (S1.get (X := lst l vs) .head)).typeIs slot_list_getitem.lookup (l_neg S1 .head hk (by rw [hv.1]; exact hv2) (h tv) (by have := hv.1; omega)) hs
theorem la_xyz {c : Cx} {A : Around} {s : Shared} {R : List HP} {L ra : Addr} {rows : List Int} {l : Lo} {Q : Flow → Shared → Prop}
    (S : St c (frm L (F516 { l with rows := some (.ref ra) }) :: li ra rows :: R) s) (hA : A.handled = c.hx) (hx : c.hx = none) (hr : rows.length ≤ 28)
    (h : ∀ s' (x y z : Int) t1 t2 t3, St c (frm L (F516 { l with rows := some (.ref ra), x := some (.int x t1), y := some (.int y t2), z := some (.int z t3) }) :: R) s' → wpAny c.M A (execs (d516.1.body.drop 29) (env516 L)) Q NoE s') :
    wpAny c.M A (execs (d516.1.body.drop 26) (env516 L)) Q NoE s := by
  have hh := hA.trans hx
  dsimp only [d516, List.drop] at h ⊢
  simp only [F516] at S
  have pos : ∀ {b : Bool}, (rows.length != 0) = b → b = true → 0 < rows.length := fun {b} e q => by
    subst q; simp only [bne_iff_ne, ne_eq] at e; omega
  refine wpAny_execs_cons ?_
  wtm_at "wz"
  refine' ite_int S (fun hb => ?_) (fun hb => ?_) ?_
  · have hp := pos rfl hb
    wtm_at "wz"
    obtain ⟨x, hx0⟩ := get_of_len (xs := rows) (i := rows.length - 1) (by omega)
    refine' li_last (xs := rows) S ?zz1 rfl hx0 (by omega) ?_
    case zz1 => wtm_at "take"
    intro tx
    exact int_end S
  · wtm_at "wz"
    exact int_end S
  clear S
  intro x tx s S
  wtm_at "wz"
  dsimp only
  refine wpAny_execs_cons ?_
  wtm_at "wz"
  refine' ite_int S (fun hb => ?_) (fun hb => ?_) ?_
  · have hp := pos rfl hb
    wtm_at "wz"
    obtain ⟨y, hy0⟩ := get_of_len (xs := rows) (i := rows.length / 2) (by omega)
    refine' li_sub (xs := rows) (i := rows.length / 2) S ?zz2 (by omega) hy0 (by omega) ?_
    case zz2 => wtm_at "take"
    intro ty
    exact int_end S
  · wtm_at "wz"
    exact int_end S
  clear S
  intro y ty s S
  wtm_at "wz"
  dsimp only
  refine wpAny_execs_cons ?_
  wtm_at "wz"
  refine' ite_int S (fun hb => ?_) (fun hb => ?_) ?_
  · have hp := pos rfl hb
    wtm_at "wz"
    obtain ⟨z, hz0⟩ := get_of_len (xs := rows) (i := rows.length / 3) (by omega)
    refine' li_sub (xs := rows) (i := rows.length / 3) S ?zz3 (by omega) hz0 (by omega) ?_
    case zz3 => wtm_at "take"
    intro tz
    exact int_end S
  · wtm_at "wz"
    exact int_end S
  clear S
  intro z tz s S
  wtm_at "wz"
  dsimp only
  refine' h _ x y z tx ty tz ?zz4
  case zz4 =>
    simp only [F516]
    wtm_at "fin"

/-! one change -/
def elseOf : Stmt → List Stmt
  | .If _ _ e _ => e
  | _ => []
noncomputable def LaS (c : Cx) (L ld : Addr) (l : Lo) (n s0 t0 : Nat) (ts tt : Tok) (a : GA) (V : GV) (xs : List (Addr × (Nat × Nat))) (cap : Nat × Nat → Int) (v1 v2 : Option Value) : List HP :=
  frm L (F516 { l with s := some (.int (s0 : Nat) ts), t := some (.int (t0 : Nat) tt), G := some (.ref a.g), laid := some (.ref ld) }) :: cel (L + 1) v1 :: cel (L + 2) v2 :: dT c ld xs cap :: fam xs tR :: graphR c a V
theorem la_add {c : Cx} {A : Around} {s : Shared} {R : List HP} {k n s0 t0 : Nat} {L ld : Addr} {a : GA} {V : GV} {xs : List (Addr × (Nat × Nat))} {cap : Nat × Nat → Int} {z : Int} {ts tt tz : Tok} {v1 v2 : Option Value} {l : Lo} {Q : Flow → Shared → Prop}
    (S : St c (LaS c L ld { l with z := some (.int z tz) } n s0 t0 ts tt a V xs cap v1 v2 ++ R) s)
    (rm : Rm A (k + 20)) (hA : A.handled = c.hx) (hx : c.hx = none) (I : LInv n V (xs.map (·.2)) cap) (hVl : V.el.length ≤ 8) (hxl : xs.length ≤ 8) (hs0 : s0 < n) (ht0 : t0 < n) (hst : s0 ≠ t0)
    (h : ∀ s' b W xs cap, b.g = a.g → LInv n W (xs.map (·.2)) cap → W.el.length ≤ 9 → xs.length ≤ 9 → St c (LaS c L ld { l with z := some (.int z tz) } n s0 t0 ts tt b W xs cap v1 v2 ++ R) s' → Q .next s') :
    wpAny c.M A (execs (bodyOf (stAt d516.1.body 29)) (env516 L)) Q NoE s := by
  have hh := hA.trans hx
  dsimp only [d516, stAt, bodyOf, List.drop]
  simp only [LaS, F516, graphR, List.cons_append, List.nil_append] at S
  refine wpAny_execs_cons ?_
  wtm_at "wz"
  refine' t_set (j := k) (xs := xs) (cap := cap) S (rm.le (by omega)) ?za1 ?za2 ?za3 (by omega) ?_
  case za1 => wtm_at "take"
  case za2 => wtm_at "take"
  case za3 => wtm_at "take"
  clear S; intro s xs2 hxs2 S
  dsimp only
  refine wpAny_execs_cons ?_
  wtm_at "wz"
  have hatt2 : ∀ e ∈ V.el, (V.eattr e).length ≤ 100 := fun e he => by obtain ⟨t, h, _⟩ := I.at_ e he; rw [h]; simp
  refine' wpAny_call (di_add_edge (k := k) (a := a) (V := V) S (rm.le (by omega)) hA I.ok I.na hatt2 (by rw [I.hn]; exact hs0) (by rw [I.hn]; exact ht0) ?zz7 ?_)
  case zz7 => wtm_at "takes"
  clear S; intro s x1 S
  dsimp only
  obtain ⟨b2, hb2, hg2⟩ : ∃ b2, b2 = a.edge (s0, t0) x1 ∧ b2.g = a.g := ⟨_, rfl, rfl⟩
  have J := I.put (t := t) (w := 1 + (z.natAbs : Int)) hs0 ht0 (by omega) (by omega)
  have hWl2 : (V.put (s0, t0) (.int (1 + (z.natAbs : Int)) t)).el.length ≤ 9 := by
    rw [put_el]; unfold insP; split
    · omega
    · rw [List.length_append, List.length_singleton]; omega
  obtain ⟨W2, hW2⟩ : ∃ W2, W2 = V.put (s0, t0) (.int (1 + (z.natAbs : Int)) t) := ⟨_, rfl⟩
  rw [← hb2, ← hW2] at S
  rw [← hW2] at J hWl2
  rw [if_neg hst, ← hxs2] at J
  have hxl2 : xs2.length ≤ 9 := by
    have e1 : xs2.length = (xs2.map (·.2)).length := by rw [List.length_map]
    rw [e1, hxs2]; unfold insP; split
    · rw [List.length_map]; omega
    · rw [List.length_append, List.length_map, List.length_singleton]; omega
  refine wpAny_execs_nil ?_
  rw [← hg2] at S
  refine' h _ b2 W2 xs2 _ hg2 J hWl2 hxl2 ?zz8
  case zz8 =>
    simp only [LaS, F516, graphR, List.cons_append, List.nil_append] at S ⊢
    wtm_at "fin"
theorem la_pop {c : Cx} {A : Around} {s : Shared} {R : List HP} {k n s0 t0 u v : Nat} {L ld : Addr} {a : GA} {V : GV} {xs : List (Addr × (Nat × Nat))} {cap : Nat × Nat → Int} {ts tt tu tv : Tok} {l : Lo} {Q : Flow → Shared → Prop}
    (S : St c (LaS c L ld l n s0 t0 ts tt a V xs cap (some (.int (u : Nat) tu)) (some (.int (v : Nat) tv)) ++ R) s)
    (rm : Rm A (k + 20)) (hA : A.handled = c.hx) (hx : c.hx = none) (I : LInv n V (xs.map (·.2)) cap) (hVl : V.el.length ≤ 8) (hxl : xs.length ≤ 8) (huv : (u, v) ∈ xs.map (·.2))
    (h : ∀ s' W xs, LInv n W (xs.map (·.2)) cap → W.el.length ≤ 9 → xs.length ≤ 9 → St c (LaS c L ld l n s0 t0 ts tt a W xs cap (some (.int (u : Nat) tu)) (some (.int (v : Nat) tv)) ++ R) s' → Q .next s') :
    wpAny c.M A (execs (bodyOf (stAt (elseOf (stAt d516.1.body 29)) 1)) (env516 L)) Q NoE s := by
  have hh := hA.trans hx
  dsimp only [d516, stAt, bodyOf, elseOf, List.drop]
  simp only [LaS, F516, graphR, List.cons_append, List.nil_append] at S
  refine wpAny_execs_cons ?_
  wtm_at "wz"
  refine' t_popI (j := k) (xs := xs) (cap := cap) S (rm.le (by omega)) ?za1 ?za2 ?za3 (by omega) huv ?_
  case za1 => wtm_at "take"
  case za2 => wtm_at "take"
  case za3 => wtm_at "take"
  clear S; intro s xs2 z tz hxs2 S
  dsimp only
  refine wpAny_execs_cons ?_
  wtm_at "wz"
  refine' wpAny_call (di_remove_edge (k := k) (a := a) (V := V) S (rm.le (by omega)) hA I.ok ((I.mem _).mp huv).1 ?zz7 ?_)
  case zz7 => wtm_at "takes"
  clear S; intro s S
  dsimp only
  have J := I.out (e := (u, v))
  rw [← hxs2] at J
  refine wpAny_execs_nil ?_
  refine' h _ (V.out (u, v)) xs2 J (Nat.le_trans (List.length_filter_le _ _) (by omega)) ?zl ?zz8
  case zl =>
    have e1 : xs2.length = (xs2.map (·.2)).length := by rw [List.length_map]
    rw [e1, hxs2]
    refine Nat.le_trans (List.length_filter_le _ _) ?_
    rw [List.length_map]; omega
  case zz8 =>
    simp only [LaS, F516, graphR, List.cons_append, List.nil_append] at S ⊢
    wtm_at "fin"
theorem la_set {c : Cx} {A : Around} {s : Shared} {R : List HP} {k n s0 t0 u v : Nat} {L ld : Addr} {a : GA} {V : GV} {xs : List (Addr × (Nat × Nat))} {cap : Nat × Nat → Int} {y z : Int} {ts tt tu tv ty tz : Tok} {l : Lo} {Q : Flow → Shared → Prop}
    (S : St c (LaS c L ld { l with y := some (.int y ty), z := some (.int z tz) } n s0 t0 ts tt a V xs cap (some (.int (u : Nat) tu)) (some (.int (v : Nat) tv)) ++ R) s)
    (rm : Rm A (k + 20)) (hA : A.handled = c.hx) (hx : c.hx = none) (I : LInv n V (xs.map (·.2)) cap) (hVl : V.el.length ≤ 8) (hxl : xs.length ≤ 8) (huv : (u, v) ∈ xs.map (·.2))
    (h : ∀ s' b W xs cap, b.g = a.g → LInv n W (xs.map (·.2)) cap → W.el.length ≤ 9 → xs.length ≤ 9 → St c (LaS c L ld { l with y := some (.int y ty), z := some (.int z tz) } n s0 t0 ts tt b W xs cap (some (.int (u : Nat) tu)) (some (.int (v : Nat) tv)) ++ R) s' → Q .next s') :
    wpAny c.M A (execs (elseOf (stAt (elseOf (stAt d516.1.body 29)) 1)) (env516 L)) Q NoE s := by
  have hh := hA.trans hx
  have hpos := I.pos huv
  have hlt := I.lt huv
  have hne := ((I.mem _).mp huv).2
  dsimp only at hlt hne
  dsimp only [d516, stAt, bodyOf, elseOf, List.drop]
  simp only [LaS, F516, graphR, List.cons_append, List.nil_append] at S
  refine wpAny_execs_cons ?_
  wtm_at "wz"
  refine' ite_intP S (fun m => 1 ≤ m) (fun _ => ?_) (fun _ => ?_) ?_
  · wtm_at "wz"
    refine' t_sub (j := k) (xs := xs) (cap := cap) S (rm.le (by omega)) ?za1 ?za2 ?za3 huv ?_
    case za1 => wtm_at "take"
    case za2 => wtm_at "take"
    case za3 => wtm_at "take"
    clear S; intro s tq S
    wtm_at "wz"
    refine' int_endP ?zs1 (by omega)
    case zs1 => wtm_at "fin"
  · wtm_at "wz"
    refine' t_sub (j := k) (xs := xs) (cap := cap) S (rm.le (by omega)) ?zb1 ?zb2 ?zb3 huv ?_
    case zb1 => wtm_at "take"
    case zb2 => wtm_at "take"
    case zb3 => wtm_at "take"
    clear S; intro s tq S
    wtm_at "wz"
    refine' int_endP ?zs2 (by have := Int.emod_nonneg z (b := cap (u, v)) (by omega); omega)
    case zs2 => wtm_at "fin"
  · clear S
    intro w tw s hw S
    wtm_at "wz"
    refine' t_set (j := k) (xs := xs) (cap := cap) S (rm.le (by omega)) ?zc1 ?zc2 ?zc3 (by omega) ?_
    case zc1 => wtm_at "take"
    case zc2 => wtm_at "take"
    case zc3 => wtm_at "take"
    clear S; intro s xs2 hxs2 S
    have huv2 : (u, v) ∈ xs2.map (·.2) := by rw [hxs2]; exact insP_mem.mpr (.inl huv)
    dsimp only
    refine wpAny_execs_cons ?_
    wtm_at "wz"
    refine' t_sub (j := k) (xs := xs2) (cap := updE cap (u, v) w) S (rm.le (by omega)) ?zd1 ?zd2 ?zd3 huv2 ?_
    case zd1 => wtm_at "take"
    case zd2 => wtm_at "take"
    case zd3 => wtm_at "take"
    clear S; intro s t9 S
    rw [updE_self]
    wtm_at "wz"
    have hatt2 : ∀ e ∈ V.el, (V.eattr e).length ≤ 100 := fun e he => by obtain ⟨t, h, _⟩ := I.at_ e he; rw [h]; simp
    refine' wpAny_call (di_add_edge (k := k) (a := a) (V := V) S (rm.le (by omega)) hA I.ok I.na hatt2 (by rw [I.hn]; exact hlt.1) (by rw [I.hn]; exact hlt.2) ?zz7 ?_)
    case zz7 => wtm_at "takes"
    clear S; intro s x1 S
    dsimp only
    obtain ⟨b2, hb2, hg2⟩ : ∃ b2, b2 = a.edge (u, v) x1 ∧ b2.g = a.g := ⟨_, rfl, rfl⟩
    have J := I.put (t := t9) (w := w) hlt.1 hlt.2 hw (by omega)
    have hWl2 : (V.put (u, v) (.int w t9)).el.length ≤ 9 := by
      rw [put_el]; unfold insP; split
      · omega
      · rw [List.length_append, List.length_singleton]; omega
    obtain ⟨W2, hW2⟩ : ∃ W2, W2 = V.put (u, v) (.int w t9) := ⟨_, rfl⟩
    rw [← hb2, ← hW2] at S
    rw [← hW2] at J hWl2
    rw [if_neg hne, ← hxs2] at J
    have hxl2 : xs2.length ≤ 9 := by
      have e1 : xs2.length = (xs2.map (·.2)).length := by rw [List.length_map]
      rw [e1, hxs2]; unfold insP
      rw [if_pos huv, List.length_map]; omega
    refine wpAny_execs_nil ?_
    rw [← hg2] at S
    refine' h _ b2 W2 xs2 _ hg2 J hWl2 hxl2 ?zz8
    case zz8 =>
      simp only [LaS, F516, graphR, List.cons_append, List.nil_append] at S ⊢
      wtm_at "fin"

theorem la_change {c : Cx} {A : Around} {s : Shared} {R : List HP} {k n s0 t0 : Nat} {L ld : Addr} {a : GA} {V : GV} {xs : List (Addr × (Nat × Nat))} {cap : Nat × Nat → Int} {x y z : Int} {ts tt tx ty tz : Tok} {v1 v2 : Option Value} {l : Lo} {Q : Flow → Shared → Prop}
    (S : St c (LaS c L ld { l with x := some (.int x tx), y := some (.int y ty), z := some (.int z tz) } n s0 t0 ts tt a V xs cap v1 v2 ++ R) s)
    (rm : Rm A (k + 20)) (hA : A.handled = c.hx) (hx : c.hx = none) (I : LInv n V (xs.map (·.2)) cap) (hVl : V.el.length ≤ 8) (hxl : xs.length ≤ 8) (hs0 : s0 < n) (ht0 : t0 < n) (hst : s0 ≠ t0)
    (h : ∀ s' b W xs cap v1 v2, b.g = a.g → LInv n W (xs.map (·.2)) cap → W.el.length ≤ 9 → xs.length ≤ 9 →
      St c (LaS c L ld { l with x := some (.int x tx), y := some (.int y ty), z := some (.int z tz) } n s0 t0 ts tt b W xs cap v1 v2 ++ R) s' → Q .next s') :
    wpAny c.M A (exec (stAt d516.1.body 29) (env516 L)) Q NoE s := by
  have hh := hA.trans hx
  have add : ∀ {s' : Shared}, St c (LaS c L ld { l with x := some (.int x tx), y := some (.int y ty), z := some (.int z tz) } n s0 t0 ts tt a V xs cap v1 v2 ++ R) s' → wpAny c.M A (execs (bodyOf (stAt d516.1.body 29)) (env516 L)) Q NoE s' := fun S => 
    la_add (k := k) (l := { l with x := some (.int x tx), y := some (.int y ty) }) S rm hA hx I hVl hxl hs0 ht0 hst fun s' b W xs cap g1 g2 g3 g4 S' => h s' b W xs cap v1 v2 g1 g2 g3 g4 S'
  have pop := @la_pop
  have set := @la_set
  dsimp only [d516, stAt, bodyOf, elseOf, List.drop] at add pop set ⊢
  simp only [LaS, F516, graphR, List.cons_append, List.nil_append] at S
  wtm_at "wz"
  by_cases hy : y % 4 = 3
  · rw [if_pos (by simp [hy])]
    wtm_at "wz"
    exact add S
  · rw [if_neg (by simp [hy])]
    wtm_at "wz"
    by_cases hl0 : xs.length = 0
    · rw [if_pos (by simp [hl0])]
      wtm_at "wz"
      exact add S
    · have hpos : 0 < xs.length := by omega
      rw [if_neg (by simp only [Bool.not_eq_true', bne_eq_false_iff_eq]; exact hl0)]
      wtm_at "wz"
      refine wpAny_execs_cons ?_
      wtm_at "wz"
      refine' sorted_T (d := ld) (xs := xs) (cap := cap) S hh ?za1 (by omega) ?_
      case za1 => wtm_at "takes"
      clear S; intro s sl vs hvl hvs S
      have hm0 := Int.emod_nonneg x (b := (xs.length : Int)) (by omega)
      have hm1 := Int.emod_lt_of_pos x (b := (xs.length : Int)) (by omega)
      have hq : (x % (xs.length : Int)).toNat < vs.length := by omega
      obtain ⟨p, hp, hpv⟩ := hvs _ (List.getElem_mem hq)
      have hvx : vs[(x % (xs.length : Int)).toNat]? = some (.ref p.1) := by rw [List.getElem?_eq_getElem hq, hpv]
      wtm_at "wz"
      · exact hvx
      rotate_left
      · exact hm0
      · omega
      have hro : (p.2.1, p.2.2) ∈ xs.map (·.2) := List.mem_map.mpr ⟨p, hp, rfl⟩
      obtain ⟨⟨q1, q2⟩, S1⟩ := (S.take (X := tR p) (by wtm_at "take")).ofHead (f := fun r : Tok × Tok => tup p.1 [.int p.2.1 r.1, .int p.2.2 r.2]) (fun D ⟨t1, t2, h⟩ => ⟨(t1, t2), h⟩)
      clear S
      have S := S1
      clear S1
      dsimp only at S
      wtm_at "wz"
      have S2 := ((S.take (X := tup p.1 [.int p.2.1 q1, .int p.2.2 q2]) (by wtm_at "take")).head_mono (X' := tR p) fun d h => ⟨q1, q2, h⟩).shutS (l := xs) (f := tR) (u := p) (by wtm_at "take") (by wtm_at "take") hp
      clear S
      have S := S2
      clear S2
      dsimp only
      refine wpAny_execs_cons ?_
      have S0 : St c (LaS c L ld { l with x := some (.int x tx), y := some (.int y ty), z := some (.int z tz) } n s0 t0 ts tt a V xs cap (some (.int (p.2.1 : Nat) q1)) (some (.int (p.2.2 : Nat) q2)) ++ R) s := by
        simp only [LaS, F516, graphR, List.cons_append, List.nil_append]
        wtm_at "fin"
      clear S
      have S := S0
      simp only [LaS, F516, graphR, List.cons_append, List.nil_append] at S
      clear S0
      wtm_at "wz"
      by_cases hy0 : y % 4 = 0
      · rw [if_pos (by simp [hy0])]
        refine' pop (k := k) (u := p.2.1) (v := p.2.2) (a := a) (V := V) (xs := xs) (cap := cap) (ts := ts) (tt := tt) (tu := q1) (tv := q2) (s0 := s0) (t0 := t0) (n := n) (ld := ld) (l := { l with x := some (.int x tx), y := some (.int y ty), z := some (.int z tz) }) S rm hA hx I hVl hxl hro ?_
        intro s W xs2 J hW2 hx2 S
        dsimp only
        refine wpAny_execs_nil ?_
        exact h _ a W xs2 cap _ _ rfl J hW2 hx2 S
      · rw [if_neg (by simp [hy0])]
        refine' set (k := k) (u := p.2.1) (v := p.2.2) (a := a) (V := V) (xs := xs) (cap := cap) (y := y) (z := z) (ty := ty) (tz := tz) (ts := ts) (tt := tt) (tu := q1) (tv := q2) (s0 := s0) (t0 := t0) (n := n) (ld := ld) (l := { l with x := some (.int x tx) }) S rm hA hx I hVl hxl hro ?_
        intro s b W xs2 cap2 hbg J hW2 hx2 S
        dsimp only
        refine wpAny_execs_nil ?_
        exact h _ b W xs2 cap2 _ _ hbg J hW2 hx2 S

/-! the end of the law -/
theorem la_end {c : Cx} {A : Around} {s : Shared} {R : List HP} {k n s0 t0 : Nat} {L ld td : Addr} {a : GA} {V : GV} {xs : List (Addr × (Nat × Nat))} {cap : Nat × Nat → Int} {F : Int} {tn ts tt t3 : Tok} {l : Lo} {Q : Flow → Shared → Prop}
    (S : St c (frm L (F516 { l with n := some (.int (n : Nat) tn), s := some (.int (s0 : Nat) ts), t := some (.int (t0 : Nat) tt), G := some (.ref a.g), laid := some (.ref ld), told := some (.ref td) }) :: cel (L + 3) (some (.int F t3)) :: li td [F] :: dT c ld xs cap :: fam xs tR :: tabX 481 capQ [] :: tabX 476 resQ [] :: tabX 488 sapQ [] :: (graphR c a V ++ R)) s)
    (rm : Rm A (k + 80)) (hA : A.handled = c.hx) (hx : c.hx = none) (hfr : A.frames = some [env516 L]) (I : LInv n V (xs.map (·.2)) cap) (hVl : V.el.length ≤ 9) (hxl : xs.length ≤ 9) (hn : n ≤ 5) (hs0 : s0 < n) (ht0 : t0 < n) (hst : s0 ≠ t0)
    (h : ∀ s', St c (tabX 481 capQ [] :: tabX 476 resQ [] :: tabX 488 sapQ [] :: R) s' → Q (.ret (.bool true)) s') :
    wpAny c.M A (execs (d516.1.body.drop 30) (env516 L)) Q NoE s := by
  have hh := hA.trans hx
  dsimp only [d516, List.drop]
  simp only [F516, graphR, List.cons_append, List.nil_append] at S
  have hnd := dT_nd (S.get (X := dT c ld xs cap) (by wtm_at "take"))
  have hel : ∀ e ∈ xs.map (·.2), e.1 < n ∧ e.2 < n := fun e he => I.lt he
  refine wpAny_execs_cons ?_
  wtm_at "wz"
  refine' gm_appendL (a := td) (xs := [F]) S ?zz1 ?_
  case zz1 => wtm_at "take"
  wtm_at "wz"
  refine' wpAny_call (sap_law (k := k) (n := n) (L := L) (a := a) (V := V) (el := xs.map (·.2)) (cap := cap) S (rm.le (by omega)) hA hx hfr I (by omega) (by omega) hs0 ht0 hst ?zz2 ?_)
  case zz2 => wtm_at "takes"
  clear S
  intro s b el2 eps f F2 inf ti2 tF w hB hEl S
  simp only [rS, graphR, List.cons_append, List.nil_append] at S
  wtm_at "wz"
  refine' li_append (l := td) (xs := [F]) S ?zz3 (by simp) ?_
  case zz3 => wtm_at "take"
  clear S; intro s S
  dsimp only
  refine wpAny_execs_cons ?_
  wtm_at "wz"
  refine' wpAny_call (law_cuts (k := k) (d := ld) (n := n) (s0 := s0) (t0 := t0) (xs := xs) (cap := cap) S (rm.le (by omega)) hA hx (by omega) (by omega) ?zz4 ?_)
  case zz4 => wtm_at "takes"
  clear S
  intro s ca cs hcs S
  wtm_at "wz"
  refine' min_tups (l := ca) (ts := cs) S (rm.le (by omega)) hh ?zz5 (cs_pos hB hnd hel hcs) ?_
  case zz5 => wtm_at "takes"
  clear S
  intro s p hp hmin S
  have hbF := least_is hB hnd hel hcs hp hmin
  wtm_at "wz"
  obtain ⟨⟨q1, q2⟩, S1⟩ := (S.take (X := tp2 p) (by wtm_at "take")).ofHead (f := fun r : Tok × Tok => tup p.1 [.int p.2.1 r.1, .int p.2.2 r.2]) (fun D ⟨t1, t2, h⟩ => ⟨(t1, t2), h⟩)
  clear S
  have S := S1
  clear S1
  dsimp only at S
  refine' tup_sub (l := p.1) (vs := [.int p.2.1 q1, .int p.2.2 q2]) (k := 0) S ?zz6 rfl rfl (by simp) ?_
  case zz6 => wtm_at "take"
  wtm_at "wz"
  rw [hbF] at S
  have S1 := (S.take (X := lst nw [.int F t3, .int F2 q1]) (by wtm_at "take")).head_mono (X' := li nw ([F] ++ [F2])) fun D hD => ⟨_, ⟨rfl, fun i x hx => by
      rcases i with _ | _ | i
      · simp at hx; subst hx; exact ⟨t3, rfl⟩
      · simp at hx; subst hx; exact ⟨q1, rfl⟩
      · simp at hx⟩, hD⟩
  clear S
  have S := S1
  clear S1
  refine' li_eq (xs := [F] ++ [F2]) (ys := [F] ++ [F2]) S (rm.le (by omega)) ?zz7 ?zz8 rfl ?_
  case zz7 => wtm_at "take"
  case zz8 => wtm_at "take"
  rw [show decide (([F] ++ [F2] : List Int) = [F] ++ [F2]) = true by simp]
  dsimp only
  refine' h _ ?zz9
  case zz9 => wtm_at "fin"

/-! the law, whole -/
theorem law_walk {c : Cx} {A : Around} {s : Shared} {P R : List HP} {k : Nat} {sc : Addr} {script : List Int} {Rr : Result → Shared → Prop}
    (S : St c P s) (rm : Rm A (k + 110)) (hA : A.handled = c.hx) (hx : c.hx = none) (hfr : A.frames = some []) (hz : script.length ≤ 100) (hl : ∃ vs, IntsOf vs script ∧ c.h₀.IsList sc vs.toArray)
    (tk : Takes [tabX 481 capQ [], tabX 476 resQ [], tabX 488 sapQ []] P R)
    (h : ∀ s', St c (tabX 481 capQ [] :: tabX 476 resQ [] :: tabX 488 sapQ [] :: R) s' → Rr (.ok (.ret (.bool true))) s') :
    codeAny c.M A (.call (.ref 516) ⟨[.ref sc], []⟩) Rr s := by
  replace S := S.takes tk
  clear tk
  simp only [List.cons_append, List.nil_append] at S
  refine' call_CF (k := k + 109) (binds := [("script", .ref sc)]) (lb := [("script", .ref sc)]) (cb := []) (cl := fun L => [("least", L + 3), ("v", L + 2), ("u", L + 1)]) (cv := fun L => [(L + 3, none), (L + 2, none), (L + 1, none)]) S rm (by exact rfl) (by rfl) (BindsTo.of_eq rfl) rfl rfl (fun _ => rfl) (fun _ => rfl) ?hk (fun _ => rfl) rfl ?oth ?nd ?_
  case oth => wtm_at "oth"
  case nd => exact rfl
  case hk => wtm_at "hk"
  clear S
  intro B L s rm hhB hfB S env
  have hA2 := hhB.trans hA
  have hh := hA2.trans hx
  have hfr2 : B.frames = some [env516 L] := by rw [hfB, hfr]; rfl
  simp only [boundF, List.map_cons, List.map_nil, List.cons_append, List.nil_append, List.append_nil] at S
  have S1 : St c (frm L (F516 ⟨some (.ref sc), none, none, none, none, none, none, none, none, none, none, none, none, none, none, none, none, none, none, none, none, none, none, none, none⟩) :: _) s := S
  clear S
  refine' la_head (sc := sc) (script := script) (l := ⟨some (.ref sc), none, none, none, none, none, none, none, none, none, none, none, none, none, none, none, none, none, none, none, none, none, none, none, none⟩) S1 hA2 hx hz hl ?_
  clear S1
  intro s ra hd n s0 t0 nb t1 t2 t3 t4 hn2 hn5 hs0 ht0 hst S
  refine' la_graph (k := k) (n := n) (tn := t2) (l := ⟨some (.ref sc), some (.ref ra), some (.int hd t1), some (.int (n : Nat) t2), some (.bool nb), some (.int (s0 : Nat) t3), some (.int (t0 : Nat) t4), none, none, none, none, none, none, none, none, none, none, none, none, none, none, none, none, none, none⟩) S (rm.le (by omega)) hA2 hx hn5 ?_
  clear S
  intro s a0 V0 ld I0 hV0 S
  have hr : (script.take 28).length ≤ 28 := by rw [List.length_take]; omega
  show wpAny _ _ (execs (stAt d516.1.body 9 :: d516.1.body.drop 10) _) _ _ _
  refine wpAny_execs_cons ?_
  refine' la_build (k := k) (n := n) (tn := t2) (ra := ra) (ld := ld) (rows := script.take 28) (a := a0) (V := V0) (nb := nb) (v1 := none) (v2 := none) (R := cel (L + 3) none :: tabX 481 capQ [] :: tabX 476 resQ [] :: tabX 488 sapQ [] :: R) (l := ⟨some (.ref sc), some (.ref ra), some (.int hd t1), some (.int (n : Nat) t2), some (.bool nb), some (.int (s0 : Nat) t3), some (.int (t0 : Nat) t4), some (.ref a0.g), some (.ref ld), none, none, none, none, none, none, none, none, none, none, none, none, none, none, none, none⟩) ?zz1 (rm.le (by omega)) hA2 hx hn2 hn5 I0 hV0 hr ?_
  case zz1 =>
    simp only [F516, graphR, List.cons_append, List.nil_append] at S ⊢
    wtm_at "fin"
  clear S
  intro s a V xs cap lk lc v1 v2 hg I hVl hxl S
  dsimp only

  have hel : ∀ e ∈ xs.map (·.2), e.1 < n ∧ e.2 < n := fun e he => I.lt he
  have hne : ∀ e ∈ xs.map (·.2), e.1 ≠ e.2 := fun e he => ((I.mem e).mp he).2
  refine' la_sap (k := k) (n := n) (a := a) (V := V) (el := xs.map (·.2)) (cap := cap) (s0 := s0) (t0 := t0) (tn := t2) (ts := t3) (tt := t4) (R := li ra (script.take 28) :: cel (L + 1) v1 :: cel (L + 2) v2 :: dT c ld xs cap :: fam xs tR :: cel (L + 3) none :: R) (l := ⟨some (.ref sc), some (.ref ra), some (.int hd t1), some (.int (n : Nat) t2), some (.bool nb), some (.int (s0 : Nat) t3), some (.int (t0 : Nat) t4), some (.ref a.g), some (.ref ld), lk, lc, none, none, none, none, none, none, none, none, none, none, none, none, none, none⟩) ?zz2 (rm.le (by omega)) hA2 hx hfr2 I (by omega) (by omega) hs0 ht0 hst ?_
  case zz2 =>
    simp only [F516, graphR, List.cons_append, List.nil_append] at S ⊢
    wtm_at "fin"
  clear S
  intro s b el2 eps f F inf ti2 tF w td hB hEl S
  refine' la_room (k := k) (ld := ld) (xs := xs) (cap := cap) (v1 := v1) (v2 := v2) (R := pt b.g (instObj 420 b.dx) :: dS c b.dx [("_pred", .ref b.pd), ("graph", .ref b.gd), ("_node", .ref b.nd), ("_adj", .ref b.ad)] :: dI c b.ad (idx n b.aa) :: fam (List.range n) (fun i => dAt c (intKind Pg c.w) (b.aa i) (succE el2 b.ea i) (eps i)) :: fam el2 (fun e => eR c (b.ea e) (cL2 (xs.map (·.2)) cap e.1 e.2) (f e.1 e.2)) :: (li td [F] :: li ra (script.take 28) :: cel (L + 3) none :: tabX 481 capQ [] :: tabX 476 resQ [] :: tabX 488 sapQ [] :: (graphR c a V ++ R))) (l := ⟨some (.ref sc), some (.ref ra), some (.int hd t1), some (.int (n : Nat) t2), some (.bool nb), some (.int (s0 : Nat) t3), some (.int (t0 : Nat) t4), some (.ref a.g), some (.ref ld), lk, lc, some (.ref b.g), some (.ref td), none, none, none, none, none, none, none, none, none, none, none, none⟩) ?zz3 (rm.le (by omega)) hA2 hx (by omega) hne ?_
  case zz3 =>
    simp only [F516, rS, graphR, List.cons_append, List.nil_append] at S ⊢
    wtm_at "fin"
  clear S
  intro s rd ys v1 v2 hI hnd hyl S
  refine' la_net (k := k) (n := n) (s0 := s0) (t0 := t0) (rd := rd) (ys := ys) (el := xs.map (·.2)) (el2 := el2) (eps := eps) (cap := cap) (f := f) (b := b) (F := F) (tn := t2) (v1 := v1) (v2 := v2) (R := dT c ld xs cap :: fam xs tR :: (li td [F] :: li ra (script.take 28) :: cel (L + 3) none :: tabX 481 capQ [] :: tabX 476 resQ [] :: tabX 488 sapQ [] :: (graphR c a V ++ R))) (l := ⟨some (.ref sc), some (.ref ra), some (.int hd t1), some (.int (n : Nat) t2), some (.bool nb), some (.int (s0 : Nat) t3), some (.int (t0 : Nat) t4), some (.ref a.g), some (.ref ld), lk, lc, some (.ref b.g), some (.ref td), some (.ref rd), none, none, none, none, none, none, none, none, none, none, none⟩) ?zz4 (rm.le (by omega)) hA2 hx (by omega) hyl hI hel hEl hB ?_
  case zz4 =>
    simp only [F516, graphR, List.cons_append, List.nil_append] at S ⊢
    wtm_at "fin"
  clear S
  intro s na sa zs va v1 v2 hzs S
  refine' la_passed (k := k) (n := n) (s0 := s0) (t0 := t0) (td := td) (na := na) (g := netS (ys.map (·.2)) f) (F := F) (tn := t2) (ts := t3) (tt := t4) (R := cel (L + 1) v1 :: cel (L + 2) v2 :: lst sa (zs.map fun p => .ref p.1) :: fam zs tR :: dT c ld xs cap :: fam xs tR :: (li ra (script.take 28) :: cel (L + 3) none :: tabX 481 capQ [] :: tabX 476 resQ [] :: tabX 488 sapQ [] :: (graphR c a V ++ R))) (l := ⟨some (.ref sc), some (.ref ra), some (.int hd t1), some (.int (n : Nat) t2), some (.bool nb), some (.int (s0 : Nat) t3), some (.int (t0 : Nat) t4), some (.ref a.g), some (.ref ld), lk, lc, some (.ref b.g), some (.ref td), some (.ref rd), some (.ref na), some (.ref sa), va, none, none, none, none, none, none, none, none⟩) ?zz5 (rm.le (by omega)) hA2 hx (by omega) hs0 ht0 (net_passed hB hI hel hnd hst) ?_
  case zz5 =>
    simp only [F516, graphR, List.cons_append, List.nil_append] at S ⊢
    wtm_at "fin"
  clear S
  intro s vp S
  have hzb : ∀ x ∈ zs, x.2.1 < n ∧ x.2.2 < n := fun x hx => by
    have q : x.2 ∈ spareOf (xs.map (·.2)) cap f (ys.map (·.2)) := by rw [← hzs]; exact List.mem_map.mpr ⟨x, hx, rfl⟩
    exact room_lt hI hel (List.mem_filter.mp q).1
  refine' la_cuts (k := k) (n := n) (s0 := s0) (t0 := t0) (ld := ld) (sa := sa) (xs := xs) (zs := zs) (cap := cap) (f := f) (F := F) (tn := t2) (ts := t3) (tt := t4) (v3 := none) (R := cel (L + 1) v1 :: cel (L + 2) v2 :: (li td [F] :: li ra (script.take 28) :: tabX 481 capQ [] :: tabX 476 resQ [] :: tabX 488 sapQ [] :: (graphR c a V ++ R))) (l := ⟨some (.ref sc), some (.ref ra), some (.int hd t1), some (.int (n : Nat) t2), some (.bool nb), some (.int (s0 : Nat) t3), some (.int (t0 : Nat) t4), some (.ref a.g), some (.ref ld), lk, lc, some (.ref b.g), some (.ref td), some (.ref rd), some (.ref na), some (.ref sa), va, vp, none, none, none, none, none, none, none⟩) ?zz6 (rm.le (by omega)) hA2 hx (by omega) (by omega) hel hzb hB ?_
  case zz6 =>
    simp only [F516, graphR, List.cons_append, List.nil_append] at S ⊢
    wtm_at "fin"
  clear S
  intro s ca sd ta t9 S
  have rch : Rch n (cL2 (xs.map (·.2)) cap) f fun x y => (spread n (zs.map (·.2)) x).testBit y := spread_rch fun x hx y hy => by rw [hzs]; exact spare_step hB hI x hx y hy
  show wpAny _ _ (execs (stAt d516.1.body 25 :: d516.1.body.drop 26) _) _ _ _
  refine wpAny_execs_cons ?_
  refine' la_tell (k := k) (n := n) (s0 := s0) (t0 := t0) (ld := ld) (sd := sd) (ta := ta) (xs := xs) (cap := cap) (ms := leastS n s0 t0 (xs.map (·.2)) cap F) (to := spread n (zs.map (·.2))) (ts := t3) (tt := t4) (v1 := v1) (v2 := v2) (R := cel (L + 3) (some (.int F t9)) :: li td [F] :: li ra (script.take 28) :: tabX 481 capQ [] :: tabX 476 resQ [] :: tabX 488 sapQ [] :: (graphR c a V ++ R)) (l := ⟨some (.ref sc), some (.ref ra), some (.int hd t1), some (.int (n : Nat) t2), some (.bool nb), some (.int (s0 : Nat) t3), some (.int (t0 : Nat) t4), some (.ref a.g), some (.ref ld), lk, lc, some (.ref b.g), some (.ref td), some (.ref rd), some (.ref na), some (.ref sa), va, vp, some (.ref ca), some (.ref sd), some (.ref ta), none, none, none, none⟩) ?zz7 (rm.le (by omega)) hA2 hx (by omega) (by omega) hel hs0 ht0 ?zm ?ze ?zs ?_
  case zz7 =>
    simp only [F516, graphR, List.cons_append, List.nil_append] at S ⊢
    wtm_at "fin"
  case zm =>
    unfold leastS sidesOf
    refine Nat.le_trans (List.length_filter_le _ _) (Nat.le_trans (List.length_filter_le _ _) ?_)
    rw [List.length_range]
    exact Nat.le_trans (Nat.pow_le_pow_right (by decide) hn5) (by decide)
  case ze =>
    intro e he
    exact every_side hB I.nd hel rch (hel e he).1 (hel e he).2
  case zs =>
    intro e he
    exact some_side hB I.nd hel (fun e he => I.pos he) rch he
  clear S
  intro s vc v1 v2 S
  dsimp only
  refine' la_xyz (ra := ra) (rows := script.take 28) (R := cel (L + 1) v1 :: cel (L + 2) v2 :: dT c ld xs cap :: fam xs tR :: (cel (L + 3) (some (.int F t9)) :: li td [F] :: tabX 481 capQ [] :: tabX 476 resQ [] :: tabX 488 sapQ [] :: (graphR c a V ++ R))) (l := ⟨some (.ref sc), some (.ref ra), some (.int hd t1), some (.int (n : Nat) t2), some (.bool nb), some (.int (s0 : Nat) t3), some (.int (t0 : Nat) t4), some (.ref a.g), some (.ref ld), lk, lc, some (.ref b.g), some (.ref td), some (.ref rd), some (.ref na), some (.ref sa), va, vp, some (.ref ca), some (.ref sd), some (.ref ta), vc, none, none, none⟩) ?zz8 hA2 hx hr ?_
  case zz8 =>
    simp only [F516, graphR, List.cons_append, List.nil_append] at S ⊢
    wtm_at "fin"
  clear S
  intro s x y z tx ty tz S
  show wpAny _ _ (execs (stAt d516.1.body 29 :: d516.1.body.drop 30) _) _ _ _
  refine wpAny_execs_cons ?_
  refine' la_change (k := k) (n := n) (s0 := s0) (t0 := t0) (ld := ld) (a := a) (V := V) (xs := xs) (cap := cap) (x := x) (y := y) (z := z) (ts := t3) (tt := t4) (tx := tx) (ty := ty) (tz := tz) (v1 := v1) (v2 := v2) (R := li td [F] :: cel (L + 3) (some (.int F t9)) :: tabX 481 capQ [] :: tabX 476 resQ [] :: tabX 488 sapQ [] :: R) (l := ⟨some (.ref sc), some (.ref ra), some (.int hd t1), some (.int (n : Nat) t2), some (.bool nb), some (.int (s0 : Nat) t3), some (.int (t0 : Nat) t4), some (.ref a.g), some (.ref ld), lk, lc, some (.ref b.g), some (.ref td), some (.ref rd), some (.ref na), some (.ref sa), va, vp, some (.ref ca), some (.ref sd), some (.ref ta), vc, some (.int x tx), some (.int y ty), some (.int z tz)⟩) ?zz9 (rm.le (by omega)) hA2 hx I hVl hxl hs0 ht0 hst ?_
  case zz9 =>
    simp only [LaS, F516, graphR, List.cons_append, List.nil_append] at S ⊢
    wtm_at "fin"
  clear S
  intro s a2 V2 xs2 cap2 v1 v2 hg2 I2 hVl2 hxl2 S
  dsimp only
  refine' la_end (k := k) (n := n) (s0 := s0) (t0 := t0) (ld := ld) (td := td) (a := a2) (V := V2) (xs := xs2) (cap := cap2) (F := F) (tn := t2) (ts := t3) (tt := t4) (t3 := t9) (R := R) (l := ⟨some (.ref sc), some (.ref ra), some (.int hd t1), some (.int (n : Nat) t2), some (.bool nb), some (.int (s0 : Nat) t3), some (.int (t0 : Nat) t4), some (.ref a2.g), some (.ref ld), lk, lc, some (.ref b.g), some (.ref td), some (.ref rd), some (.ref na), some (.ref sa), va, vp, some (.ref ca), some (.ref sd), some (.ref ta), vc, some (.int x tx), some (.int y ty), some (.int z tz)⟩) ?zz10 (rm.le (by omega)) hA2 hx hfr2 I2 hVl2 hxl2 hn5 hs0 ht0 hst ?_
  case zz10 =>
    simp only [LaS, F516, graphR, List.cons_append, List.nil_append] at S ⊢
    wtm_at "fin"
  clear S
  intro s S
  exact h _ S

/-! the law's call, out of the state that the top leaves -/
theorem tabX0 {T : Addr} {qs : List (Pos × Str)} {D : PH} (h : D T = some (tabObj #[])) : tabX T qs [] D := ⟨[], by simp, by simp, ⟨D, fun _ => none, fun _ => .inr rfl, Sub.refl _, fun _ _ e => (nomatch e), h, trivial⟩⟩
theorem tabX_grown {T : Addr} {qs : List (Pos × Str)} {ks : List (Addr × Str)} {D : PH} (h : tabX T qs ks D) : ∃ ps, D T = some (tabObj ps) := by
  obtain ⟨l, _, _, d1, d2, g1, g2, g3, g4, g5⟩ := h
  exact ⟨_, g2 _ _ g4⟩
instance {T qs ks} : Up (tabX T qs ks) := ⟨fun _ _ s ⟨l, a, b, d1, d2, g1, g2, g3, g4, g5⟩ => ⟨l, a, b, d1, d2, g1, g2.trans s, g3.trans s, g4, g5⟩⟩
theorem IntsOf.of : ∀ {vs : List Value} {ns : List Int}, IntsAre vs ns → IntsOf vs ns
  | _, _, .nil => ⟨rfl, by simp⟩
  | _, _, .cons n t h => by
    have ih := IntsOf.of h
    refine ⟨by simp [ih.1], fun i x hx => ?_⟩
    rcases i with _ | i
    · simp at hx; subst hx; exact ⟨t, rfl⟩
    · simp at hx ⊢; exact ih.2 i x hx
abbrev tabs3 : List (Addr × Addr) := [(485, 481), (492, 488), (478, 476)]
theorem law_entry {w : World} {s₁ : Shared} {mg mb : Str → Option Value} {p : Program} {loose : List Str} {mean : ExcName → Option Value} {E : Value → Shared → Prop} {Q : Value → Shared → Prop} {sc : Addr} {vs : List Value} {ns : List Int}
    (T : Top p loose mean mg mb s₁.heap) (KX : (hd.heap_39 w.params).In s₁.heap) (hT : TabsAt tabs3 s₁.heap) (hg : s₁.gens = #[]) (hL : s₁.heap.IsList sc vs.toArray) (hI : IntsAre vs ns) (hz : ns.length ≤ 63)
    (h : ∀ s', (∀ b o, b ∉ tabs3.map (·.2) → s₁.heap.get? b = some o → s'.heap.get? b = some o) → (∀ q ∈ tabs3, ∃ ps, s'.heap.get? q.2 = some (tabObj ps)) → s'.os = s₁.os → AllBare s'.gens → Q (.bool true) s') :
    wpAny (model Pg w) callerA (call (.ref 516) [.ref sc]) Q E s₁ := by
  have K2 : (hd.heap_39 w.params).In (ghostOf s₁.heap tabs3) := ghost_K hT KX (by kernel_rfl)
  have T2 := ghost_top hT T
  have L2 := ghost_list hT hL
  have bm : ∃ bm ob, mg "__builtins__" = some (.ref bm) ∧ bm ≠ builtinsNs ∧ bm ≠ mainGlobals ∧ (ghostOf s₁.heap tabs3).get? bm = some ob ∧ ob.cls = .type "module" ∧ ob.dict = some builtinsNs ∧ ob.data = .plain := by
    obtain ⟨bm, ob, a1, a2, a3, a4, a5, a6⟩ := T2.bmain
    refine ⟨bm, ob, a1, a2, fun q => ?_, a3, a4, a5, a6⟩
    obtain ⟨o, es, ep, e, hd, _⟩ := T2.g
    rw [q, e] at a3
    cases a3
    rw [hd] at a6
    cases a6
  let c : Cx := ⟨w, ghostOf s₁.heap tabs3, s₁.os, mg, mb, _, K2, topRead_of T2, bm, fun _ => none, none, .inl rfl⟩
  have hst : c.st = (ghostOf s₁.heap tabs3).get? := by
    funext a
    show ((ghostOf s₁.heap tabs3).get? a).or none = _
    cases (ghostOf s₁.heap tabs3).get? a <;> rfl
  have h1 : s₁.heap.get? 481 = some (tabObj #[]) := (hT (485, 481) (by decide)).2
  have h2 : s₁.heap.get? 488 = some (tabObj #[]) := (hT (492, 488) (by decide)).2
  have h3 : s₁.heap.get? 476 = some (tabObj #[]) := (hT (478, 476) (by decide)).2
  have hid : ∀ a ∈ tabs3.map (·.2), (ghostOf s₁.heap tabs3).get? a = none := fun a ha => hideAll_none _ ha
  have at3 : ∀ {a : Addr} {o : Obj}, uni (one 481 (some (tabObj #[]))) (uni (one 476 (some (tabObj #[]))) (one 488 (some (tabObj #[])))) a = some o → a = 481 ∨ a = 476 ∨ a = 488 := fun {a o} q => by
    by_cases z1 : a = 481
    · exact .inl z1
    by_cases z2 : a = 476
    · exact .inr (.inl z2)
    by_cases z3 : a = 488
    · exact .inr (.inr z3)
    simp [uni, one, z1, z2, z3] at q
  have S : St c [tabX 481 capQ [], tabX 476 resQ [], tabX 488 sapQ []] s₁ := by
    refine ⟨fun a o e => by rw [hst] at e; exact of_hideAll _ e, ⟨uni (one 481 (some (tabObj #[]))) (uni (one 476 (some (tabObj #[]))) (one 488 (some (tabObj #[])))), ?_, ?_, ?_, ?_⟩, rfl, .of_eq hg⟩
    · have o1 : ∀ {T : Addr}, s₁.heap.get? T = some (tabObj #[]) → Sub (one T (some (tabObj #[]))) s₁.heap.get? := fun {T} e a o q => by
        unfold one at q
        split at q
        · rename_i z; subst z; rw [e]; exact q
        · cases q
      exact uni_sub (o1 h1) (uni_sub (o1 h3) (o1 h2))
    · intro a o q
      have := at3 q
      rcases this with rfl | rfl | rfl <;> decide
    · intro a
      rw [hst]
      cases q : uni (one 481 (some (tabObj #[]))) (uni (one 476 (some (tabObj #[]))) (one 488 (some (tabObj #[])))) a with
      | none => exact .inr rfl
      | some o =>
        refine .inl (hid a ?_)
        rcases at3 q with rfl | rfl | rfl <;> decide
    · have d1 : ∀ {T U : Addr} {x y : Option Obj}, T ≠ U → Dis (one T x) (one U y) := fun {T U x y} hne a => by
        by_cases e : a = T
        · exact .inr (by unfold one; rw [if_neg fun z => hne (e.symm.trans z)])
        · exact .inl (by unfold one; rw [if_neg e])
      have e1 : Dis (one 481 (some (tabObj #[]))) (uni (one 476 (some (tabObj #[]))) (one 488 (some (tabObj #[])))) := dis_uni (d1 (by decide)) (d1 (by decide))
      have e2 : Dis (one 476 (some (tabObj #[]))) (one 488 (some (tabObj #[]))) := d1 (by decide)
      exact ⟨_, _, e1, sub_uni_left _ _, sub_uni_right e1, tabX0 one_self, _, _, e2, sub_uni_left _ _, sub_uni_right e2, tabX0 one_self, _, fun _ => none, fun _ => .inr rfl, Sub.refl _, fun _ _ e => (nomatch e), tabX0 one_self, trivial⟩
  refine wpAny_call (law_walk (c := c) (k := 0) (R := []) (script := ns) (sc := sc) S ⟨by decide, by decide⟩ rfl rfl rfl (by omega) ⟨vs, .of hI, L2⟩ ?zz1 ?_)
  case zz1 => exact .cons .head (.cons .head (.cons .head .nil))
  intro s' S'
  refine h s' (fun b o hb e => ?_) ?_ S'.os S'.gens
  · refine S'.keep b o ?_
    rw [hst]
    exact ghost_ne e hb
  · have g1 := tabX_grown (S'.get (X := tabX 481 capQ []) .head)
    have g2 := tabX_grown (S'.get (X := tabX 476 resQ []) (.tail .head))
    have g3 := tabX_grown (S'.get (X := tabX 488 sapQ []) (.tail (.tail .head)))
    intro q hq
    rcases List.mem_cons.mp hq with rfl | hq
    · exact g1
    rcases List.mem_cons.mp hq with rfl | hq
    · exact g3
    rcases List.mem_cons.mp hq with rfl | hq
    · exact g2
    · cases hq

end Mine
theorem PySem.Challenge.cw_bl0014_01_holds : PySem.Challenge.rw_bl0014_01.Holds := by
  refine Mine.hd ?_
  intro w s₀ s₁ mg mb G Y fa o pm cd doc dV kV ho hd0 hcd hD hmg hg args vals as hpre hlay hrd hwl hlo
  have KX := km_in_of Y
  km_tabs Y
  have X := (Ground.X G).1
  have V := (Ground.X G).2
  refine Ground.open G ?_
  intro T B D TE TW
  have hT4 := tab_of (x := "build_residual_network") (c := 478) (P := 476) T KX rfl (by kernel_rfl)
  have hT : TabsAt Mine.tabs3 s₁.heap := by
    intro q hq
    rcases List.mem_cons.mp hq with rfl | hq
    · exact ⟨codeHd_of_K KX (by kernel_rfl), hT8 481 (by decide)⟩
    rcases List.mem_cons.mp hq with rfl | hq
    · exact ⟨codeHd_of_K KX (by kernel_rfl), hT8 488 (by decide)⟩
    rcases List.mem_cons.mp hq with rfl | hq
    · exact hT4
    · cases hq
  have hfa : fa = 516 := by
    have e := mg_of KX T.g (n := "law") (v := .ref 516) (by kernel_rfl)
    have e2 : mg "law" = some (.ref fa) := hmg
    rw [e] at e2
    injection e2 with e3
    injection e3 with e4
    exact e4.symm
  subst hfa
  wrow_args hpre hlay hrd hwl hlo
  rename Heap.IsList _ _ _ => hL
  rename IntsAre _ _ => hI
  refine Mine.law_entry T KX hT hg hL hI (by omega) ?_
  intro s' hkeep hgrown hos hgens
  refine ⟨.inl ⟨.bool true, .bool true, [], rfl, fun _ => rfl, .bool true, ?_, fun _ => ⟨List.nodup_nil, by simp⟩⟩, ⟨fun b o e => ?_, fun b o e => ?_⟩, hos, hgens⟩
  · first | exact rfl | kernel_rfl | decide +kernel
  · by_cases hb : b ∈ Mine.tabs3.map (·.2)
    · obtain ⟨q, hq, rfl⟩ := List.mem_map.mp hb
      have e2 := (hT q hq).2
      rw [e] at e2
      obtain rfl : o = tabObj #[] := Option.some.inj e2
      obtain ⟨ps, hps⟩ := hgrown q hq
      exact .inr (.inl ⟨((hT q hq).1.tab (hT q hq).2).isCodeTable, rfl, #[], ps, rfl, by rw [Array.empty_append]; exact hps⟩)
    · exact .inl (hkeep b o hb e)
  · by_cases hb : b ∈ Mine.tabs3.map (·.2)
    · obtain ⟨q, hq, rfl⟩ := List.mem_map.mp hb
      obtain ⟨ps, hps⟩ := hgrown q hq
      exact ⟨_, hps⟩
    · exact ⟨o, hkeep b o hb e⟩
