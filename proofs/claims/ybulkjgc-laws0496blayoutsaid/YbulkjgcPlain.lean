/-
  Seat b0496a: the plain law: how many ends lie at a node among the first links, where each node's slot begins, and that the places of two ends differ. No Go in sight.
-/
import Derived.Test.YbulkjgcRows
namespace Go.Proofs.Ybulkjgc

/-- How many ends of the first k links lie at node x. -/
def ends (u v : Nat → Nat) (x : Nat) : Nat → Nat
  | 0 => 0
  | k + 1 => ends u v x k + (if u k = x then 1 else 0) + (if v k = x then 1 else 0)
/-- The sum of the first x numbers. -/
def upto (d : Nat → Nat) : Nat → Nat
  | 0 => 0
  | x + 1 => upto d x + d x

theorem ends_le (u v : Nat → Nat) (x k : Nat) : ends u v x k ≤ 2 * k := by
  induction k with
  | zero => simp [ends]
  | succ k ih => simp only [ends]; split <;> split <;> omega
theorem ends_mono (u v : Nat → Nat) (x : Nat) {j k : Nat} (h : j ≤ k) : ends u v x j ≤ ends u v x k := by
  induction k with
  | zero => obtain rfl : j = 0 := by omega
            exact Nat.le_refl _
  | succ k ih =>
    by_cases e : j = k + 1
    · subst e; exact Nat.le_refl _
    · have := ih (by omega)
      simp only [ends]; omega
theorem upto_mono (d : Nat → Nat) {x y : Nat} (h : x ≤ y) : upto d x ≤ upto d y := by
  induction y with
  | zero => obtain rfl : x = 0 := by omega
            exact Nat.le_refl _
  | succ y ih =>
    by_cases e : x = y + 1
    · subst e; exact Nat.le_refl _
    · have := ih (by omega)
      simp only [upto]; omega
theorem upto_add (d : Nat → Nat) (a : Nat) (n : Nat) : upto (fun x => d x + (if a = x then 1 else 0)) n = upto d n + (if a < n then 1 else 0) := by
  induction n with
  | zero => simp [upto]
  | succ n ih =>
    simp only [upto, ih]
    by_cases h1 : a < n <;> by_cases h2 : a = n <;> simp [h1, h2] <;> first | omega | (split <;> omega)
theorem upto_zero (n : Nat) : upto (fun _ => 0) n = 0 := by
  induction n with
  | zero => rfl
  | succ n ih => simp [upto, ih]
theorem upto_all (u v : Nat → Nat) (n L : Nat) (hu : ∀ k, k < L → u k < n) (hv : ∀ k, k < L → v k < n) : upto (fun x => ends u v x L) n = 2 * L := by
  induction L with
  | zero => simp [ends, upto_zero]
  | succ L ih =>
    have h := ih (fun k hk => hu k (by omega)) (fun k hk => hv k (by omega))
    have e : (fun x => ends u v x (L + 1)) = fun x => (fun x => ends u v x L + (if u L = x then 1 else 0)) x + (if v L = x then 1 else 0) := by
      funext x; simp [ends]
    rw [e, upto_add, upto_add, h]
    have := hu L (by omega)
    have := hv L (by omega)
    simp [*]; omega

/-- Two places in slots: the same place is the same node and the same step. -/
theorem place_inj (d : Nat → Nat) {x y a b : Nat} (ha : a < d x) (hb : b < d y) (h : upto d x + a = upto d y + b) : x = y ∧ a = b := by
  rcases Nat.lt_trichotomy x y with hl | he | hl
  · have := upto_mono d (show x + 1 ≤ y by omega)
    simp only [upto] at this; omega
  · subst he; exact ⟨rfl, by omega⟩
  · have := upto_mono d (show y + 1 ≤ x by omega)
    simp only [upto] at this; omega
theorem place_lt (d : Nat → Nat) {x n a : Nat} (hx : x < n) (ha : a < d x) : upto d x + a < upto d n := by
  have := upto_mono d (show x + 1 ≤ n by omega)
  simp only [upto] at this; omega

section
variable (u v : Nat → Nat) (L : Nat)
/-- Where node x's slot begins. -/
def beg (x : Nat) : Nat := upto (fun x => ends u v x L) x
/-- Where link i's end at u i stands, and where its end at v i. -/
def pu (i : Nat) : Nat := beg u v L (u i) + ends u v (u i) i
def pv (i : Nat) : Nat := beg u v L (v i) + (ends u v (v i) i + (if u i = v i then 1 else 0))

theorem step_u (i : Nat) (h : i < L) : ends u v (u i) i < ends u v (u i) L := by
  have := ends_mono u v (u i) (show i + 1 ≤ L by omega)
  simp only [ends, if_true] at this; omega
theorem step_v (i : Nat) (h : i < L) : ends u v (v i) i + (if u i = v i then 1 else 0) < ends u v (v i) L := by
  have := ends_mono u v (v i) (show i + 1 ≤ L by omega)
  simp only [ends, if_true] at this; omega
theorem pu_lt (n i : Nat) (hu : ∀ k, k < L → u k < n) (hv : ∀ k, k < L → v k < n) (h : i < L) : pu u v L i < 2 * L := by
  rw [← upto_all u v n L hu hv]
  exact place_lt _ (hu i h) (step_u u v L i h)
theorem pv_lt (n i : Nat) (hu : ∀ k, k < L → u k < n) (hv : ∀ k, k < L → v k < n) (h : i < L) : pv u v L i < 2 * L := by
  rw [← upto_all u v n L hu hv]
  exact place_lt _ (hv i h) (step_v u v L i h)
theorem pu_pu (i j : Nat) (h : i < j) (hj : j < L) : pu u v L i ≠ pu u v L j := by
  intro e
  obtain ⟨e1, e2⟩ := place_inj (fun x => ends u v x L) (step_u u v L i (by omega)) (step_u u v L j hj) e
  have := ends_mono u v (u i) (show i + 1 ≤ j by omega)
  simp only [ends, if_true] at this
  rw [← e1] at e2; omega
theorem pv_pu (i j : Nat) (h : i < j) (hj : j < L) : pv u v L i ≠ pu u v L j := by
  intro e
  obtain ⟨e1, e2⟩ := place_inj (fun x => ends u v x L) (step_v u v L i (by omega)) (step_u u v L j hj) e
  have := ends_mono u v (v i) (show i + 1 ≤ j by omega)
  simp only [ends, if_true] at this
  rw [← e1] at e2; omega
theorem pu_pv (i j : Nat) (h : i ≤ j) (hj : j < L) : pu u v L i ≠ pv u v L j := by
  intro e
  obtain ⟨e1, e2⟩ := place_inj (fun x => ends u v x L) (step_u u v L i (by omega)) (step_v u v L j hj) e
  by_cases hij : i = j
  · subst hij; rw [if_pos e1, ← e1] at e2; omega
  · have := ends_mono u v (u i) (show i + 1 ≤ j by omega)
    simp only [ends, if_true] at this
    rw [← e1] at e2; omega
theorem pv_pv (i j : Nat) (h : i < j) (hj : j < L) : pv u v L i ≠ pv u v L j := by
  intro e
  obtain ⟨e1, e2⟩ := place_inj (fun x => ends u v x L) (step_v u v L i (by omega)) (step_v u v L j hj) e
  have := ends_mono u v (v i) (show i + 1 ≤ j by omega)
  simp only [ends, if_true] at this
  rw [← e1] at e2; omega

/-- The first k links' ends are laid. -/
def Laid (k : Nat) (f : Nat → Nat) (s : Nat → Int) (st : Nat → Int) : Prop := ∀ i, i < k → f (pu u v L i) = v i ∧ s (pu u v L i) = st i ∧ f (pv u v L i) = u i ∧ s (pv u v L i) = st i

def upd {α : Type} (f : Nat → α) (p : Nat) (x : α) : Nat → α := fun q => if q = p then x else f q

theorem laid_zero (f : Nat → Nat) (s st : Nat → Int) : Laid u v L 0 f s st := fun i hi => by omega
theorem laid_step (k : Nat) (hk : k < L) (f : Nat → Nat) (s st : Nat → Int) (h : Laid u v L k f s st) :
    Laid u v L (k + 1) (upd (upd f (pu u v L k) (v k)) (pv u v L k) (u k)) (upd (upd s (pu u v L k) (st k)) (pv u v L k) (st k)) st := by
  intro i hi
  by_cases e : i = k
  · subst e
    have h1 := pu_pv u v L i i (Nat.le_refl _) hk
    simp [upd, h1]
  · obtain ⟨h1, h2, h3, h4⟩ := h i (by omega)
    have a1 := pu_pu u v L i k (by omega) hk
    have a2 := pv_pu u v L i k (by omega) hk
    have a3 := pu_pv u v L i k (by omega) hk
    have a4 := pv_pv u v L i k (by omega) hk
    simp [upd, a1, a2, a3, a4, h1, h2, h3, h4]
end
end Go.Proofs.Ybulkjgc
