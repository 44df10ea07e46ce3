import PyProof.Rows.All
import Wide.All
import OpenK.AllK
import Wide.FinOn
import PySem.Challenge.RW_br0039_01
set_option Elab.async false
set_option rowWalk.seconds 0
section
open PySem PySem.W PySem.Spec PySem.Calls PyProof.Rows
set_option maxRecDepth 100000
namespace Mine
/-- the letter at a place -/
def lt (x : Str) (i : Nat) : Nat := x.cps.getD i 0
theorem lt_of {x : Str} {i c : Nat} (h : x.cps[i]? = some c) : c = lt x i := by
  unfold lt; rw [Array.getD_eq_getD_getElem?, h]; rfl
/-- the restricted distance of two words' beginnings -/
def osa (X Y : Nat → Nat) : Nat → Nat → Nat
  | 0, j => j
  | i + 1, 0 => i + 1
  | i + 1, j + 1 =>
    let base := min (min (osa X Y i (j + 1) + 1) (osa X Y (i + 1) j + 1)) (osa X Y i j + if X i = Y j then 0 else 1)
    match i, j with
    | i' + 1, j' + 1 => if X (i' + 1) = Y j' ∧ X i' = Y (j' + 1) then min base (osa X Y i' j' + if X (i' + 1) = Y (j' + 1) then 0 else 1) else base
    | _, _ => base
/-- the table of _pure_python_restricted -/
def RD (x y : Str) (p q : Int) : Int := (osa (lt x) (lt y) (p + 1).toNat (q + 1).toNat : Nat)
theorem RD_col (x y : Str) (p : Int) (h : -1 ≤ p) : RD x y p (-1) = p + 1 := by
  unfold RD
  generalize hk : (p + 1).toNat = k
  have e : ((-1 : Int) + 1).toNat = 0 := rfl
  rw [e]
  cases k with
  | zero => rw [osa]; omega
  | succ k => rw [osa]; omega
theorem RD_row (x y : Str) (q : Int) (h : -1 ≤ q) : RD x y (-1) q = q + 1 := by
  unfold RD
  have e : ((-1 : Int) + 1).toNat = 0 := rfl
  rw [e, osa]; omega
/-- a turn's cost as the walk says it -/
theorem cost_is (a b : Nat) : (if (!decide ((⟨#[a]⟩ : Str) = ⟨#[b]⟩)) = true then (1 : Int) else 0) = if a = b then 0 else 1 := by
  by_cases h : a = b
  · simp [h]
  · have : ¬ ((⟨#[a]⟩ : Str) = ⟨#[b]⟩) := fun e => h (by simpa using e)
    simp [h]
theorem item_before {y : Str} {j : Nat} (h : (j : Int) ≠ 0) (hl : j < y.length) : Txt.item y ((j : Int) - 1) = ⟨#[lt y (j - 1)]⟩ := by
  have e : ((j : Int) - 1).toNat = j - 1 := by omega
  have hl' : j - 1 < y.cps.size := by unfold Str.length at hl; omega
  refine item_meets (by omega) ?_
  rw [e]; unfold lt
  rw [Array.getElem?_eq_getElem hl', Array.getD_eq_getD_getElem?, Array.getElem?_eq_getElem hl']; rfl
theorem osa_cell (X Y : Nat → Nat) (i j : Nat) : osa X Y (i + 1) (j + 1) =
    if 1 ≤ i ∧ 1 ≤ j ∧ X i = Y (j - 1) ∧ X (i - 1) = Y j then
      min (min (min (osa X Y i (j + 1) + 1) (osa X Y (i + 1) j + 1)) (osa X Y i j + if X i = Y j then 0 else 1)) (osa X Y (i - 1) (j - 1) + if X i = Y j then 0 else 1)
    else min (min (osa X Y i (j + 1) + 1) (osa X Y (i + 1) j + 1)) (osa X Y i j + if X i = Y j then 0 else 1) := by
  rcases i with _ | i
  · rw [if_neg (by omega)]; conv => lhs; unfold osa
  rcases j with _ | j
  · rw [if_neg (by omega)]; conv => lhs; unfold osa
  have e : (1 ≤ i + 1 ∧ 1 ≤ j + 1 ∧ X (i + 1) = Y (j + 1 - 1) ∧ X (i + 1 - 1) = Y (j + 1)) ↔ (X (i + 1) = Y j ∧ X i = Y (j + 1)) := by
    simp
  simp only [e]
  conv => lhs; unfold osa
  rfl
theorem RD_cell (x y : Str) (i j : Nat) : RD x y i j =
    if 1 ≤ i ∧ 1 ≤ j ∧ lt x i = lt y (j - 1) ∧ lt x (i - 1) = lt y j then
      min (min (min (RD x y ((i : Int) - 1) j + 1) (RD x y i ((j : Int) - 1) + 1)) (RD x y ((i : Int) - 1) ((j : Int) - 1) + if lt x i = lt y j then 0 else 1)) (RD x y ((i : Int) - 2) ((j : Int) - 2) + if lt x i = lt y j then 0 else 1)
    else min (min (RD x y ((i : Int) - 1) j + 1) (RD x y i ((j : Int) - 1) + 1)) (RD x y ((i : Int) - 1) ((j : Int) - 1) + if lt x i = lt y j then 0 else 1) := by
  unfold RD
  have e1 : ((i : Int) + 1).toNat = i + 1 := by omega
  have e2 : ((j : Int) + 1).toNat = j + 1 := by omega
  have e3 : ((i : Int) - 1 + 1).toNat = i := by omega
  have e4 : ((j : Int) - 1 + 1).toNat = j := by omega
  have e5 : ((i : Int) - 2 + 1).toNat = i - 1 := by omega
  have e6 : ((j : Int) - 2 + 1).toNat = j - 1 := by omega
  rw [e1, e2, e3, e4, e5, e6, osa_cell]
  by_cases h : lt x i = lt y j
  · simp only [h, if_true]; split <;> omega
  · simp only [h, if_false]; split <;> omega
/-- a cell where no change of places is -/
theorem RD_plain {x y : Str} {i j : Nat} (h : ¬ (1 ≤ i ∧ 1 ≤ j ∧ lt x i = lt y (j - 1) ∧ lt x (i - 1) = lt y j)) :
    min (min (RD x y ((i : Int) - 1) j + 1) (RD x y i ((j : Int) - 1) + 1)) (RD x y ((i : Int) - 1) ((j : Int) - 1) + if lt x i = lt y j then 0 else 1) = RD x y i j := by
  rw [RD_cell, if_neg h]
theorem RD_swap {x y : Str} {i j : Nat} (h : 1 ≤ i ∧ 1 ≤ j ∧ lt x i = lt y (j - 1) ∧ lt x (i - 1) = lt y j) :
    min (min (min (RD x y ((i : Int) - 1) j + 1) (RD x y i ((j : Int) - 1) + 1)) (RD x y ((i : Int) - 1) ((j : Int) - 1) + if lt x i = lt y j then 0 else 1)) (RD x y ((i : Int) - 2) ((j : Int) - 2) + if lt x i = lt y j then 0 else 1) = RD x y i j := by
  rw [RD_cell x y i j, if_pos h]
end Mine
end
section
set_option maxRecDepth 100000
namespace Mine
/-- ways from one list to another by single edits; P says which changes of places are free to use -/
inductive Al (P : List Nat → List Nat → Prop) : List Nat → List Nat → Nat → Prop
  | nil : Al P [] [] 0
  | del {a b : List Nat} {n : Nat} (x : Nat) : Al P a b n → Al P (x :: a) b (n + 1)
  | ins {a b : List Nat} {n : Nat} (y : Nat) : Al P a b n → Al P a (y :: b) (n + 1)
  | sub {a b : List Nat} {n : Nat} (x y : Nat) : Al P a b n → Al P (x :: a) (y :: b) (n + if x = y then 0 else 1)
  | swap {a b : List Nat} {n : Nat} (s t : Nat) (A B : List Nat) : P A B → Al P a b n → Al P (s :: (A ++ t :: a)) (t :: (B ++ s :: b)) (n + A.length + B.length + 1)

section
variable {P : List Nat → List Nat → Prop}
theorem Al.eqn {a b : List Nat} {n m : Nat} (h : Al P a b n) (e : n = m) : Al P a b m := e ▸ h
theorem Al.dels {a b : List Nat} {n : Nat} (h : Al P a b n) : ∀ A : List Nat, Al P (A ++ a) b (n + A.length)
  | [] => h
  | x :: A => (Al.del x (h.dels A)).eqn (by simp [Nat.add_assoc])
theorem Al.inss {a b : List Nat} {n : Nat} (h : Al P a b n) : ∀ B : List Nat, Al P a (B ++ b) (n + B.length)
  | [] => h
  | x :: B => (Al.ins x (h.inss B)).eqn (by simp [Nat.add_assoc])
theorem Al.same {a b : List Nat} {n : Nat} (x : Nat) (h : Al P a b n) : Al P (x :: a) (x :: b) n := (Al.sub x x h).eqn (by simp)
theorem Al.some (P : List Nat → List Nat → Prop) (a b : List Nat) : Al P a b (a.length + b.length) := by
  have h := ((Al.nil (P := P)).inss b).dels a
  simp only [List.append_nil] at h
  exact h.eqn (by omega)

theorem least_exists {p : Nat → Prop} : ∀ n, p n → ∃ k, p k ∧ ∀ m, p m → k ≤ m := by
  intro n
  induction n using Nat.strongRecOn with
  | ind n ih =>
    intro h
    by_cases hx : ∃ m, m < n ∧ p m
    · obtain ⟨m, hm, hp⟩ := hx
      exact ih m hm hp
    · exact ⟨n, h, fun m hm => Nat.le_of_not_lt fun hl => hx ⟨m, hl, hm⟩⟩

/-- the distance -/
noncomputable def dist (P : List Nat → List Nat → Prop) (a b : List Nat) : Nat := (least_exists _ (Al.some P a b)).choose
theorem dist_al (P : List Nat → List Nat → Prop) (a b : List Nat) : Al P a b (dist P a b) := (least_exists _ (Al.some P a b)).choose_spec.1
theorem dist_le {a b : List Nat} {n : Nat} (h : Al P a b n) : dist P a b ≤ n := (least_exists _ (Al.some P a b)).choose_spec.2 n h
theorem dist_eq {a b : List Nat} {n : Nat} (h : Al P a b n) (hl : ∀ m, Al P a b m → n ≤ m) : dist P a b = n := Nat.le_antisymm (dist_le h) (hl _ (dist_al P a b))

theorem Al.nil_left {b : List Nat} {n : Nat} (h : Al P [] b n) : n = b.length := by
  generalize ha : ([] : List Nat) = a at h
  induction h with
  | nil => rfl
  | del x _ _ => cases ha
  | ins y _ ih => rw [ih ha]; rfl
  | sub x y _ _ => cases ha
  | swap => cases ha
theorem Al.nil_right {a : List Nat} {n : Nat} (h : Al P a [] n) : n = a.length := by
  generalize hb : ([] : List Nat) = b at h
  induction h with
  | nil => rfl
  | del x _ ih => rw [ih hb]; rfl
  | ins y _ _ => cases hb
  | sub x y _ _ => cases hb
  | swap => cases hb
theorem dist_nil_left (b : List Nat) : dist P [] b = b.length := (dist_al P [] b).nil_left
theorem dist_nil_right (a : List Nat) : dist P a [] = a.length := (dist_al P a []).nil_right

theorem Al.cons {x y : Nat} {a b : List Nat} {m : Nat} (h : Al P (x :: a) (y :: b) m) :
    (∃ n, Al P a (y :: b) n ∧ m = n + 1) ∨ (∃ n, Al P (x :: a) b n ∧ m = n + 1) ∨ (∃ n, Al P a b n ∧ m = n + if x = y then 0 else 1) ∨
    ∃ A B a' b' n, P A B ∧ a = A ++ y :: a' ∧ b = B ++ x :: b' ∧ Al P a' b' n ∧ m = n + A.length + B.length + 1 := by
  cases h with
  | del _ h => exact .inl ⟨_, h, rfl⟩
  | ins _ h => exact .inr (.inl ⟨_, h, rfl⟩)
  | sub _ _ h => exact .inr (.inr (.inl ⟨_, h, rfl⟩))
  | swap _ _ A B hp h => exact .inr (.inr (.inr ⟨A, B, _, _, _, hp, rfl, rfl, h, rfl⟩))

/-- what the distance of two lists with heads is: the least of what the edits cost -/
theorem dist_cons {x y : Nat} {a b : List Nat} {n : Nat}
    (h1 : n ≤ dist P a (y :: b) + 1) (h2 : n ≤ dist P (x :: a) b + 1) (h3 : n ≤ dist P a b + if x = y then 0 else 1)
    (h4 : ∀ A B a' b', P A B → a = A ++ y :: a' → b = B ++ x :: b' → n ≤ dist P a' b' + A.length + B.length + 1)
    (hx : n = dist P a (y :: b) + 1 ∨ n = dist P (x :: a) b + 1 ∨ (n = dist P a b + if x = y then 0 else 1) ∨ ∃ A B a' b', P A B ∧ a = A ++ y :: a' ∧ b = B ++ x :: b' ∧ n = dist P a' b' + A.length + B.length + 1) :
    dist P (x :: a) (y :: b) = n := by
  refine dist_eq ?_ fun m hm => ?_
  · rcases hx with rfl | rfl | rfl | ⟨A, B, a', b', hp, rfl, rfl, rfl⟩
    · exact .del _ (dist_al ..)
    · exact .ins _ (dist_al ..)
    · exact .sub _ _ (dist_al ..)
    · exact .swap _ _ _ _ hp (dist_al ..)
  · rcases hm.cons with ⟨k, hk, rfl⟩ | ⟨k, hk, rfl⟩ | ⟨k, hk, rfl⟩ | ⟨A, B, a', b', k, hp, rfl, rfl, hk, rfl⟩
    · have := dist_le hk; omega
    · have := dist_le hk; omega
    · have := dist_le hk; omega
    · have := dist_le hk; have := h4 A B a' b' hp rfl rfl; omega
end

/-- a word's beginning, its last letter first -/
def rp (X : Nat → Nat) : Nat → List Nat
  | 0 => []
  | i + 1 => X i :: rp X i
theorem rp_length (X : Nat → Nat) : ∀ i, (rp X i).length = i
  | 0 => rfl
  | i + 1 => by rw [rp, List.length_cons, rp_length X i]
theorem rp_split (X : Nat → Nat) (k : Nat) : ∀ i, k ≤ i → ∃ A, rp X i = A ++ rp X k ∧ A.length = i - k := by
  intro i h
  induction i with
  | zero => exact ⟨[], by rw [show k = 0 by omega]; rfl, by simp⟩
  | succ i ih =>
    by_cases e : k = i + 1
    · exact ⟨[], by rw [e]; rfl, by simp [e]⟩
    · obtain ⟨A, hA, hl⟩ := ih (by omega)
      exact ⟨X i :: A, by rw [rp, hA]; rfl, by rw [List.length_cons, hl]; omega⟩
theorem rp_parts {X : Nat → Nat} {t : Nat} {a : List Nat} : ∀ {i : Nat} {A : List Nat}, rp X i = A ++ t :: a → ∃ k, k < i ∧ a = rp X k ∧ X k = t ∧ A.length = i - k - 1
  | 0, A, h => by cases A <;> simp [rp] at h
  | i + 1, [], h => by
    simp only [rp, List.nil_append, List.cons.injEq] at h
    exact ⟨i, by omega, h.2.symm, h.1, by simp⟩
  | i + 1, x :: A, h => by
    simp only [rp, List.cons_append, List.cons.injEq] at h
    obtain ⟨k, h1, h2, h3, h4⟩ := rp_parts h.2
    exact ⟨k, by omega, h2, h3, by rw [List.length_cons, h4]; omega⟩
theorem dist_up_left {P : List Nat → List Nat → Prop} {X : Nat → Nat} {k i : Nat} (h : k ≤ i) (b : List Nat) : dist P (rp X i) b ≤ dist P (rp X k) b + (i - k) := by
  obtain ⟨A, hA, hl⟩ := rp_split X k i h
  rw [hA, ← hl]
  exact dist_le ((dist_al P _ b).dels A)
theorem dist_up_right {P : List Nat → List Nat → Prop} {X : Nat → Nat} {k i : Nat} (h : k ≤ i) (a : List Nat) : dist P a (rp X i) ≤ dist P a (rp X k) + (i - k) := by
  obtain ⟨A, hA, hl⟩ := rp_split X k i h
  rw [hA, ← hl]
  exact dist_le ((dist_al P a _).inss A)
theorem dist_most {P : List Nat → List Nat → Prop} (X Y : Nat → Nat) (i j : Nat) : dist P (rp X i) (rp Y j) ≤ i + j := by
  have := dist_le (Al.some P (rp X i) (rp Y j))
  rwa [rp_length, rp_length] at this

/-- which changes of places: none, of neighbours, any -/
def pNone : List Nat → List Nat → Prop := fun _ _ => False
def pNext : List Nat → List Nat → Prop := fun A B => A = [] ∧ B = []
def pAny : List Nat → List Nat → Prop := fun _ _ => True

/-- the last place (from one on) before i where the letter stands, or nothing -/
def lastM (f : Nat → Nat) (c : Nat) : Nat → Nat
  | 0 => 0
  | n + 1 => if f n = c then n + 1 else lastM f c n
theorem lastM_le (f : Nat → Nat) (c : Nat) : ∀ n, lastM f c n ≤ n
  | 0 => Nat.le_refl _
  | n + 1 => by
    rw [lastM]; split
    · omega
    · have := lastM_le f c n; omega
theorem lastM_has {f : Nat → Nat} {c : Nat} : ∀ {n k : Nat}, lastM f c n = k + 1 → f k = c ∧ k < n
  | 0, _, h => by simp [lastM] at h
  | n + 1, k, h => by
    rw [lastM] at h
    by_cases e : f n = c
    · rw [if_pos e] at h
      have : n = k := by omega
      exact this ▸ ⟨e, by omega⟩
    · rw [if_neg e] at h
      have := lastM_has h
      exact ⟨this.1, by omega⟩
theorem lastM_ge {f : Nat → Nat} {c : Nat} : ∀ {n k : Nat}, k < n → f k = c → k + 1 ≤ lastM f c n
  | 0, _, h, _ => by omega
  | n + 1, k, h, e => by
    rw [lastM]; split
    · omega
    · rename_i hne
      refine lastM_ge ?_ e
      rcases Nat.lt_or_ge k n with h' | h'
      · exact h'
      · exact absurd (by rw [← e, show k = n by omega]) hne

/-- a cell of the table without changes of places -/
theorem cellNone (X Y : Nat → Nat) (i j : Nat) : dist pNone (rp X (i + 1)) (rp Y (j + 1)) =
    min (min (dist pNone (rp X i) (rp Y j) + if X i = Y j then 0 else 1) (dist pNone (rp X i) (rp Y (j + 1)) + 1)) (dist pNone (rp X (i + 1)) (rp Y j) + 1) := by
  refine dist_cons ?_ ?_ ?_ (fun _ _ _ _ h => h.elim) ?_
  · show _ ≤ dist pNone (rp X i) (rp Y (j + 1)) + 1; omega
  · show _ ≤ dist pNone (rp X (i + 1)) (rp Y j) + 1; omega
  · omega
  · show _ = dist pNone (rp X i) (rp Y (j + 1)) + 1 ∨ _ = dist pNone (rp X (i + 1)) (rp Y j) + 1 ∨ _
    generalize dist pNone (rp X i) (rp Y (j + 1)) = u
    generalize dist pNone (rp X (i + 1)) (rp Y j) = v
    generalize (dist pNone (rp X i) (rp Y j) + if X i = Y j then 0 else 1) = z
    rcases Nat.le_total z u with h | h <;> omega

/-- a cell of the table with changes of neighbours -/
theorem cellNext (X Y : Nat → Nat) (i j : Nat) : dist pNext (rp X (i + 1)) (rp Y (j + 1)) =
    if 1 ≤ i ∧ 1 ≤ j ∧ X i = Y (j - 1) ∧ X (i - 1) = Y j then
      min (min (min (dist pNext (rp X i) (rp Y (j + 1)) + 1) (dist pNext (rp X (i + 1)) (rp Y j) + 1)) (dist pNext (rp X i) (rp Y j) + if X i = Y j then 0 else 1)) (dist pNext (rp X (i - 1)) (rp Y (j - 1)) + 1)
    else min (min (dist pNext (rp X i) (rp Y (j + 1)) + 1) (dist pNext (rp X (i + 1)) (rp Y j) + 1)) (dist pNext (rp X i) (rp Y j) + if X i = Y j then 0 else 1) := by
  have back : ∀ A B a' b', pNext A B → rp X i = A ++ Y j :: a' → rp Y j = B ++ X i :: b' → (1 ≤ i ∧ 1 ≤ j ∧ X i = Y (j - 1) ∧ X (i - 1) = Y j) ∧ a' = rp X (i - 1) ∧ b' = rp Y (j - 1) ∧ A.length = 0 ∧ B.length = 0 := by
    rintro A B a' b' ⟨rfl, rfl⟩ h1 h2
    obtain ⟨k, k1, k2, k3, k4⟩ := rp_parts h1
    obtain ⟨l, l1, l2, l3, l4⟩ := rp_parts h2
    simp only [List.length_nil] at k4 l4
    have ek : k = i - 1 := by omega
    have el : l = j - 1 := by omega
    subst ek el
    exact ⟨⟨by omega, by omega, l3.symm, k3⟩, k2, l2, rfl, rfl⟩
  split
  · rename_i h
    obtain ⟨i, rfl⟩ : ∃ k, i = k + 1 := ⟨i - 1, by omega⟩
    obtain ⟨j, rfl⟩ : ∃ k, j = k + 1 := ⟨j - 1, by omega⟩
    simp only [Nat.add_sub_cancel] at *
    refine dist_cons ?_ ?_ ?_ ?_ ?_
    · show _ ≤ dist pNext (rp X (i + 1)) (rp Y (j + 1 + 1)) + 1; omega
    · show _ ≤ dist pNext (rp X (i + 1 + 1)) (rp Y (j + 1)) + 1; omega
    · omega
    · intro A B a' b' hp h1 h2
      obtain ⟨_, rfl, rfl, e1, e2⟩ := back A B a' b' hp h1 h2
      rw [e1, e2]; omega
    · have hs : ∃ A B a' b', pNext A B ∧ rp X (i + 1) = A ++ Y (j + 1) :: a' ∧ rp Y (j + 1) = B ++ X (i + 1) :: b' ∧ dist pNext (rp X i) (rp Y j) + 1 = dist pNext a' b' + A.length + B.length + 1 :=
        ⟨[], [], rp X i, rp Y j, ⟨rfl, rfl⟩, by rw [rp, h.2.2.2]; rfl, by rw [rp, h.2.2.1]; rfl, rfl⟩
      show _ = dist pNext (rp X (i + 1)) (rp Y (j + 1 + 1)) + 1 ∨ _ = dist pNext (rp X (i + 1 + 1)) (rp Y (j + 1)) + 1 ∨ _
      generalize dist pNext (rp X (i + 1)) (rp Y (j + 1 + 1)) = u
      generalize dist pNext (rp X (i + 1 + 1)) (rp Y (j + 1)) = v
      generalize (dist pNext (rp X (i + 1)) (rp Y (j + 1)) + if X (i + 1) = Y (j + 1) then 0 else 1) = z at hs ⊢
      generalize dist pNext (rp X i) (rp Y j) = q at hs ⊢
      by_cases hq : min (min (min (u + 1) (v + 1)) z) (q + 1) = q + 1
      · rw [hq]; exact .inr (.inr (.inr hs))
      · rcases Nat.le_total u v with h' | h' <;> rcases Nat.le_total z u with h'' | h'' <;> rcases Nat.le_total z v with h3 | h3 <;> omega
  · rename_i h
    refine dist_cons ?_ ?_ ?_ ?_ ?_
    · show _ ≤ dist pNext (rp X i) (rp Y (j + 1)) + 1; omega
    · show _ ≤ dist pNext (rp X (i + 1)) (rp Y j) + 1; omega
    · omega
    · intro A B a' b' hp h1 h2
      exact absurd (back A B a' b' hp h1 h2).1 h
    · show _ = dist pNext (rp X i) (rp Y (j + 1)) + 1 ∨ _ = dist pNext (rp X (i + 1)) (rp Y j) + 1 ∨ _
      generalize dist pNext (rp X i) (rp Y (j + 1)) = u
      generalize dist pNext (rp X (i + 1)) (rp Y j) = v
      generalize (dist pNext (rp X i) (rp Y j) + if X i = Y j then 0 else 1) = z
      rcases Nat.le_total u v with h' | h' <;> omega

/-- the restricted table holds distances -/
theorem osa_dist (X Y : Nat → Nat) : ∀ n i j, i + j ≤ n → osa X Y i j = dist pNext (rp X i) (rp Y j) := by
  intro n
  induction n with
  | zero =>
    intro i j h
    rw [show i = 0 by omega, show j = 0 by omega]
    rw [osa, rp, dist_nil_left]; rfl
  | succ n ih =>
    intro i j h
    rcases i with _ | i
    · rw [osa, rp, dist_nil_left, rp_length]
    rcases j with _ | j
    · rw [osa, show rp Y 0 = [] from rfl, dist_nil_right, rp_length]
    rw [osa_cell, cellNext]
    rw [ih i (j + 1) (by omega), ih (i + 1) j (by omega), ih i j (by omega)]
    split
    · rename_i hc
      rw [ih (i - 1) (j - 1) (by omega)]
      have h1 := dist_up_left (P := pNext) (X := X) (show i - 1 ≤ i by omega) (rp Y j)
      have h2 := dist_up_right (P := pNext) (X := Y) (show j - 1 ≤ j by omega) (rp X (i - 1))
      have h3 := dist_up_left (P := pNext) (X := X) (show i - 1 ≤ i by omega) (rp Y (j - 1))
      by_cases e : X i = Y j
      · simp only [e, if_true]
        have h4 : dist pNext (rp X i) (rp Y j) ≤ dist pNext (rp X (i - 1)) (rp Y (j - 1)) := by
          obtain ⟨i, rfl⟩ : ∃ k, i = k + 1 := ⟨i - 1, by omega⟩
          obtain ⟨j, rfl⟩ : ∃ k, j = k + 1 := ⟨j - 1, by omega⟩
          simp only [Nat.add_sub_cancel] at *
          have := dist_le ((dist_al pNext (rp X i) (rp Y j)).sub (X i) (Y j))
          rw [if_pos (by rw [hc.2.2.2, ← e, hc.2.2.1]), Nat.add_zero] at this
          exact this
        omega
      · simp only [e, if_false]
    · rfl

/-- a cell of the free table, as the code fills it -/
theorem cellAny (X Y : Nat → Nat) (i j : Nat) (k m : Nat) (hk : k = lastM X (Y j) i) (hm : m = lastM Y (X i) j) : dist pAny (rp X (i + 1)) (rp Y (j + 1)) =
    if k = 0 ∨ m = 0 then
      min (min (dist pAny (rp X i) (rp Y j) + if X i = Y j then 0 else 1) (dist pAny (rp X (i + 1)) (rp Y j) + 1)) (dist pAny (rp X i) (rp Y (j + 1)) + 1)
    else min (min (min (dist pAny (rp X i) (rp Y j) + if X i = Y j then 0 else 1) (dist pAny (rp X (i + 1)) (rp Y j) + 1)) (dist pAny (rp X i) (rp Y (j + 1)) + 1)) (dist pAny (rp X (k - 1)) (rp Y (m - 1)) + (i - k) + (j - m) + 1) := by
  have back : ∀ A B a' b', rp X i = A ++ Y j :: a' → rp Y j = B ++ X i :: b' → (k ≠ 0 ∧ m ≠ 0) ∧ dist pAny (rp X (k - 1)) (rp Y (m - 1)) + (i - k) + (j - m) + 1 ≤ dist pAny a' b' + A.length + B.length + 1 := by
    rintro A B a' b' h1 h2
    obtain ⟨p, k1, rfl, k3, k4⟩ := rp_parts h1
    obtain ⟨l, l1, rfl, l3, l4⟩ := rp_parts h2
    have g1 := lastM_ge k1 k3
    have g2 := lastM_ge l1 l3
    have g3 := lastM_le X (Y j) i
    have g4 := lastM_le Y (X i) j
    rw [← hk] at g1 g3
    rw [← hm] at g2 g4
    have h3 := dist_up_left (P := pAny) (X := X) (show p ≤ k - 1 by omega) (rp Y (m - 1))
    have h4 := dist_up_right (P := pAny) (X := Y) (show l ≤ m - 1 by omega) (rp X p)
    refine ⟨⟨by omega, by omega⟩, ?_⟩
    rw [k4, l4]; omega
  split
  · rename_i h
    refine dist_cons ?_ ?_ ?_ ?_ ?_
    · show _ ≤ dist pAny (rp X i) (rp Y (j + 1)) + 1; omega
    · show _ ≤ dist pAny (rp X (i + 1)) (rp Y j) + 1; omega
    · omega
    · intro A B a' b' _ h1 h2
      have := (back A B a' b' h1 h2).1
      omega
    · show _ = dist pAny (rp X i) (rp Y (j + 1)) + 1 ∨ _ = dist pAny (rp X (i + 1)) (rp Y j) + 1 ∨ _
      generalize dist pAny (rp X i) (rp Y (j + 1)) = u
      generalize dist pAny (rp X (i + 1)) (rp Y j) = v
      generalize (dist pAny (rp X i) (rp Y j) + if X i = Y j then 0 else 1) = z
      rcases Nat.le_total u v with h' | h' <;> omega
  · rename_i h
    have hle1 := lastM_le X (Y j) i
    have hle2 := lastM_le Y (X i) j
    rw [← hk] at hle1
    rw [← hm] at hle2
    have a1 := lastM_has (f := X) (c := Y j) (n := i) (k := k - 1) (by omega)
    have a2 := lastM_has (f := Y) (c := X i) (n := j) (k := m - 1) (by omega)
    refine dist_cons ?_ ?_ ?_ ?_ ?_
    · show _ ≤ dist pAny (rp X i) (rp Y (j + 1)) + 1; omega
    · show _ ≤ dist pAny (rp X (i + 1)) (rp Y j) + 1; omega
    · omega
    · intro A B a' b' _ h1 h2
      have := (back A B a' b' h1 h2).2
      omega
    · have hs : ∃ A B a' b', pAny A B ∧ rp X i = A ++ Y j :: a' ∧ rp Y j = B ++ X i :: b' ∧ dist pAny (rp X (k - 1)) (rp Y (m - 1)) + (i - k) + (j - m) + 1 = dist pAny a' b' + A.length + B.length + 1 := by
        obtain ⟨A, hA, lA⟩ := rp_split X k i hle1
        obtain ⟨B, hB, lB⟩ := rp_split Y m j hle2
        refine ⟨A, B, rp X (k - 1), rp Y (m - 1), trivial, ?_, ?_, by rw [lA, lB]⟩
        · rw [hA, ← a1.1]
          obtain ⟨k, rfl⟩ : ∃ q, k = q + 1 := ⟨k - 1, by omega⟩
          rfl
        · rw [hB, ← a2.1]
          obtain ⟨m, rfl⟩ : ∃ q, m = q + 1 := ⟨m - 1, by omega⟩
          rfl
      show _ = dist pAny (rp X i) (rp Y (j + 1)) + 1 ∨ _ = dist pAny (rp X (i + 1)) (rp Y j) + 1 ∨ _
      generalize dist pAny (rp X i) (rp Y (j + 1)) = u
      generalize dist pAny (rp X (i + 1)) (rp Y j) = v
      generalize (dist pAny (rp X i) (rp Y j) + if X i = Y j then 0 else 1) = z at hs ⊢
      generalize dist pAny (rp X (k - 1)) (rp Y (m - 1)) + (i - k) + (j - m) + 1 = q at hs ⊢
      by_cases hq : min (min (min z (v + 1)) (u + 1)) q = q
      · rw [hq]; exact .inr (.inr (.inr hs))
      · rcases Nat.le_total u v with h' | h' <;> rcases Nat.le_total z u with h'' | h'' <;> rcases Nat.le_total z v with h3 | h3 <;> omega
end Mine
end
section
open PySem
set_option maxRecDepth 100000
namespace Mine
/-- the table of _pure_python_unrestricted -/
noncomputable def UD (x y : Str) (p q : Int) : Int := if p < 0 ∨ q < 0 then (x.length : Int) + y.length else (dist pAny (rp (lt x) p.toNat) (rp (lt y) q.toNat) : Nat)
theorem UD_low (x y : Str) {p q : Int} (h : p = -1 ∨ q = -1) : UD x y p q = (x.length : Int) + y.length := by
  unfold UD; rw [if_pos (by omega)]
theorem UD_nat (x y : Str) (p q : Nat) : UD x y p q = (dist pAny (rp (lt x) p) (rp (lt y) q) : Nat) := by
  unfold UD; rw [if_neg (by omega)]; rfl
theorem UD_at (x y : Str) {p q : Int} (i j : Nat) (h1 : p = i) (h2 : q = j) : UD x y p q = (dist pAny (rp (lt x) i) (rp (lt y) j) : Nat) := by
  rw [h1, h2, UD_nat]
theorem UD_col (x y : Str) {p : Int} (h : 0 ≤ p) : UD x y p 0 = p := by
  rw [UD_at (p := p) (q := 0) x y p.toNat 0 (by omega) rfl, show rp (lt y) 0 = [] from rfl, dist_nil_right, rp_length]; omega
theorem UD_row (x y : Str) {q : Int} (h : 0 ≤ q) : UD x y 0 q = q := by
  rw [UD_at (p := 0) (q := q) x y 0 q.toNat rfl (by omega), show rp (lt x) 0 = [] from rfl, dist_nil_left, rp_length]; omega
theorem UD_cell (x y : Str) {i j : Nat} (c : Int) (hi : i < x.length) (hj : j < y.length) (hc : c = if lt x i = lt y j then 0 else 1) :
    min (min (min (UD x y (((i + 1 : Nat) : Int) - 1) (((j + 1 : Nat) : Int) - 1) + c) (UD x y ((i + 1 : Nat) : Int) (((j + 1 : Nat) : Int) - 1) + 1)) (UD x y (((i + 1 : Nat) : Int) - 1) ((j + 1 : Nat) : Int) + 1))
      (UD x y (((lastM (lt x) (lt y j) i : Nat) : Int) - 1) (((lastM (lt y) (lt x i) j : Nat) : Int) - 1) + (((i + 1 : Nat) : Int) - ((lastM (lt x) (lt y j) i : Nat) : Int)) - 1 + (((j + 1 : Nat) : Int) - ((lastM (lt y) (lt x i) j : Nat) : Int)))
    = UD x y ((i + 1 : Nat) : Int) ((j + 1 : Nat) : Int) := by
  have h0 := cellAny (lt x) (lt y) i j _ _ rfl rfl
  have k1 := lastM_le (lt x) (lt y j) i
  have m1 := lastM_le (lt y) (lt x i) j
  have b1 := dist_most (P := pAny) (lt x) (lt y) i j
  generalize lastM (lt x) (lt y j) i = k at *
  generalize lastM (lt y) (lt x i) j = m at *
  rw [UD_at x y i j (by omega) (by omega), UD_at x y (i + 1) j rfl (by omega), UD_at x y i (j + 1) (by omega) rfl, UD_at x y (i + 1) (j + 1) rfl rfl]
  subst hc
  by_cases hkm : k = 0 ∨ m = 0
  · rw [if_pos hkm] at h0
    rw [UD_low x y (by omega)]
    split at h0 <;> rename_i e <;> simp only [e, if_true, if_false] <;> omega
  · rw [if_neg hkm] at h0
    rw [UD_at x y (k - 1) (m - 1) (by omega) (by omega)]
    split at h0 <;> rename_i e <;> simp only [e, if_true, if_false] <;> omega

/-- the places of the free table that stand at turn i, j -/
def domU (xl yl i j : Nat) (p q : Int) : Prop :=
  (q = -1 ∧ -1 ≤ p ∧ p < (xl : Int) + 1) ∨ (p = -1 ∧ -1 ≤ q ∧ q < (yl : Int) + 1) ∨ (0 ≤ p ∧ p < (xl : Int) + 1 ∧ q = 0) ∨ (p = 0 ∧ 0 ≤ q ∧ q < (yl : Int) + 1) ∨
  (1 ≤ p ∧ p ≤ (i : Int) ∧ 1 ≤ q ∧ q ≤ (yl : Int)) ∨ (p = (i : Int) + 1 ∧ 1 ≤ q ∧ q ≤ (j : Int))
theorem domU_next {xl yl i j : Nat} {p q : Int} (h : domU xl yl i (j + 1) p q) : domU xl yl i j p q ∨ (p = ((i + 1 : Nat) : Int) ∧ q = ((j + 1 : Nat) : Int)) := by unfold domU at *; omega
theorem domU_row {xl yl i : Nat} {p q : Int} (h : domU xl yl (i + 1) 0 p q) : domU xl yl i yl p q := by unfold domU at *; omega
theorem domU_diag {xl yl i j : Nat} (hi : i < xl) (hj : j < yl) : domU xl yl i j (((i + 1 : Nat) : Int) - 1) (((j + 1 : Nat) : Int) - 1) := by unfold domU; omega
theorem domU_left {xl yl i j : Nat} (_ : i < xl) (hj : j < yl) : domU xl yl i j ((i + 1 : Nat) : Int) (((j + 1 : Nat) : Int) - 1) := by unfold domU; omega
theorem domU_up {xl yl i j : Nat} (hi : i < xl) (hj : j < yl) : domU xl yl i j (((i + 1 : Nat) : Int) - 1) ((j + 1 : Nat) : Int) := by unfold domU; omega
theorem domU_far {xl yl i j k m : Nat} (hi : i < xl) (hj : j < yl) (hk : k ≤ i) (hm : m ≤ j) : domU xl yl i j ((k : Int) - 1) ((m : Int) - 1) := by unfold domU; omega
theorem domU_last {xl yl : Nat} : domU xl yl xl 0 xl yl := by unfold domU; omega
theorem item_at {y : Str} {k : Nat} {p : Int} (hl : k < y.length) (h : p = k) : Txt.item y p = ⟨#[lt y k]⟩ := by
  have hl' : k < y.cps.size := hl
  refine PyProof.Rows.item_meets (by omega) ?_
  rw [h]; unfold lt
  rw [Int.toNat_natCast, Array.getElem?_eq_getElem hl', Array.getD_eq_getD_getElem?, Array.getElem?_eq_getElem hl']; rfl
theorem lev_cell (x y : Str) {i j : Nat} (hi : i < x.length) (hj : j < y.length) (k : Nat) :
    (if k ≤ j + 1 then ((dist pNone (rp (lt x) (i + 1)) (rp (lt y) k) : Nat) : Int) else 0) =
    if (k : Int) = 1 + (j : Int) then
      min (min (((dist pNone (rp (lt x) i) (rp (lt y) (1 + (j : Int) - 1).toNat) : Nat) : Int) + if (!decide (Txt.item x (1 + (i : Int) - 1) = Txt.item y (1 + (j : Int) - 1))) = true then 1 else 0)
          (((dist pNone (rp (lt x) i) (rp (lt y) (1 + (j : Int)).toNat) : Nat) : Int) + 1))
        ((if (1 + (j : Int) - 1).toNat ≤ j then ((dist pNone (rp (lt x) (i + 1)) (rp (lt y) (1 + (j : Int) - 1).toNat) : Nat) : Int) else 0) + 1)
    else if k ≤ j then ((dist pNone (rp (lt x) (i + 1)) (rp (lt y) k) : Nat) : Int) else 0 := by
  by_cases e : (k : Int) = 1 + (j : Int)
  · have ek : k = j + 1 := by omega
    subst ek
    have e1 : (1 + (j : Int) - 1).toNat = j := by omega
    have e2 : (1 + (j : Int)).toNat = j + 1 := by omega
    rw [if_pos (Nat.le_refl _), if_pos e, e1, e2, if_pos (Nat.le_refl _), item_at hi (by omega), item_at hj (by omega), cost_is]
    have h := cellNone (lt x) (lt y) i j
    by_cases c : lt x i = lt y j
    · simp only [c, if_true] at h ⊢; omega
    · simp only [c, if_false] at h ⊢; omega
  · rw [if_neg e]
    by_cases c : k ≤ j
    · rw [if_pos c, if_pos (by omega)]
    · rw [if_neg c, if_neg (by omega)]
end Mine
end
section
open PySem
set_option maxRecDepth 100000
namespace Mine
theorem Al.refl {P : List Nat → List Nat → Prop} : ∀ a : List Nat, Al P a a 0
  | [] => .nil
  | x :: a => (Al.refl a).same x
theorem dist_self (P : List Nat → List Nat → Prop) (a : List Nat) : dist P a a = 0 := Nat.le_zero.mp (dist_le (Al.refl a))
/-- the letters of a text, the last first -/
def wd (x : Str) : List Nat := rp (lt x) x.length
theorem dist_empty (P : List Nat → List Nat → Prop) {x y : Str} (h : ¬ (x.length ≠ 0 ∧ y.length ≠ 0)) : max x.length y.length = dist P (wd x) (wd y) := by
  unfold wd
  by_cases e : x.length = 0
  · rw [e, show rp (lt x) 0 = [] from rfl, dist_nil_left, rp_length]; omega
  · have e2 : y.length = 0 := by omega
    rw [e2, show rp (lt y) 0 = [] from rfl, dist_nil_right, rp_length]; omega
end Mine
end
section
open PySem
set_option maxRecDepth 100000
namespace Mine
/-- which changes of places the law's table knows -/
def pOf : Bool → List Nat → List Nat → Prop
  | true => pAny
  | false => pNext
/-- the table's cells when row i is filled up to j -/
noncomputable def gridT (P : List Nat → List Nat → Prop) (X Y : Nat → Nat) (i j p q : Nat) : Int :=
  if p ≤ i ∨ (p = i + 1 ∧ q ≤ j) then (dist P (rp X p) (rp Y q) : Nat) else (p : Int) + q
theorem gridT_done {P : List Nat → List Nat → Prop} {X Y : Nat → Nat} {i j p q : Nat} (h : p ≤ i ∨ (p = i + 1 ∧ q ≤ j)) : gridT P X Y i j p q = (dist P (rp X p) (rp Y q) : Nat) := if_pos h
theorem dist_zero_left {P : List Nat → List Nat → Prop} (X Y : Nat → Nat) (q : Nat) : dist P (rp X 0) (rp Y q) = q := by rw [show rp X 0 = [] from rfl, dist_nil_left, rp_length]
theorem dist_zero_right {P : List Nat → List Nat → Prop} (X Y : Nat → Nat) (p : Nat) : dist P (rp X p) (rp Y 0) = p := by rw [show rp Y 0 = [] from rfl, dist_nil_right, rp_length]
theorem gridT_start (P : List Nat → List Nat → Prop) (X Y : Nat → Nat) (p q : Nat) : gridT P X Y 0 0 p q = (p : Int) + q := by
  unfold gridT
  split
  · rename_i h
    rcases h with h | h
    · rw [show p = 0 by omega, dist_zero_left]; omega
    · rw [show q = 0 by omega, dist_zero_right]; omega
  · rfl
theorem gridT_row {P : List Nat → List Nat → Prop} {X Y : Nat → Nat} {i yl p q : Nat} (hq : q < yl + 1) : gridT P X Y (i + 1) 0 p q = gridT P X Y i yl p q := by
  unfold gridT
  by_cases h : p ≤ i ∨ (p = i + 1 ∧ q ≤ yl)
  · rw [if_pos h, if_pos (by omega)]
  · rw [if_neg h]
    split
    · rename_i h2
      have : q = 0 := by omega
      subst this
      rw [dist_zero_right]; omega
    · rfl
theorem gridT_next {P : List Nat → List Nat → Prop} {X Y : Nat → Nat} {i j p q : Nat} {v : Int} (hv : v = (dist P (rp X (i + 1)) (rp Y (j + 1)) : Nat)) : gridT P X Y i (j + 1) p q = if p = i + 1 ∧ q = j + 1 then v else gridT P X Y i j p q := by
  unfold gridT
  by_cases h : p = i + 1 ∧ q = j + 1
  · rw [if_pos h, if_pos (by omega), h.1, h.2, hv]
  · rw [if_neg h]
    by_cases h2 : p ≤ i ∨ (p = i + 1 ∧ q ≤ j)
    · rw [if_pos h2, if_pos (by omega)]
    · rw [if_neg h2, if_neg (by omega)]

/-- the law's look for a change of places: it fits -/
def Fits (free : Bool) (X Y : Nat → Nat) (i j k m : Nat) : Prop := X k = Y j ∧ X i = Y m ∧ (free = true ∨ (k + 1 = i ∧ m + 1 = j))
/-- what it costs -/
noncomputable def cand (free : Bool) (X Y : Nat → Nat) (i j k m : Nat) : Int := ((dist (pOf free) (rp X k) (rp Y m) : Nat) : Int) + ((i : Int) - k - 1) + 1 + ((j : Int) - m - 1)
/-- the cost without one -/
noncomputable def base3 (free : Bool) (X Y : Nat → Nat) (i j : Nat) : Int :=
  min (min (((dist (pOf free) (rp X i) (rp Y (j + 1)) : Nat) : Int) + 1) (((dist (pOf free) (rp X (i + 1)) (rp Y j) : Nat) : Int) + 1)) (((dist (pOf free) (rp X i) (rp Y j) : Nat) : Int) + if X i = Y j then 0 else 1)
/-- the least so far -/
def Part (free : Bool) (X Y : Nat → Nat) (i j : Nat) (v : Int) (k m : Nat) : Prop :=
  v ≤ base3 free X Y i j ∧ (∀ k0 m0, (k0 < k ∨ (k0 = k ∧ m0 < m)) → k0 < i → m0 < j → Fits free X Y i j k0 m0 → v ≤ cand free X Y i j k0 m0) ∧
  (v = base3 free X Y i j ∨ ∃ k0 m0, k0 < i ∧ m0 < j ∧ Fits free X Y i j k0 m0 ∧ v = cand free X Y i j k0 m0)
section
variable {free : Bool} {X Y : Nat → Nat} {i j k m : Nat} {v : Int}
theorem Part.start (h : v = base3 free X Y i j) : Part free X Y i j v 0 0 := ⟨by omega, fun k0 m0 h0 => by omega, .inl h⟩
theorem Part.skip (H : Part free X Y i j v k m) (hn : ¬ Fits free X Y i j k m) : Part free X Y i j v k (m + 1) := by
  refine ⟨H.1, fun k0 m0 h0 h1 h2 h3 => ?_, H.2.2⟩
  by_cases e : k0 = k ∧ m0 = m
  · rw [e.1, e.2] at h3; exact absurd h3 hn
  · exact H.2.1 k0 m0 (by omega) h1 h2 h3
theorem Part.take {v' : Int} (H : Part free X Y i j v k m) (hk : k < i) (hm : m < j) (hf : Fits free X Y i j k m) (hv : v' = min v (cand free X Y i j k m)) : Part free X Y i j v' k (m + 1) := by
  refine ⟨by have := H.1; omega, fun k0 m0 h0 h1 h2 h3 => ?_, ?_⟩
  · by_cases e : k0 = k ∧ m0 = m
    · rw [e.1, e.2]; omega
    · have := H.2.1 k0 m0 (by omega) h1 h2 h3; omega
  · by_cases e : v ≤ cand free X Y i j k m
    · rw [hv, Int.min_eq_left e]; exact H.2.2
    · exact .inr ⟨k, m, hk, hm, hf, by omega⟩
theorem Part.row (H : Part free X Y i j v k m) (hm : j ≤ m) : Part free X Y i j v (k + 1) 0 :=
  ⟨H.1, fun k0 m0 h0 h1 h2 h3 => H.2.1 k0 m0 (by omega) h1 h2 h3, H.2.2⟩
theorem Part.done (H : Part free X Y i j v i 0) : v = (dist (pOf free) (rp X (i + 1)) (rp Y (j + 1)) : Nat) := by
  obtain ⟨h1, h2, h3⟩ := H
  have hb : ∀ A B a' b', pOf free A B → rp X i = A ++ Y j :: a' → rp Y j = B ++ X i :: b' → ∃ k m, k < i ∧ m < j ∧ Fits free X Y i j k m ∧ ((dist (pOf free) a' b' + A.length + B.length + 1 : Nat) : Int) = cand free X Y i j k m := by
    intro A B a' b' hp e1 e2
    obtain ⟨k, k1, rfl, k3, k4⟩ := rp_parts e1
    obtain ⟨l, l1, rfl, l3, l4⟩ := rp_parts e2
    refine ⟨k, l, k1, l1, ⟨k3, l3.symm, ?_⟩, ?_⟩
    · cases free with
      | true => exact .inl rfl
      | false =>
        obtain ⟨rfl, rfl⟩ : A = [] ∧ B = [] := hp
        simp only [List.length_nil] at k4 l4
        exact .inr ⟨by omega, by omega⟩
    · unfold cand
      rw [k4, l4]; omega
  have hc : ∀ k m, k < i → m < j → Fits free X Y i j k m → ∃ A B, pOf free A B ∧ rp X i = A ++ Y j :: rp X k ∧ rp Y j = B ++ X i :: rp Y m ∧ cand free X Y i j k m = ((dist (pOf free) (rp X k) (rp Y m) + A.length + B.length + 1 : Nat) : Int) := by
    intro k m hk hm hf
    obtain ⟨A, hA, lA⟩ := rp_split X (k + 1) i hk
    obtain ⟨B, hB, lB⟩ := rp_split Y (m + 1) j hm
    refine ⟨A, B, ?_, by rw [hA, ← hf.1]; rfl, by rw [hB, hf.2.1]; rfl, ?_⟩
    · cases free with
      | true => trivial
      | false =>
        have := hf.2.2
        simp only [Bool.false_eq_true, false_or] at this
        exact ⟨List.length_eq_zero_iff.mp (by omega), List.length_eq_zero_iff.mp (by omega)⟩
    · unfold cand
      rw [lA, lB]; omega
  have v0 : 0 ≤ v := by
    rcases h3 with h3 | ⟨k0, m0, q1, q2, q3, q4⟩
    · rw [h3]; unfold base3; split <;> omega
    · obtain ⟨A, B, _, _, _, e⟩ := hc k0 m0 q1 q2 q3
      rw [q4, e]; omega
  obtain ⟨n, rfl⟩ : ∃ n : Nat, v = n := ⟨v.toNat, by omega⟩
  congr 1
  symm
  have b1 : (n : Int) ≤ base3 free X Y i j := h1
  unfold base3 at b1
  refine dist_cons ?_ ?_ ?_ ?_ ?_
  · show n ≤ dist (pOf free) (rp X i) (rp Y (j + 1)) + 1; omega
  · show n ≤ dist (pOf free) (rp X (i + 1)) (rp Y j) + 1; omega
  · split at b1 <;> rename_i e <;> simp only [e, if_true, if_false] <;> omega
  · intro A B a' b' hp e1 e2
    obtain ⟨k, m, q1, q2, q3, q4⟩ := hb A B a' b' hp e1 e2
    have := h2 k m (.inl q1) q1 q2 q3
    omega
  · show n = dist (pOf free) (rp X i) (rp Y (j + 1)) + 1 ∨ n = dist (pOf free) (rp X (i + 1)) (rp Y j) + 1 ∨ _
    rcases h3 with h3 | ⟨k0, m0, q1, q2, q3, q4⟩
    · unfold base3 at h3
      generalize dist (pOf free) (rp X i) (rp Y (j + 1)) = u at h3 ⊢
      generalize dist (pOf free) (rp X (i + 1)) (rp Y j) = w at h3 ⊢
      split at h3 <;> rename_i e <;> simp only [e, if_true, if_false]
      · generalize dist (pOf free) (rp X i) (rp Y j) = z at h3 ⊢
        by_cases c1 : n = u + 1
        · exact .inl c1
        by_cases c2 : n = w + 1
        · exact .inr (.inl c2)
        · exact .inr (.inr (.inl (by omega)))
      · generalize dist (pOf free) (rp X i) (rp Y j) = z at h3 ⊢
        by_cases c1 : n = u + 1
        · exact .inl c1
        by_cases c2 : n = w + 1
        · exact .inr (.inl c2)
        · exact .inr (.inr (.inl (by omega)))
    · obtain ⟨A, B, p1, p2, p3, p4⟩ := hc k0 m0 q1 q2 q3
      exact .inr (.inr (.inr ⟨A, B, _, _, p1, p2, p3, by omega⟩))
end
theorem table_base {free : Bool} {X Y : Nat → Nat} {i j : Nat} {c : Int} (hc : c = if X i = Y j then 0 else 1) :
    min (min (gridT (pOf free) X Y i j (1 + (i : Int) - 1).toNat (1 + (j : Int)).toNat + 1) (gridT (pOf free) X Y i j (1 + (i : Int)).toNat (1 + (j : Int) - 1).toNat + 1)) (gridT (pOf free) X Y i j (1 + (i : Int) - 1).toNat (1 + (j : Int) - 1).toNat + c) = base3 free X Y i j := by
  have e1 : (1 + (i : Int) - 1).toNat = i := by omega
  have e2 : (1 + (j : Int)).toNat = j + 1 := by omega
  have e3 : (1 + (i : Int)).toNat = i + 1 := by omega
  have e4 : (1 + (j : Int) - 1).toNat = j := by omega
  rw [e1, e2, e3, e4, gridT_done (by omega), gridT_done (by omega), gridT_done (by omega), hc]
  rfl
theorem table_cand {free : Bool} {X Y : Nat → Nat} {i j k m : Nat} (hk : k < i) :
    gridT (pOf free) X Y i j (1 + (k : Int) - 1).toNat (1 + (m : Int) - 1).toNat + (1 + (i : Int) - (1 + (k : Int)) - 1) + 1 + (1 + (j : Int) - (1 + (m : Int)) - 1) = cand free X Y i j k m := by
  have e1 : (1 + (k : Int) - 1).toNat = k := by omega
  have e2 : (1 + (m : Int) - 1).toNat = m := by omega
  rw [e1, e2, gridT_done (by omega)]
  unfold cand
  omega
end Mine
end
section
open PySem
set_option maxRecDepth 100000
namespace Mine
section
variable {P P' : List Nat → List Nat → Prop}
theorem Al.mono (hp : ∀ A B, P A B → P' A B) {a b : List Nat} {n : Nat} (h : Al P a b n) : Al P' a b n := by
  induction h with
  | nil => exact .nil
  | del x _ ih => exact .del x ih
  | ins y _ ih => exact .ins y ih
  | sub x y _ ih => exact .sub x y ih
  | swap s t A B hab _ ih => exact .swap s t A B (hp _ _ hab) ih
theorem dist_mono (hp : ∀ A B, P A B → P' A B) (a b : List Nat) : dist P' a b ≤ dist P a b := dist_le ((dist_al P a b).mono hp)
theorem Al.symm (hp : ∀ A B, P A B → P B A) {a b : List Nat} {n : Nat} (h : Al P a b n) : Al P b a n := by
  induction h with
  | nil => exact .nil
  | del x _ ih => exact .ins x ih
  | ins y _ ih => exact .del y ih
  | sub x y _ ih => exact (Al.sub y x ih).eqn (by by_cases e : x = y <;> simp [e, eq_comm])
  | swap s t A B hab _ ih => exact (Al.swap t s B A (hp _ _ hab) ih).eqn (by omega)
theorem dist_comm (hp : ∀ A B, P A B → P B A) (a b : List Nat) : dist P a b = dist P b a :=
  Nat.le_antisymm (dist_le ((dist_al P b a).symm hp)) (dist_le ((dist_al P a b).symm hp))
theorem Al.zero {a b : List Nat} {n : Nat} (h : Al P a b n) : n = 0 → a = b := by
  induction h with
  | nil => intro _; rfl
  | del x _ _ => intro h; omega
  | ins y _ _ => intro h; omega
  | sub x y _ ih =>
    intro h
    by_cases e : x = y
    · rw [e, ih (by omega)]
    · simp only [e, if_false] at h; omega
  | swap s t A B _ _ _ => intro h; omega
theorem dist_zero {a b : List Nat} : dist P a b = 0 ↔ a = b := ⟨fun h => (dist_al P a b).zero h, fun h => by rw [h, dist_self]⟩
theorem d_del (x : Nat) (a b : List Nat) : dist P (x :: a) b ≤ dist P a b + 1 := dist_le (.del x (dist_al P a b))
theorem d_ins (y : Nat) (a b : List Nat) : dist P a (y :: b) ≤ dist P a b + 1 := dist_le (.ins y (dist_al P a b))
theorem d_same (x : Nat) (a b : List Nat) : dist P (x :: a) (x :: b) ≤ dist P a b := dist_le ((dist_al P a b).same x)
theorem d_sub (x y : Nat) (a b : List Nat) : dist P (x :: a) (y :: b) ≤ dist P a b + if x = y then 0 else 1 := dist_le ((dist_al P a b).sub x y)
theorem d_dels (A a b : List Nat) : dist P (A ++ a) b ≤ dist P a b + A.length := dist_le ((dist_al P a b).dels A)
theorem d_inss (B a b : List Nat) : dist P a (B ++ b) ≤ dist P a b + B.length := dist_le ((dist_al P a b).inss B)
theorem d_swap {A B : List Nat} (h : P A B) (s t : Nat) (a b : List Nat) : dist P (s :: (A ++ t :: a)) (t :: (B ++ s :: b)) ≤ dist P a b + A.length + B.length + 1 := dist_le (.swap s t A B h (dist_al P a b))
end
theorem anyB (A B : List Nat) : pAny A B := trivial
theorem pAny_symm : ∀ A B : List Nat, pAny A B → pAny B A := fun _ _ _ => trivial
theorem pNext_symm : ∀ A B : List Nat, pNext A B → pNext B A := fun _ _ h => ⟨h.2, h.1⟩
theorem pNone_next : ∀ A B : List Nat, pNone A B → pNext A B := fun _ _ h => h.elim
theorem pNext_any : ∀ A B : List Nat, pNext A B → pAny A B := fun _ _ _ => trivial
/-- where a list with a mark is cut -/
theorem cut_or {A a u v : List Nat} {t : Nat} (h : A ++ t :: a = u ++ v) : (∃ w, u = A ++ t :: w ∧ a = w ++ v) ∨ (∃ A', A = u ++ A' ∧ v = A' ++ t :: a) := by
  rcases List.append_eq_append_iff.mp h with ⟨w, h1, h2⟩ | ⟨w, h1, h2⟩
  · cases w with
    | nil =>
      refine .inr ⟨[], by simpa using h1.symm, by simpa using h2.symm⟩
    | cons z w =>
      simp only [List.cons_append, List.cons.injEq] at h2
      exact .inl ⟨w, by rw [h1, h2.1], h2.2⟩
  · exact .inr ⟨w, h1, h2⟩
theorem far_put {a c : List Nat} {n : Nat} (h : Al pAny a c n) (x : Nat) (v : List Nat) : ∀ u, a = u ++ v → dist pAny (u ++ x :: v) c ≤ n + 1 := by
  induction h with
  | nil =>
    intro u hu
    have h0 : u = [] ∧ v = [] := by simpa using hu.symm
    rw [h0.1, h0.2]
    exact dist_le (.del x .nil)
  | @del a b n p h ih =>
    intro u hu
    cases u with
    | nil =>
      subst hu
      have := d_del (P := pAny) x (p :: a) b
      have := dist_le (h.del p)
      simp only [List.nil_append] at *; omega
    | cons q u =>
      simp only [List.cons_append, List.cons.injEq] at hu ⊢
      have := ih u hu.2
      have := d_del (P := pAny) q (u ++ x :: v) b
      omega
  | @ins a b n y h ih =>
    intro u hu
    have := ih u hu
    have := d_ins (P := pAny) y (u ++ x :: v) b
    omega
  | @sub a b n p y h ih =>
    intro u hu
    cases u with
    | nil =>
      subst hu
      have := d_del (P := pAny) x (p :: a) (y :: b)
      have := dist_le (h.sub p y)
      simp only [List.nil_append] at *; omega
    | cons q u =>
      simp only [List.cons_append, List.cons.injEq] at hu ⊢
      have := ih u hu.2
      have := d_sub (P := pAny) q y (u ++ x :: v) b
      rw [hu.1]
      omega
  | @swap a b n s t A B hp h ih =>
    intro u hu
    cases u with
    | nil =>
      subst hu
      have := d_del (P := pAny) x (s :: (A ++ t :: a)) (t :: (B ++ s :: b))
      have := dist_le (h.swap s t A B hp)
      simp only [List.nil_append] at *; omega
    | cons q u =>
      simp only [List.cons_append, List.cons.injEq] at hu ⊢
      obtain ⟨rfl, hu⟩ := hu
      rcases cut_or hu with ⟨w, rfl, rfl⟩ | ⟨A', rfl, rfl⟩
      · have := ih w rfl
        have := d_swap (anyB A B) s t (w ++ x :: v) b
        simp only [List.append_assoc, List.cons_append] at *
        omega
      · have := d_swap (anyB (u ++ x :: A') B) s t a b
        have := dist_le h
        simp only [List.append_assoc, List.cons_append, List.length_append, List.length_cons] at *
        omega
theorem far_cut {a c : List Nat} {n : Nat} (h : Al pAny a c n) (x : Nat) (v : List Nat) : ∀ u, a = u ++ x :: v → dist pAny (u ++ v) c ≤ n + 1 := by
  induction h with
  | nil => intro u hu; simp at hu
  | @del a b n p h ih =>
    intro u hu
    cases u with
    | nil =>
      simp only [List.nil_append, List.cons.injEq] at hu ⊢
      rw [← hu.2]
      have := dist_le h
      omega
    | cons q u =>
      simp only [List.cons_append, List.cons.injEq] at hu ⊢
      have := ih u hu.2
      have := d_del (P := pAny) q (u ++ v) b
      omega
  | @ins a b n y h ih =>
    intro u hu
    have := ih u hu
    have := d_ins (P := pAny) y (u ++ v) b
    omega
  | @sub a b n p y h ih =>
    intro u hu
    cases u with
    | nil =>
      simp only [List.nil_append, List.cons.injEq] at hu ⊢
      rw [← hu.2]
      have := d_ins (P := pAny) y a b
      have := dist_le h
      omega
    | cons q u =>
      simp only [List.cons_append, List.cons.injEq] at hu ⊢
      have := ih u hu.2
      have := d_sub (P := pAny) q y (u ++ v) b
      rw [hu.1]
      omega
  | @swap a b n s t A B hp h ih =>
    intro u hu
    cases u with
    | nil =>
      simp only [List.nil_append, List.cons.injEq] at hu ⊢
      rw [← hu.2]
      have h1 := d_dels (P := pAny) A (t :: a) (t :: (B ++ s :: b))
      have h2 := d_same (P := pAny) t a (B ++ s :: b)
      have h3 := d_inss (P := pAny) B a (s :: b)
      have h4 := d_ins (P := pAny) s a b
      have := dist_le h
      omega
    | cons q u =>
      simp only [List.cons_append, List.cons.injEq] at hu ⊢
      obtain ⟨rfl, hu⟩ := hu
      rcases cut_or hu with ⟨w, rfl, rfl⟩ | ⟨A', rfl, hv⟩
      · have := ih w rfl
        have := d_swap (anyB A B) s t (w ++ v) b
        simp only [List.append_assoc, List.cons_append] at *
        omega
      · cases A' with
        | nil =>
          simp only [List.nil_append, List.cons.injEq] at hv
          obtain ⟨rfl, rfl⟩ := hv
          have h1 := d_ins (P := pAny) x (s :: (u ++ v)) (B ++ s :: b)
          have h2 := d_inss (P := pAny) B (s :: (u ++ v)) (s :: b)
          have h3 := d_same (P := pAny) s (u ++ v) b
          have h4 := d_dels (P := pAny) u v b
          have := dist_le h
          simp only [List.append_nil]
          omega
        | cons z A' =>
          simp only [List.cons_append, List.cons.injEq] at hv
          obtain ⟨rfl, rfl⟩ := hv
          have := d_swap (anyB (u ++ A') B) s t a b
          have := dist_le h
          simp only [List.append_assoc, List.cons_append, List.length_append, List.length_cons] at *
          omega
theorem far_new {a c : List Nat} {n : Nat} (h : Al pAny a c n) (x y : Nat) (v : List Nat) : ∀ u, a = u ++ y :: v → dist pAny (u ++ x :: v) c ≤ n + 1 := by
  induction h with
  | nil => intro u hu; simp at hu
  | @del a b n p h ih =>
    intro u hu
    cases u with
    | nil =>
      simp only [List.nil_append, List.cons.injEq] at hu ⊢
      rw [← hu.2]
      have := d_del (P := pAny) x a b
      have := dist_le h
      omega
    | cons q u =>
      simp only [List.cons_append, List.cons.injEq] at hu ⊢
      have := ih u hu.2
      have := d_del (P := pAny) q (u ++ x :: v) b
      omega
  | @ins a b n z h ih =>
    intro u hu
    have := ih u hu
    have := d_ins (P := pAny) z (u ++ x :: v) b
    omega
  | @sub a b n p z h ih =>
    intro u hu
    cases u with
    | nil =>
      simp only [List.nil_append, List.cons.injEq] at hu ⊢
      rw [← hu.2]
      have h1 := d_sub (P := pAny) x z a b
      have := dist_le h
      split at h1 <;> omega
    | cons q u =>
      simp only [List.cons_append, List.cons.injEq] at hu ⊢
      have := ih u hu.2
      have := d_sub (P := pAny) q z (u ++ x :: v) b
      rw [hu.1]
      omega
  | @swap a b n s t A B hp h ih =>
    intro u hu
    cases u with
    | nil =>
      simp only [List.nil_append, List.cons.injEq] at hu ⊢
      rw [← hu.2]
      have h0 := d_del (P := pAny) x (A ++ t :: a) (t :: (B ++ s :: b))
      have h1 := d_dels (P := pAny) A (t :: a) (t :: (B ++ s :: b))
      have h2 := d_same (P := pAny) t a (B ++ s :: b)
      have h3 := d_inss (P := pAny) B a (s :: b)
      have h4 := d_ins (P := pAny) s a b
      have := dist_le h
      omega
    | cons q u =>
      simp only [List.cons_append, List.cons.injEq] at hu ⊢
      obtain ⟨rfl, hu⟩ := hu
      rcases cut_or hu with ⟨w, rfl, rfl⟩ | ⟨A', rfl, hv⟩
      · have := ih w rfl
        have := d_swap (anyB A B) s t (w ++ x :: v) b
        simp only [List.append_assoc, List.cons_append] at *
        omega
      · cases A' with
        | nil =>
          simp only [List.nil_append, List.cons.injEq] at hv
          obtain ⟨rfl, rfl⟩ := hv
          have h1 := d_ins (P := pAny) y (s :: (u ++ x :: v)) (B ++ s :: b)
          have h2 := d_inss (P := pAny) B (s :: (u ++ x :: v)) (s :: b)
          have h3 := d_same (P := pAny) s (u ++ x :: v) b
          have h4 := d_dels (P := pAny) u (x :: v) b
          have h5 := d_del (P := pAny) x v b
          have := dist_le h
          simp only [List.append_nil]
          omega
        | cons z A' =>
          simp only [List.cons_append, List.cons.injEq] at hv
          obtain ⟨rfl, rfl⟩ := hv
          have := d_swap (anyB (u ++ x :: A') B) s t a b
          have := dist_le h
          simp only [List.append_assoc, List.cons_append, List.length_append, List.length_cons] at *
          omega
/-- a letter more on the right -/
theorem far_put_right (a : List Nat) (x w : Nat) (b : List Nat) : dist pAny a (x :: w :: b) ≤ dist pAny a (x :: b) + 1 := by
  rw [dist_comm pAny_symm a, dist_comm pAny_symm a]
  exact far_put (dist_al pAny (x :: b) a) w b [x] rfl
theorem far_head {a b : List Nat} {n : Nat} (h : Al pAny a b n) (x y : Nat) : ∀ v, a = y :: v → dist pAny (y :: x :: v) (x :: b) ≤ n + 1 := by
  induction h with
  | nil => intro v hv; simp at hv
  | @del a b n p h ih =>
    intro v hv
    simp only [List.cons.injEq] at hv
    rw [← hv.2]
    have := d_del (P := pAny) y (x :: a) (x :: b)
    have := d_same (P := pAny) x a b
    have := dist_le h
    omega
  | @ins a b n w h ih =>
    intro v hv
    have := ih v hv
    have := far_put_right (y :: x :: v) x w b
    omega
  | @sub a b n p w h ih =>
    intro v hv
    simp only [List.cons.injEq] at hv
    rw [← hv.2, hv.1]
    have := dist_le h
    by_cases e : y = w
    · rw [← e]
      have := d_swap (anyB [] []) y x a b
      simp only [List.nil_append, List.length_nil] at this
      omega
    · rw [if_neg e]
      have := d_del (P := pAny) y (x :: a) (x :: w :: b)
      have := d_same (P := pAny) x a (w :: b)
      have := d_ins (P := pAny) w a b
      omega
  | @swap a b n s t A B hp h ih =>
    intro v hv
    simp only [List.cons.injEq] at hv
    rw [← hv.2, hv.1]
    have h0 := d_del (P := pAny) y (x :: (A ++ t :: a)) (x :: t :: (B ++ y :: b))
    have h1 := d_same (P := pAny) x (A ++ t :: a) (t :: (B ++ y :: b))
    have h2 := d_dels (P := pAny) A (t :: a) (t :: (B ++ y :: b))
    have h3 := d_same (P := pAny) t a (B ++ y :: b)
    have h4 := d_inss (P := pAny) B a (y :: b)
    have h5 := d_ins (P := pAny) y a b
    have := dist_le h
    omega
theorem far_turn {a c : List Nat} {n : Nat} (h : Al pAny a c n) (x y : Nat) (v : List Nat) : ∀ u, a = u ++ x :: y :: v → dist pAny (u ++ y :: x :: v) c ≤ n + 1 := by
  induction h with
  | nil => intro u hu; simp at hu
  | @del a b n p h ih =>
    intro u hu
    cases u with
    | nil =>
      simp only [List.nil_append, List.cons.injEq] at hu ⊢
      have := far_put h x v [y] (by rw [hu.2]; rfl)
      simp only [List.cons_append, List.nil_append] at this
      omega
    | cons q u =>
      simp only [List.cons_append, List.cons.injEq] at hu ⊢
      have := ih u hu.2
      have := d_del (P := pAny) q (u ++ y :: x :: v) b
      omega
  | @ins a b n z h ih =>
    intro u hu
    have := ih u hu
    have := d_ins (P := pAny) z (u ++ y :: x :: v) b
    omega
  | @sub a b n p z h ih =>
    intro u hu
    cases u with
    | nil =>
      simp only [List.nil_append, List.cons.injEq] at hu ⊢
      obtain ⟨rfl, hu⟩ := hu
      by_cases e : p = z
      · rw [← e, if_pos rfl]
        exact far_head h p y v hu
      · rw [if_neg e]
        have h1 := far_put h p v [y] (by rw [hu]; rfl)
        have h2 := d_ins (P := pAny) z (y :: p :: v) b
        simp only [List.cons_append, List.nil_append] at h1
        omega
    | cons q u =>
      simp only [List.cons_append, List.cons.injEq] at hu ⊢
      have := ih u hu.2
      have := d_sub (P := pAny) q z (u ++ y :: x :: v) b
      rw [hu.1]
      omega
  | @swap a b n s t A B hp h ih =>
    intro u hu
    cases u with
    | nil =>
      simp only [List.nil_append, List.cons.injEq] at hu ⊢
      obtain ⟨rfl, hu⟩ := hu
      have := dist_le h
      cases A with
      | nil =>
        simp only [List.nil_append, List.cons.injEq] at hu
        obtain ⟨rfl, rfl⟩ := hu
        have h1 := d_same (P := pAny) t (s :: a) (B ++ s :: b)
        have h2 := d_inss (P := pAny) B (s :: a) (s :: b)
        have h3 := d_same (P := pAny) s a b
        omega
      | cons z A =>
        simp only [List.cons_append, List.cons.injEq] at hu
        obtain ⟨rfl, rfl⟩ := hu
        have h1 := d_del (P := pAny) z (s :: (A ++ t :: a)) (t :: (B ++ s :: b))
        have h2 := d_swap (anyB A B) s t a b
        simp only [List.length_cons] at *
        omega
    | cons q u =>
      simp only [List.cons_append, List.cons.injEq] at hu ⊢
      obtain ⟨rfl, hu⟩ := hu
      have := dist_le h
      rcases cut_or hu with ⟨w, rfl, rfl⟩ | ⟨A', rfl, hv⟩
      · have := ih w rfl
        have := d_swap (anyB A B) s t (w ++ y :: x :: v) b
        simp only [List.append_assoc, List.cons_append] at *
        omega
      · cases A' with
        | nil =>
          simp only [List.nil_append, List.cons.injEq] at hv
          obtain ⟨rfl, rfl⟩ := hv
          have h1 := d_ins (P := pAny) x (s :: (u ++ y :: x :: v)) (B ++ s :: b)
          have h2 := d_inss (P := pAny) B (s :: (u ++ y :: x :: v)) (s :: b)
          have h3 := d_same (P := pAny) s (u ++ y :: x :: v) b
          have h4 := d_dels (P := pAny) u (y :: x :: v) b
          have h5 := far_put h x v [y] rfl
          simp only [List.cons_append, List.nil_append, List.append_nil] at *
          omega
        | cons z A' =>
          simp only [List.cons_append, List.cons.injEq] at hv
          obtain ⟨rfl, hv⟩ := hv
          cases A' with
          | nil =>
            simp only [List.nil_append, List.cons.injEq] at hv
            obtain ⟨rfl, rfl⟩ := hv
            have h1 := d_swap (anyB u B) s y (x :: v) b
            have h2 := d_del (P := pAny) x v b
            simp only [List.append_assoc, List.cons_append, List.nil_append, List.length_append, List.length_cons, List.length_nil] at *
            omega
          | cons z' A' =>
            simp only [List.cons_append, List.cons.injEq] at hv
            obtain ⟨rfl, rfl⟩ := hv
            have := d_swap (anyB (u ++ y :: x :: A') B) s t a b
            simp only [List.append_assoc, List.cons_append, List.length_append, List.length_cons] at *
            omega
theorem far_puts (A v c : List Nat) (u : List Nat) : dist pAny (u ++ (A ++ v)) c ≤ dist pAny (u ++ v) c + A.length := by
  induction A with
  | nil => simp
  | cons x A ih =>
    have := far_put (dist_al pAny (u ++ (A ++ v)) c) x (A ++ v) u rfl
    simp only [List.cons_append, List.length_cons] at *
    omega
theorem far_cuts (B v c : List Nat) (u : List Nat) : dist pAny (u ++ v) c ≤ dist pAny (u ++ (B ++ v)) c + B.length := by
  induction B with
  | nil => simp
  | cons x B ih =>
    have := far_cut (dist_al pAny (u ++ x :: (B ++ v)) c) x (B ++ v) u rfl
    simp only [List.cons_append, List.length_cons] at *
    omega
theorem far_way {a b : List Nat} {n : Nat} (h : Al pAny a b n) (c : List Nat) : ∀ u, dist pAny (u ++ a) c ≤ n + dist pAny (u ++ b) c := by
  induction h with
  | nil => intro u; omega
  | @del a b n x h ih =>
    intro u
    have := ih u
    have := far_put (dist_al pAny (u ++ a) c) x a u rfl
    omega
  | @ins a b n y h ih =>
    intro u
    have := ih u
    have := far_cut (dist_al pAny (u ++ y :: b) c) y b u rfl
    omega
  | @sub a b n x y h ih =>
    intro u
    have h1 := ih (u ++ [x])
    simp only [List.append_assoc, List.cons_append, List.nil_append] at h1
    by_cases e : x = y
    · rw [if_pos e, ← e]; omega
    · rw [if_neg e]
      have := far_new (dist_al pAny (u ++ y :: b) c) x y b u rfl
      omega
  | @swap a b n s t A B hp h ih =>
    intro u
    have h1 := far_puts A (t :: a) c (u ++ [s])
    have h2 := far_turn (dist_al pAny (u ++ t :: s :: a) c) t s a u rfl
    have h3 := ih (u ++ [t, s])
    have h4 := far_cuts B (s :: b) c (u ++ [t])
    simp only [List.append_assoc, List.cons_append, List.nil_append] at *
    omega
/-- the unrestricted distance is never more than by way of a third word -/
theorem far_via (a b c : List Nat) : dist pAny a c ≤ dist pAny a b + dist pAny b c := by
  have := far_way (dist_al pAny a b) c []
  simpa using this

/-- two neighbours that change places -/
theorem turn_near {P : List Nat → List Nat → Prop} (hp : P [] []) (C a : List Nat) (s t : Nat) : dist P (C ++ s :: t :: a) (C ++ t :: s :: a) = if s = t then 0 else 1 := by
  by_cases e : s = t
  · rw [if_pos e, e, dist_self]
  · rw [if_neg e]
    have h1 : dist P (C ++ s :: t :: a) (C ++ t :: s :: a) ≤ 1 := by
      have h0 : dist P (s :: t :: a) (t :: s :: a) ≤ 1 := by
        have := d_swap hp s t a a
        rw [dist_self] at this
        simpa using this
      induction C with
      | nil => exact h0
      | cons z C ih =>
        have := d_same (P := P) z (C ++ s :: t :: a) (C ++ t :: s :: a)
        simp only [List.cons_append] at *
        omega
    have h2 : dist P (C ++ s :: t :: a) (C ++ t :: s :: a) ≠ 0 := by
      rw [Ne, dist_zero]
      intro h
      have := List.append_cancel_left h
      simp only [List.cons.injEq] at this
      exact e this.1
    omega
theorem lt_get {x : Str} {i : Nat} (h : i < x.cps.size) : lt x i = x.cps[i] := by
  unfold lt; rw [Array.getD_eq_getD_getElem?, Array.getElem?_eq_getElem h]; rfl
theorem rp_ext {X Y : Nat → Nat} : ∀ {n : Nat}, rp X n = rp Y n → ∀ i, i < n → X i = Y i
  | 0, _, _, h => by omega
  | n + 1, h, i, hi => by
    simp only [rp, List.cons.injEq] at h
    by_cases e : i = n
    · rw [e]; exact h.1
    · exact rp_ext h.2 i (by omega)
theorem wd_inj {x y : Str} (h : wd x = wd y) : x = y := by
  have hl : x.length = y.length := by
    have := congrArg List.length h
    unfold wd at this
    rwa [rp_length, rp_length] at this
  unfold wd at h
  rw [← hl] at h
  have hi := rp_ext h
  obtain ⟨xc⟩ := x
  obtain ⟨yc⟩ := y
  congr 1
  refine Array.ext hl fun i h1 h2 => ?_
  have := hi i h1
  rwa [lt_get h1, lt_get (x := ⟨yc⟩) h2] at this
theorem wd_eq {x y : Str} : wd x = wd y ↔ x = y := ⟨wd_inj, fun h => by rw [h]⟩
theorem rp_congr {X Y : Nat → Nat} : ∀ {n : Nat}, (∀ i, i < n → X i = Y i) → rp X n = rp Y n
  | 0, _ => rfl
  | n + 1, h => by rw [rp, rp, h n (by omega), rp_congr fun i hi => h i (by omega)]
/-- words that part at two neighbours alone, which have changed places -/
theorem wd_turn {x z : Str} {p : Nat} (hl : z.length = x.length) (hp : p + 1 < x.length) (h1 : lt z p = lt x (p + 1)) (h2 : lt z (p + 1) = lt x p) (h3 : ∀ i, i < x.length → i ≠ p → i ≠ p + 1 → lt z i = lt x i) :
    ∃ C a, wd x = C ++ lt x (p + 1) :: lt x p :: a ∧ wd z = C ++ lt x p :: lt x (p + 1) :: a := by
  unfold wd
  rw [hl]
  have key : ∀ k, p + 2 + k ≤ x.length → ∃ C a, rp (lt x) (p + 2 + k) = C ++ lt x (p + 1) :: lt x p :: a ∧ rp (lt z) (p + 2 + k) = C ++ lt x p :: lt x (p + 1) :: a := by
    intro k
    induction k with
    | zero =>
      intro _
      refine ⟨[], rp (lt x) p, rfl, ?_⟩
      show rp (lt z) (p + 2) = _
      rw [rp, rp, h2, h1, rp_congr fun i hi => h3 i (by omega) (by omega) (by omega)]
      rfl
    | succ k ih =>
      intro hk
      obtain ⟨C, a, e1, e2⟩ := ih (by omega)
      refine ⟨lt x (p + 2 + k) :: C, a, ?_, ?_⟩
      · show rp (lt x) (p + 2 + k + 1) = _
        rw [rp, e1]; rfl
      · show rp (lt z) (p + 2 + k + 1) = _
        rw [rp, e2, h3 _ (by omega) (by omega) (by omega)]; rfl
  have := key (x.length - (p + 2)) (by omega)
  rwa [show p + 2 + (x.length - (p + 2)) = x.length by omega] at this
end Mine
end
section
open PySem PySem.W PyProof.Rows
set_option maxRecDepth 100000
set_option maxHeartbeats 8000000
namespace Mine
open_top hd for PySem.Challenge.rw_br0039_01
end Mine
end
section
open PySem PySem.W PySem.Spec PySem.Calls PyProof.Rows
set_option maxRecDepth 100000
set_option maxHeartbeats 4000000
namespace Mine

/-- what a turn of a loop leaves behind: the ledger may have grown -/
def TurnEnd (h₀ : Heap) (L : Addr) (J : (Str → Option Value) → List (Addr × Obj) → Prop) (own : List (Addr × Obj)) (s₁ : Shared) (Q : Flow → Shared → Prop) (f : Flow) (s₂ : Shared) : Prop :=
  match f with
  | .ret v => Q (.ret v) s₂
  | .brk => Q .next s₂
  | _ => ∃ h' tk m' nx, s₂ = { s₁ with heap := h', toks := tk } ∧ Fr h₀ L h' m' ∧ News h₀ L h' (own ++ nx) ∧ (∀ p ∈ nx, ∀ q ∈ own, p.1 ≠ q.1) ∧ J m' nx

section
variable {prog : Program} {w : World} {A : Around} {E : Value → Shared → Prop} {s : Shared} {env : Env} {h₀ : Heap} {Q : Flow → Shared → Prop}

theorem TurnEnd.mk_next {L : Addr} {J : (Str → Option Value) → List (Addr × Obj) → Prop} {own : List (Addr × Obj)} {s₁ : Shared} {h' : Heap} {tk : Nat} {m' : Str → Option Value} (nx : List (Addr × Obj)) (F : Fr h₀ L h' m') (N : News h₀ L h' (own ++ nx))
    (ha : ∀ p ∈ nx, ∀ q ∈ own, p.1 ≠ q.1) (hJ : J m' nx) : TurnEnd h₀ L J own s₁ Q .next { s₁ with heap := h', toks := tk } := ⟨h', tk, m', nx, rfl, F, N, ha, hJ⟩
theorem TurnEnd.mk_cont {L : Addr} {J : (Str → Option Value) → List (Addr × Obj) → Prop} {own : List (Addr × Obj)} {s₁ : Shared} {h' : Heap} {tk : Nat} {m' : Str → Option Value} (nx : List (Addr × Obj)) (F : Fr h₀ L h' m') (N : News h₀ L h' (own ++ nx))
    (ha : ∀ p ∈ nx, ∀ q ∈ own, p.1 ≠ q.1) (hJ : J m' nx) : TurnEnd h₀ L J own s₁ Q .cont { s₁ with heap := h', toks := tk } := ⟨h', tk, m', nx, rfl, F, N, ha, hJ⟩

/-- a for over a range by ones, by an invariant over the frame's map and the ledger, which may grow -/
theorem iterRangeG {x : Str} {body : List Stmt} {r : Addr} {a₀ b₀ : Int} {t₀ u₀ v₀ : Tok} {n : Nat} {m₀ : Str → Option Value} {news : List (Addr × Obj)}
    (J : Nat → (Str → Option Value) → List (Addr × Obj) → Prop)
    (hh : A.handled = none) (hr : IsRange s.heap r a₀ b₀ 1 t₀ u₀ v₀) (hsmall : Builtin.Range.small a₀ b₀ 1 = true) (hn : Builtin.Range.rangeSize a₀ b₀ 1 = (n : Int)) (F : Fr h₀ env.locals s.heap m₀) (N : News h₀ env.locals s.heap news) (h0 : J 0 m₀ news)
    (turn : ∀ (i : Nat) t m₁ nx h tk own, i < n → J i m₁ nx → (∀ p ∈ nx, ∀ q ∈ own, p.1 ≠ q.1) → Fr h₀ env.locals h (fun y => if y = x then some (.int (a₀ + (i : Int)) t) else m₁ y) → News h₀ env.locals h (own ++ nx) →
      wpAny (model prog w) A (execs body env) (TurnEnd h₀ env.locals (J (i + 1)) own { s with heap := h, toks := tk } Q) E { s with heap := h, toks := tk })
    (done : ∀ m₁ nx h tk, J n m₁ nx → Fr h₀ env.locals h m₁ → News h₀ env.locals h nx → Q .next { s with heap := h, toks := tk }) :
    wpAny (model prog w) A (pyIter (.ref r)) (fun it s₂ => LoopAtV prog w A h₀ env x body Q E it s₂) E s := by
  refine wpAny_pyIter_range hr hsmall ?_
  have W : Walks prog w A s.heap.objs.size [s.heap.objs.size] [s.heap.objs.size] n (fun i v => i < n ∧ ∃ t, v = .int (a₀ + i * 1) t)
      (fun i h => IsRangeIter h s.heap.objs.size (a₀ + (i : Nat) * 1) ((n : Int) - (i : Nat)) 1) := (Walks.range hh _ a₀ 1 n).bound
  refine ⟨_, _, _, n, _, _, m₀, news, J, rfl, W, ?_, ?_, ?_, (by show IsRangeIter _ _ _ _ _; rw [hn]; simpa using Heap.get?_push_size _ rfl), F.push _, (fun p hp => ⟨Heap.get?_push_of_some _ (N p hp).1, (N p hp).2⟩), h0, ?_, ?_⟩
  · intro hm
    exact absurd F.ns.lt ((List.mem_singleton.mp hm) ▸ Nat.lt_irrefl _)
  · intro b hb
    rw [List.mem_singleton.mp hb]
    exact next_is_new F
  · intro p hp hI
    exact absurd (Heap.lt_size (N p hp).1) ((List.mem_singleton.mp hI) ▸ Nat.lt_irrefl _)
  · rintro i v m₁ nx s₁ own ⟨h, tk, rfl⟩ hi ⟨_, t, rfl⟩ hJ hoff hsub _ hall hst F₁ N₁
    have hsep : ∀ p ∈ nx, ∀ q ∈ own, p.1 ≠ q.1 := fun p hp q hq e => hoff p hp (by rw [e]; exact hsub q hq)
    rw [Int.mul_one] at F₁
    refine wpAny_mono (turn i t m₁ nx h tk own hi hJ hsep F₁ N₁) (fun f s₂ p => ?_) fun _ _ e => e
    have fin : (∃ h' tk' m' nx', s₂ = { s with heap := h', toks := tk' } ∧ Fr h₀ env.locals h' m' ∧ News h₀ env.locals h' (own ++ nx') ∧ (∀ p ∈ nx', ∀ q ∈ own, p.1 ≠ q.1) ∧ J (i + 1) m' nx') →
        LoopStepU h₀ env.locals [s.heap.objs.size] own (J (i + 1)) { s with heap := h, toks := tk } .next s₂ := by
      rintro ⟨h', tk', m', nx', e, F', N', ha, hj⟩
      refine ⟨rfl, h', tk', m', nx', e, F', N', fun q hq hw => ?_, hj⟩
      have hI := List.mem_singleton.mp hw
      exact ha q hq (s.heap.objs.size, _) (hall _ (List.mem_singleton.mpr rfl) (next_is_new F) _ hst) hI
    cases f with
    | ret v => exact .ret p
    | brk => exact .brk p
    | next => exact .next (fin p)
    | cont => exact .cont (fin p)
  · intro h' tk m' nx' F' N' _ hJ
    exact done m' nx' h' tk hJ F' N'

/-- a for over pairs, from turn i₀ on -/
theorem loopPairG {R : Result → Shared → Prop} {xi xc : Str} {pk pv pt : Pos} {x1 : Nat} {body : List Stmt} {I : Addr} {fp wr : List Addr} {n i₀ : Nat} {Pt : Nat → Array Value → Prop} {St : Nat → Heap → Prop} {Mid : Nat → Addr → Heap → Prop}
    {P2 : Nat → Value → Value → Prop} {m : Str → Option Value} {news : List (Addr × Obj)} (hh : A.handled = none) (W : WalksT prog w A I fp wr n Pt St Mid) (h2 : ∀ i vals, Pt i vals → ∃ v0 v1, vals = #[v0, v1] ∧ P2 i v0 v1)
    (hxi : env.kindOf xi = some .local) (hxc : env.kindOf xc = some .local)
    (hp : (env.scope.kind == .class || (env.scope.kind == .module && env.locals != env.globals)) = false)
    (hLf : env.locals ∉ fp) (hwr : ∀ b ∈ wr, h₀.get? b = none) (hlive : ∀ i h, St i h → ∀ b ∈ wr, ∃ o, h.get? b = some o) (hfw : ∀ b ∈ fp, b ∈ wr ∨ ∃ o, h₀.get? b = some o) (hnw : ∀ p ∈ news, p.1 ∉ wr)
    (hst : St i₀ s.heap) (hi0 : i₀ ≤ n) (F : Fr h₀ env.locals s.heap m) (N : News h₀ env.locals s.heap news)
    (J : Nat → (Str → Option Value) → List (Addr × Obj) → Prop) (h0 : J i₀ m news)
    (step : ∀ i v0 v1 m₁ nx h tk own, i < n → i₀ ≤ i → P2 i v0 v1 → J i m₁ nx → (∀ p ∈ nx, ∀ q ∈ own, p.1 ≠ q.1) →
      Fr h₀ env.locals h (fun y => if y = xc then some v1 else if y = xi then some v0 else m₁ y) → News h₀ env.locals h (own ++ nx) →
      wpAny (model prog w) A (execs body env) (TurnEnd h₀ env.locals (J (i + 1)) own { s with heap := h, toks := tk } (fun f s' => R (.ok f) s')) (notedBy (model prog w) A env fun e s' => R (.error e) s') { s with heap := h, toks := tk })
    (hR : ∀ h' tk m' nx', Fr h₀ env.locals h' m' → News h₀ env.locals h' nx' → J n m' nx' → R (.ok .next) { s with heap := h', toks := tk }) :
    codeAny (model prog w) A (.forLoop (.Tuple [.Name xi pk, .Name xc pv] x1 pt) (.ref I) body [] env) R s := by
  have hLw : env.locals ∉ wr := fun h => hLf (W.sub _ h)
  have old : ∀ b o, h₀.get? b = some o → b ∉ wr := fun b o e hb => by rw [hwr b hb] at e; cases e
  refine codeAny_forLoop_any
    (fun k s' => ∃ h' tk m' nx i, s' = { s with heap := h', toks := tk } ∧ St i h' ∧ Fr h₀ env.locals h' m' ∧ News h₀ env.locals h' nx ∧ (∀ p ∈ nx, p.1 ∉ wr) ∧ J i m' nx ∧ i₀ ≤ i ∧ i ≤ n ∧ k = n + 1 - i) ?_ (n + 1 - i₀)
    ⟨s.heap, s.toks, m, news, i₀, rfl, hst, F, N, hnw, h0, Nat.le_refl _, hi0, rfl⟩
  rintro k s' ⟨H, tk, m', nx, i, rfl, hst', F', N', hnw', hJ, hlo, hi, rfl⟩
  have next : ∀ h₁ : Heap, (∀ b o, b ∉ wr → H.get? b = some o → h₁.get? b = some o) → Fr h₀ env.locals h₁ m' ∧ News h₀ env.locals h₁ nx := fun h₁ hk₁ =>
    ⟨⟨F'.ns.at' fun o e => hk₁ _ o hLw e, fun b o e => hk₁ b o (old b o e) (F'.keep b o e), F'.above⟩, fun p hp => ⟨hk₁ _ _ (hnw' p hp) (N' p hp).1, (N' p hp).2⟩⟩
  by_cases hlt : i < n
  · refine W.item i _ _ _ hlt hst' fun T vals h₁ tk₁ hPt _ hT hMid hk₁ => ?_
    obtain ⟨v0, v1, rfl, hP2⟩ := h2 i vals hPt
    refine W.go _ x1 pt i T _ _ _ hMid fun h₂ hst₂ hk₂ => ?_
    have ht₂ : h₂.IsTuple T #[v0, v1] := hT.at fun o e => hk₂ T o (W.apart i T h₁ hMid) e
    refine wpAny_assign_Tuple hh ht₂ rfl rfl fun h₃ hx₃ => ?_
    replace hx₃ : Heap.ExtBut h₂.objs.size h₂ h₃ := hx₃
    have up₃ : ∀ b o, h₂.get? b = some o → h₃.get? b = some o := fun b o x => hx₃ b o (Nat.ne_of_lt (Heap.lt_size x)) x
    obtain ⟨F₃, N₃⟩ := next h₃ fun b o hb x => up₃ b o (hk₂ b o hb (hk₁ b o hb x))
    show wpAny _ A (do holding [v1] (assign (.Name xi pk) env v0); do holding [] (assign (.Name xc pv) env v1); pure ()) _ _ _
    refine wpAny_bind (wpAny_holding (wpAny_assign_Name (wpAny_storeName_local hxi F₃.ns (fun h₄ hn₄ hs₄ => ?_) hp)))
    replace hs₄ : Heap.SameBut env.locals h₃ h₄ := hs₄
    have F₄ := F₃.set hn₄ hs₄
    refine wpAny_bind (wpAny_holding (wpAny_assign_Name (wpAny_storeName_local hxc F₄.ns (fun h₅ hn₅ hs₅ => wpAny_pure ?_) hp)))
    replace hs₅ : Heap.SameBut env.locals h₄ h₅ := hs₅
    have F₅ := F₄.set hn₅ hs₅
    have N₅ : News h₀ env.locals h₅ nx := (N₃.set hs₄).set hs₅
    have hst₅ : St (i + 1) h₅ := W.frame _ _ _ hst₂ fun b hb o e => hs₅.extBut b o (fun q => hLf (q ▸ hb)) (hs₄.extBut b o (fun q => hLf (q ▸ hb)) (up₃ b o e))
    have hsep : ∀ p ∈ nx, ∀ q ∈ ownOf h₀ fp h₅, p.1 ≠ q.1 := fun p hp q hq e => by
      rcases hfw _ (ownOf_sub q hq) with hw | ⟨o, ho⟩
      · exact hnw' p hp (e ▸ hw)
      · rw [← e, (N₅ p hp).2.2] at ho; cases ho
    refine wpAny_mono (step i v0 v1 m' nx _ _ (ownOf h₀ fp h₅) hlt hlo hP2 hJ hsep F₅ ((news_ownOf hLf).append N₅)) (fun f s₃ h₆ => ?_) fun _ _ e => e
    have fin : (∃ h' tk' m' nx', s₃ = { s with heap := h', toks := tk' } ∧ Fr h₀ env.locals h' m' ∧ News h₀ env.locals h' (ownOf h₀ fp h₅ ++ nx') ∧ (∀ p ∈ nx', ∀ q ∈ ownOf h₀ fp h₅, p.1 ≠ q.1) ∧ J (i + 1) m' nx') →
        ∃ k', k' < n + 1 - i ∧ ∃ h' tk m' nx j, s₃ = { s with heap := h', toks := tk } ∧ St j h' ∧ Fr h₀ env.locals h' m' ∧ News h₀ env.locals h' nx ∧ (∀ p ∈ nx, p.1 ∉ wr) ∧ J j m' nx ∧ i₀ ≤ j ∧ j ≤ n ∧ k' = n + 1 - j := by
      rintro ⟨h', tk', m₂, nx₂, rfl, F₆, N₆, ha₆, hJ₆⟩
      refine ⟨n + 1 - (i + 1), by omega, h', tk', m₂, nx₂, i + 1, rfl, ?_, F₆, N₆.right, ?_, hJ₆, by omega, hlt, rfl⟩
      · refine W.frame _ _ _ hst₅ fun b hb o e => ?_
        cases hn : h₀.get? b with
        | some o₀ =>
          have : o₀ = o := by have q := F₅.keep b o₀ hn; rw [e] at q; exact (Option.some.inj q).symm
          exact this ▸ F₆.keep b o₀ hn
        | none => exact (N₆ _ (List.mem_append_left _ (mem_ownOf hb hn e))).1
      · intro p hp hw
        obtain ⟨o, ho⟩ := hlive _ _ hst₅ _ hw
        exact ha₆ p hp (p.1, o) (mem_ownOf (W.sub _ hw) (hwr _ hw) ho) rfl
    cases f with
    | ret v => exact h₆
    | brk => exact h₆
    | cont => exact fin h₆
    | next => exact fin h₆
  · have hin : i = n := by omega
    subst hin
    refine W.done _ _ _ hst' fun h₁ tk₁ hk₁ => wpAny_execs_nil ?_
    obtain ⟨F₁, N₁⟩ := next h₁ hk₁
    exact hR h₁ tk₁ m' nx F₁ N₁ hJ

end
end Mine
end
section
open PySem PySem.W PySem.Spec PySem.Calls PyProof.Rows
set_option maxRecDepth 100000
set_option maxHeartbeats 4000000
namespace Mine

/-- the loop behind a for's iterator -/
def ForGo (prog : Program) (w : World) (A : Around) (env : Env) (target : PySem.Expr) (body : List Stmt) (Q : Flow → Shared → Prop) (E : Value → Shared → Prop) (it : Value) (s₂ : Shared) : Prop :=
  codeAny (model prog w) A (.forLoop target it body [] env) (fun r s' => match r with | .ok f => Q f s' | .error e => cameBackBy (model prog w) A env E e s') s₂

/-- enumerate over a text's signs, fresh, its count at a -/
def EnumStr (h₀ : Heap) (L : Addr) (news : List (Addr × Obj)) (x : Str) (a : Nat) (e : Addr) (h : Heap) : Prop :=
  ∃ it ty t, (ty = "str_iterator" ∨ ty = "str_ascii_iterator") ∧ IsEnum h e it (a : Int) .none ∧ h.IsStrIter it ty x t 0 ∧ e ≠ it ∧ e ≠ L ∧ it ≠ L ∧ h₀.get? e = none ∧ h₀.get? it = none ∧ (∀ p ∈ news, p.1 ≠ e ∧ p.1 ≠ it)

theorem drawsShift {prog : Program} {w : World} {A : Around} {it : Addr} {fp : List Addr} {n : Nat} {P : Nat → Value → Prop} {St : Nat → Heap → Prop} (a : Nat) (D : Draws prog w A it fp n P St) :
    Draws prog w A it fp (n + a) (fun j v => a ≤ j ∧ P (j - a) v) (fun j h => a ≤ j ∧ St (j - a) h) where
  live := fun i h st => D.live _ _ st.2
  frame := fun i h h' st hk => ⟨st.1, D.frame _ _ _ st.2 hk⟩
  item := fun i s Q E hi st hQ => D.item (i - a) s Q E (by have := st.1; omega) st.2 fun x h' tk hP hst hs => hQ x h' tk ⟨st.1, hP⟩ ⟨Nat.le_succ_of_le st.1, by rw [Nat.succ_sub st.1]; exact hst⟩ hs
  done := fun s Q E st hE => D.done s Q E (by have := st.2; rwa [Nat.add_sub_cancel] at this) hE

section
variable {prog : Program} {w : World} {A : Around} {E : Value → Shared → Prop} {s : Shared} {env : Env} {h₀ : Heap} {Q : Flow → Shared → Prop}

theorem For_go {target : PySem.Expr} {iter : PySem.Expr} {body : List Stmt} {pos : Pos}
    (h : wpAny (model prog w) A (eval iter env) (fun xv s₁ => wpAny (model prog w) A (pyIter xv) (fun it s₂ => ForGo prog w A env target body Q E it s₂) E s₁) E s)
    (hs : ∀ x, foldedSetIterable iter env x = pure x) :
    wpAny (model prog w) A (exec (.For target iter body [] pos) env) Q E s := wpAny_For h hs

theorem enumGo {x : Str} {xi xc : Str} {pk pv pt : Pos} {x1 : Nat} {body : List Stmt} {a : Nat} {e : Addr} {m : Str → Option Value} {news : List (Addr × Obj)}
    (J : Nat → (Str → Option Value) → List (Addr × Obj) → Prop)
    (hh : A.handled = none) (he : EnumStr h₀ env.locals news x a e s.heap) (F : Fr h₀ env.locals s.heap m) (N : News h₀ env.locals s.heap news)
    (hE : PassesOwn (model prog w) A env E)
    (hxi : env.kindOf xi = some .local) (hxc : env.kindOf xc = some .local)
    (hp : (env.scope.kind == .class || (env.scope.kind == .module && env.locals != env.globals)) = false)
    (h0 : J 0 m news)
    (turn : ∀ (i : Nat) c t u m₁ nx h tk own, x.cps[i]? = some c → J i m₁ nx → (∀ p ∈ nx, ∀ q ∈ own, p.1 ≠ q.1) →
      Fr h₀ env.locals h (fun y => if y = xc then some (.str ⟨#[c]⟩ u) else if y = xi then some (.int ((i + a : Nat) : Int) t) else m₁ y) → News h₀ env.locals h (own ++ nx) →
      wpAny (model prog w) A (execs body env) (TurnEnd h₀ env.locals (J (i + 1)) own { s with heap := h, toks := tk } Q) E { s with heap := h, toks := tk })
    (done : ∀ m₁ nx h tk, J x.cps.size m₁ nx → Fr h₀ env.locals h m₁ → News h₀ env.locals h nx → Q .next { s with heap := h, toks := tk }) :
    wpAny (model prog w) A (pyIter (.ref e)) (fun it s₂ => ForGo prog w A env (.Tuple [.Name xi pk, .Name xc pv] x1 pt) body Q E it s₂) E s := by
  obtain ⟨it, ty, t, hty, hen, hit, hei, heL, hiL, hn1, hn2, hsep⟩ := he
  refine wpAny_pyIter_enum hen ?_
  have main : ∀ {St : Nat → Heap → Prop}, Draws prog w A.in1 it [it] x.cps.size (fun i v => ∃ c u, x.cps[i]? = some c ∧ v = .str ⟨#[c]⟩ u) St → St 0 s.heap →
      ForGo prog w A env (.Tuple [.Name xi pk, .Name xc pv] x1 pt) body Q E (.ref e) s := by
    intro St D hst
    have W := WalksT.enumerateD (drawsShift a D) e hei (fun hm => hei (List.mem_singleton.mp hm)) (List.mem_singleton.mpr rfl)
    refine loopPairG (i₀ := a) (n := x.cps.size + a) (P2 := fun i v0 v1 => ∃ t, v0 = .int (i : Int) t ∧ a ≤ i ∧ ∃ c u, x.cps[i - a]? = some c ∧ v1 = .str ⟨#[c]⟩ u) hh W ?_ hxi hxc hp ?_ ?_ ?_ ?_ ?_
      ⟨⟨_, hen⟩, Nat.le_refl _, by rw [Nat.sub_self]; exact hst⟩ (Nat.le_add_left _ _) F N (fun i m₁ nx => J (i - a) m₁ nx) (by rw [Nat.sub_self]; exact h0) ?_ ?_
    · rintro i vals ⟨t, x, ⟨ha, c, u, hc, rfl⟩, rfl⟩
      exact ⟨_, _, rfl, t, rfl, ha, c, u, hc, rfl⟩
    · intro hm
      rcases List.mem_cons.mp hm with e1 | hm
      · exact heL e1.symm
      · exact hiL (List.mem_singleton.mp hm).symm
    · intro b hb
      rcases List.mem_cons.mp hb with rfl | hb
      · exact hn1
      · rw [List.mem_singleton.mp hb]; exact hn2
    · rintro i h ⟨⟨old, he'⟩, hst'⟩ b hb
      rcases List.mem_cons.mp hb with rfl | hb
      · exact ⟨_, he'⟩
      · rw [List.mem_singleton.mp hb]; exact D.live _ _ hst'.2
    · intro b hb
      exact .inl hb
    · intro p hp hw
      rcases List.mem_cons.mp hw with e1 | hw
      · exact (hsep p hp).1 e1
      · exact (hsep p hp).2 (List.mem_singleton.mp hw)
    · rintro i v0 v1 m₁ nx h tk own hi hai ⟨t, rfl, _, c, u, hc, rfl⟩ hJ hs F₁ N₁
      have := turn (i - a) c t u m₁ nx h tk own hc hJ hs (by rw [Nat.sub_add_cancel hai]; exact F₁) N₁
      rw [show i - a + 1 = i + 1 - a by omega] at this
      exact wpAny_passesOwn hE this
    · intro h' tk m' nx' F' N' hJ
      rw [Nat.add_sub_cancel] at hJ
      exact done m' nx' h' tk hJ F' N'
  rcases hty with rfl | rfl
  · exact main (Draws.strWide (A := A.in1) hh it x t) hit
  · exact main (Draws.strAscii (A := A.in1) hh it x t) hit

/-- enumerate(text) -/
theorem callEnum0 {x : Str} {t : Tok} {L : Addr} {m : Str → Option Value} {news : List (Addr × Obj)} {Q : Value → Shared → Prop} (F : Fr h₀ L s.heap m) (N : News h₀ L s.heap news)
    (h : ∀ h' e, Fr h₀ L h' m → News h₀ L h' news → EnumStr h₀ L news x 0 e h' → Q (.ref e) { s with heap := h' }) :
    wpAny (model prog w) A (call (.type "enumerate") [.str x t]) Q E s := by
  have hLs : L < s.heap.objs.size := F.ns.lt
  have hab : h₀.objs.size ≤ L := F.above
  refine call_enumerate_str fun h' he hit hsz hk => ?_
  refine h h' _ ⟨F.ns.keeps hk, fun b o e => hk b o (F.keep b o e), F.above⟩ (fun p hp => ⟨hk _ _ (N p hp).1, (N p hp).2⟩)
    ⟨s.heap.objs.size, strIterType x, t, ?_, he, hit, Nat.succ_ne_self _, Nat.ne_of_gt (Nat.lt_succ_of_lt hLs), Nat.ne_of_gt hLs, Heap.get?_none_of_le (Nat.le_trans hab (Nat.le_of_lt (Nat.lt_succ_of_lt hLs))), Heap.get?_none_of_le (Nat.le_trans hab (Nat.le_of_lt hLs)), fun p hp => ?_⟩
  · unfold strIterType; split
    · exact .inr rfl
    · exact .inl rfl
  · have hq := Heap.lt_size (N p hp).1
    exact ⟨Nat.ne_of_lt (Nat.lt_succ_of_lt hq), Nat.ne_of_lt hq⟩
end
end Mine
end
section
open PySem PySem.W PySem.Spec PySem.Calls PyProof.Rows
set_option maxRecDepth 100000
set_option maxHeartbeats 4000000
namespace Mine

theorem atKey_cons {K : Type} [DecidableEq K] (x : K × Addr × Value) (xs : List (K × Addr × Value)) (k : K) : atKey (x :: xs) k = if x.1 = k then some x.2 else atKey xs k := by
  unfold atKey
  rw [List.find?_cons]
  by_cases h : x.1 = k
  · simp [h]
  · simp [h]
theorem atKey_map_ne {K : Type} [DecidableEq K] {k k' : K} (h : k' ≠ k) (v : Value) : ∀ xs : List (K × Addr × Value), atKey (xs.map (putAt k v)) k' = atKey xs k'
  | [] => rfl
  | x :: xs => by
    rw [List.map_cons, atKey_cons, atKey_cons, atKey_map_ne h v xs]
    by_cases e : x.1 = k
    · have : ¬ k = k' := fun q => h q.symm
      simp [putAt, e, this]
    · simp [putAt, e]
theorem atKey_map_self {K : Type} [DecidableEq K] {k : K} (v : Value) : ∀ {xs : List (K × Addr × Value)}, (atKey xs k).isSome = true → ∃ b, atKey (xs.map (putAt k v)) k = some (b, v)
  | [], h => by simp [atKey] at h
  | x :: xs, h => by
    rw [atKey_cons] at h
    rw [List.map_cons, atKey_cons]
    by_cases e : x.1 = k
    · exact ⟨x.2.1, by simp [putAt, e]⟩
    · simp only [e, if_false] at h
      simpa [putAt, e] using atKey_map_self v h
theorem atKey_append_ne {K : Type} [DecidableEq K] {k k' : K} (h : k' ≠ k) (a : Addr) (v : Value) : ∀ xs : List (K × Addr × Value), atKey (xs ++ [(k, a, v)]) k' = atKey xs k'
  | [] => by
    have : ¬ k = k' := fun q => h q.symm
    simp [atKey, this]
  | x :: xs => by rw [List.cons_append, atKey_cons, atKey_cons, atKey_append_ne h a v xs]
theorem atKey_append_self {K : Type} [DecidableEq K] {k : K} (a : Addr) (v : Value) : ∀ {xs : List (K × Addr × Value)}, atKey xs k = none → atKey (xs ++ [(k, a, v)]) k = some (a, v)
  | [], _ => by simp [atKey]
  | x :: xs, h => by
    rw [atKey_cons] at h
    by_cases e : x.1 = k
    · simp [e] at h
    · rw [List.cons_append, atKey_cons]
      simp only [e, if_false] at h ⊢
      exact atKey_append_self a v h
theorem atKey_stored_ne {K : Type} [DecidableEq K] {k k' : K} (h : k' ≠ k) (a : Addr) (v : Value) (xs : List (K × Addr × Value)) : atKey (storedH xs k a v) k' = atKey xs k' := by
  unfold storedH; split
  · exact atKey_map_ne h v xs
  · exact atKey_append_ne h a v xs
theorem atKey_stored_self {K : Type} [DecidableEq K] (k : K) (a : Addr) (v : Value) (xs : List (K × Addr × Value)) : ∃ b, atKey (storedH xs k a v) k = some (b, v) := by
  unfold storedH; split
  · rename_i h; exact atKey_map_self v h
  · rename_i h; exact ⟨a, atKey_append_self a v (by simpa using h)⟩
theorem mem_stored {K : Type} [DecidableEq K] {k : K} {a : Addr} {v : Value} {xs : List (K × Addr × Value)} {x : K × Addr × Value} (h : x ∈ storedH xs k a v) : (x.1, x.2.1) = (k, a) ∨ ∃ y ∈ xs, y.1 = x.1 ∧ y.2.1 = x.2.1 := by
  unfold storedH at h; split at h
  · obtain ⟨y, hy, rfl⟩ := List.mem_map.mp h
    refine .inr ⟨y, hy, ?_⟩
    unfold putAt; split <;> exact ⟨rfl, rfl⟩
  · rcases List.mem_append.mp h with h | h
    · exact .inr ⟨x, h, rfl, rfl⟩
    · rw [List.mem_singleton.mp h]; exact .inl rfl
theorem length_stored {K : Type} [DecidableEq K] (k : K) (a : Addr) (v : Value) (xs : List (K × Addr × Value)) : (storedH xs k a v).length ≤ xs.length + 1 := by
  unfold storedH; split <;> simp

/-- a tuple of two ints -/
def IsPair (i j : Int) (q : Obj) : Prop := q.cls = .type "tuple" ∧ ∃ t u n, q.data = .seq #[.int i t, .int j u] n

/-- a dict of the ledger whose keys are pairs of ints (tuples of the ledger's part ks) and whose values are ints: where dom holds it has D -/
def Tab (prog : Program) (w : World) (ks : List (Addr × Obj)) (o : Obj) (D : Int → Int → Int) (dom : Int → Int → Prop) (n : Nat) : Prop :=
  ∃ (xs : List (List Int × Addr × Value)) (es : Array DictEntry) (ep : Nat), o.ExactDict ∧ o.data = .dict es ep ∧ es.toList = xs.map (entryOfKey (tupleKind (intKind prog w))) ∧
    (∀ x ∈ xs, ∃ i j q, x.1 = [i, j] ∧ (x.2.1, q) ∈ ks ∧ IsPair i j q) ∧ (xs.map (·.1)).Nodup ∧ xs.length ≤ n ∧
    ∀ i j, dom i j → ∃ a t, atKey xs [i, j] = some (a, .int (D i j) t)

theorem isKey_of {prog : Program} {w : World} {h : Heap} {a : Addr} {q : Obj} {i j : Int} (hg : h.get? a = some q) (hq : IsPair i j q) : IsTupleKey (intKind prog w) h [i, j] a := by
  obtain ⟨hc, t, u, n, hd⟩ := hq
  exact ⟨q, _, n, hg, hc, hd, .cons (intKind_is ..) (.cons (intKind_is ..) .nil)⟩

theorem Tab.start (prog : Program) (w : World) (D : Int → Int → Int) {dom : Int → Int → Prop} (h : ∀ i j, ¬ dom i j) : Tab prog w [] (dictOf [] 0) D dom 0 :=
  ⟨[], #[], 0, ⟨rfl, rfl, rfl⟩, rfl, rfl, (fun _ h => by cases h), List.nodup_nil, Nat.le_refl _, fun i j hd => absurd hd (h i j)⟩

theorem Tab.mono {prog : Program} {w : World} {ks : List (Addr × Obj)} {o : Obj} {D D' : Int → Int → Int} {dom dom' : Int → Int → Prop} {n n' : Nat} (T : Tab prog w ks o D dom n)
    (h : ∀ i j, dom' i j → dom i j ∧ D' i j = D i j) (hn : n ≤ n') : Tab prog w ks o D' dom' n' := by
  obtain ⟨xs, es, ep, a, b, c, d, e, f, g⟩ := T
  refine ⟨xs, es, ep, a, b, c, d, e, Nat.le_trans f hn, fun i j hd => ?_⟩
  obtain ⟨h1, h2⟩ := h i j hd
  rw [h2]; exact g i j h1

theorem Tab.cell {prog : Program} {w : World} {ks : List (Addr × Obj)} {o : Obj} {D : Int → Int → Int} {dom : Int → Int → Prop} {n : Nat} {i j v : Int}
    (T : Tab prog w ks o (fun a b => if a = i ∧ b = j then v else D a b) (fun a b => dom a b ∨ (a = i ∧ b = j)) n) (hv : v = D i j) : Tab prog w ks o D (fun a b => dom a b ∨ (a = i ∧ b = j)) n :=
  T.mono (fun a b h => ⟨h, by
    by_cases e : a = i ∧ b = j
    · rw [if_pos e, e.1, e.2, hv]
    · rw [if_neg e]⟩) (Nat.le_refl _)
theorem Tab.cell2 {prog : Program} {w : World} {ks : List (Addr × Obj)} {o : Obj} {D : Int → Int → Int} {dom : Int → Int → Prop} {n : Nat} {i j v v' : Int}
    (T : Tab prog w ks o (fun a b => if a = i ∧ b = j then v' else if a = i ∧ b = j then v else D a b) (fun a b => (dom a b ∨ (a = i ∧ b = j)) ∨ (a = i ∧ b = j)) n) (hv : v' = D i j) : Tab prog w ks o D (fun a b => dom a b ∨ (a = i ∧ b = j)) n :=
  T.mono (fun a b h => ⟨.inl h, by
    by_cases e : a = i ∧ b = j
    · rw [if_pos e, e.1, e.2, hv]
    · rw [if_neg e, if_neg e]⟩) (Nat.le_refl _)

theorem Tab.dict {prog : Program} {w : World} {ks : List (Addr × Obj)} {o : Obj} {D : Int → Int → Int} {dom : Int → Int → Prop} {n : Nat} (T : Tab prog w ks o D dom n) {h : Heap} {d : Addr} (hd : h.get? d = some o) (hk : ∀ p ∈ ks, h.get? p.1 = some p.2) :
    ∃ xs, h.DictOfH (tupleKind (intKind prog w)) d xs ∧ xs.length ≤ n ∧ (∀ x ∈ xs, ∃ i j q, x.1 = [i, j] ∧ (x.2.1, q) ∈ ks ∧ IsPair i j q) ∧ ∀ i j, dom i j → ∃ a t, atKey xs [i, j] = some (a, .int (D i j) t) := by
  obtain ⟨xs, es, ep, a, b, c, e, f, g, k⟩ := T
  refine ⟨xs, ⟨o, es, ep, hd, a, b, c, fun x hx => ?_, f⟩, g, e, k⟩
  obtain ⟨i, j, q, h1, h2, h3⟩ := e x hx
  rw [h1]
  exact isKey_of (hk _ h2) h3

/-- the keys stand apart from what is no key -/
def Keys (ks rest : List (Addr × Obj)) (d : Addr) : Prop := ∀ p ∈ ks, p.1 ≠ d ∧ ∀ q ∈ rest, p.1 ≠ q.1
/-- the parts of the ledger stand apart -/
def Apart (own ks rest : List (Addr × Obj)) (d : Addr) : Prop :=
  (∀ p ∈ own, p.1 ≠ d) ∧ Keys ks rest d ∧ (∀ p ∈ rest, p.1 ≠ d) ∧ (∀ p ∈ ks, ∀ q ∈ own, p.1 ≠ q.1) ∧ ∀ p ∈ rest, ∀ q ∈ own, p.1 ≠ q.1
theorem Apart.of {own ks rest : List (Addr × Obj)} {d : Addr} {o : Obj} (h : ∀ p ∈ ks ++ (d, o) :: rest, ∀ q ∈ own, p.1 ≠ q.1) (h2 : Keys ks rest d) (h3 : ∀ p ∈ rest, p.1 ≠ d) : Apart own ks rest d :=
  ⟨fun p hp => (h (d, o) (by simp) p hp).symm, h2, h3, fun p hp => h p (by simp [hp]), fun p hp => h p (by simp [hp])⟩
theorem Apart.sep {own ks rest : List (Addr × Obj)} {d : Addr} {o : Obj} (S : Apart own ks rest d) : ∀ p ∈ ks ++ (d, o) :: rest, ∀ q ∈ own, p.1 ≠ q.1 := by
  obtain ⟨h1, h2, h3, h4, h5⟩ := S
  intro p hp q hq
  rcases List.mem_append.mp hp with hp | hp
  · exact h4 p hp q hq
  · rcases List.mem_cons.mp hp with rfl | hp
    · exact (h1 q hq).symm
    · exact h5 p hp q hq

section
variable {prog : Program} {w : World} {A : Around} {E : Value → Shared → Prop} {s : Shared} {h₀ : Heap} {L a d : Addr} {m : Str → Option Value} {own ks rest : List (Addr × Obj)} {o q : Obj}
  {D : Int → Int → Int} {dom : Int → Int → Prop} {n : Nat} {i j : Int}

/-- d[i, j] behind its key's making: the key is dropped -/
theorem tabItem {value slice : PySem.Expr} {Q : Value → Shared → Prop} (N : News h₀ L s.heap ((a, q) :: (own ++ (ks ++ (d, o) :: rest)))) (hq : IsPair i j q) (T : Tab prog w ks o D dom n) (hij : dom i j) (hu : A.units + 1 < cLine)
    (hs : subscripted slice false (.ref d) (.ref a) = operate [.ref d, .ref a] (getItem (.ref d) (.ref a)))
    (h : ∀ t tk, News h₀ L s.heap (own ++ (ks ++ (d, o) :: rest)) → Q (.int (D i j) t) { s with toks := tk }) :
    wpAny (model prog w) A (subscriptTail value slice (.ref d) (.ref a)) Q E s := by
  have hd : s.heap.get? d = some o := (N (d, o) (by simp)).1
  obtain ⟨xs, hm, _, _, hv⟩ := T.dict hd (fun p hp => (N p (by simp [hp])).1)
  obtain ⟨b, t, hv⟩ := hv i j hij
  refine tail_any hm.typeIs slot_dict_getitem.lookup (wpAny_getItem_heap (knd := tupleKind (intKind prog w)) (k := [i, j]) (tupleKind_room_in1 hu) (isKey_of (N (a, q) (by simp)).1 hq) hm hv ?_) hs
  exact h t _ fun p hp => N p (List.mem_cons_of_mem _ hp)

/-- d[i, j] = v behind its key's making -/
theorem tabStore {v : Int} {t : Tok} {Q : Unit → Shared → Prop} (F : Fr h₀ L s.heap m) (N : News h₀ L s.heap ((a, q) :: (own ++ (ks ++ (d, o) :: rest)))) (hq : IsPair i j q) (T : Tab prog w ks o D dom n) (hu : A.units + 1 < cLine) (hn : n ≤ sizeLine)
    (S : Apart own ks rest d) (l : ∀ p ∈ own ++ (ks ++ (d, o) :: rest), p.1 < a)
    (h : ∀ h' o' tk, Fr h₀ L h' m → News h₀ L h' (own ++ (((a, q) :: ks) ++ (d, o') :: rest)) → Tab prog w ((a, q) :: ks) o' (fun x y => if x = i ∧ y = j then v else D x y) (fun x y => dom x y ∨ (x = i ∧ y = j)) (n + 1) → Apart own ((a, q) :: ks) rest d → Q () { s with heap := h', toks := tk }) :
    wpAny (model prog w) A (setItem (.ref d) (.ref a) (.int v t)) Q E s := by
  obtain ⟨h1, h2, h3, h5, h6⟩ := id S
  have h4 : a ≠ d := Nat.ne_of_gt (l (d, o) (by simp))
  have Nd := N (d, o) (by simp)
  obtain ⟨xs, hm, hlen, hxs, hv⟩ := T.dict Nd.1 (fun p hp => (N p (by simp [hp])).1)
  refine wpAny_setItem_heap (knd := tupleKind (intKind prog w)) (k := [i, j]) (tupleKind_room_in1 hu) (isKey_of (N (a, q) (by simp)).1 hq) hm (fun h' hm' hs' => ?_) (Nat.le_trans hlen hn)
  obtain ⟨o', es', ep', ho', hc', hd', he', his', hnd'⟩ := hm'
  refine h h' o' _ (F.change hs' Nd.2.1 Nd.2.2) (fun p hp => ?_) ⟨_, es', ep', hc', hd', he', fun x hx => ?_, hnd', Nat.le_trans (length_stored ..) (Nat.succ_le_succ hlen), fun x y hxy => ?_⟩
    ⟨h1, fun p hp => ?_, h3, fun p hp r hr => ?_, h6⟩
  · have keepP : ∀ p, p ∈ (a, q) :: (own ++ (ks ++ (d, o) :: rest)) → p.1 ≠ d → h'.get? p.1 = some p.2 ∧ p.1 ≠ L ∧ h₀.get? p.1 = none := fun p hp hne => ⟨(hs'.2 p.1 hne).trans (N p hp).1, (N p hp).2⟩
    simp only [List.cons_append, List.mem_append, List.mem_cons] at hp
    rcases hp with hp | hp | hp | hp | hp
    · exact keepP p (by simp [hp]) (h1 p hp)
    · rw [hp]; exact keepP _ (by simp) h4
    · exact keepP p (by simp [hp]) (h2 p hp).1
    · rw [hp]; exact ⟨ho', Nd.2⟩
    · exact keepP p (by simp [hp]) (h3 p hp)
  · rcases mem_stored hx with e | ⟨y, hy, e1, e2⟩
    · obtain ⟨e1, e2⟩ := Prod.mk.inj e
      exact ⟨i, j, q, e1, by rw [e2]; exact .head _, hq⟩
    · obtain ⟨i', j', q', r1, r2, r3⟩ := hxs y hy
      exact ⟨i', j', q', e1 ▸ r1, by rw [← e2]; exact .tail _ r2, r3⟩
  · by_cases e : x = i ∧ y = j
    · obtain ⟨rfl, rfl⟩ := e
      obtain ⟨b, hb⟩ := atKey_stored_self [x, y] a (.int v t) xs
      exact ⟨b, t, by simp only [and_self, if_true]; exact hb⟩
    · have hne : [x, y] ≠ [i, j] := fun z => e (by simpa using z)
      rw [atKey_stored_ne hne]
      simp only [e, if_false]
      rcases hxy with hd | hd
      · exact hv x y hd
      · exact absurd hd e
  · rcases List.mem_cons.mp hp with rfl | hp
    · exact ⟨h4, fun q hq => Nat.ne_of_gt (l q (by simp [hq]))⟩
    · exact h2 p hp
  · rcases List.mem_cons.mp hp with rfl | hp
    · exact Nat.ne_of_gt (l r (by simp [hr]))
    · exact h5 p hp r hr

/-- a pair's making, the ledger as it stands -/
theorem pairNew {t u : Tok} {news : List (Addr × Obj)} {Q : Value → Shared → Prop} (F : Fr h₀ L s.heap m) (N : News h₀ L s.heap news)
    (h : ∀ h' a q, Fr h₀ L h' m → News h₀ L h' ((a, q) :: news) → IsPair i j q → (∀ p ∈ news, p.1 < a) → Q (.ref a) { s with heap := h' }) :
    wpAny (model prog w) A (newTuple [.int i t, .int j u]) Q E s :=
  newTuple_N F N (fun h' F' N' => h h' _ _ F' N' ⟨rfl, t, u, 0, rfl⟩ fun p hp => Heap.lt_size (N p hp).1) (by rw [sizeLine_eq]; simp)
end
end Mine
end
section
open PySem PySem.W PySem.Spec PySem.Calls PyProof.Rows
set_option maxRecDepth 100000
set_option maxHeartbeats 4000000
namespace Mine

/-- stations where the walk waits for an invariant -/
def RangeLoop (prog : Program) (w : World) (A : Around) (h₀ : Heap) (env : Env) (x : Str) (body : List Stmt) (Q : Flow → Shared → Prop) (E : Value → Shared → Prop) (xv : Value) (s₁ : Shared) : Prop :=
  wpAny (model prog w) A (pyIter xv) (fun it s₂ => LoopAtV prog w A h₀ env x body Q E it s₂) E s₁
def PairLoop (prog : Program) (w : World) (A : Around) (env : Env) (target : PySem.Expr) (body : List Stmt) (Q : Flow → Shared → Prop) (E : Value → Shared → Prop) (xv : Value) (s₁ : Shared) : Prop :=
  wpAny (model prog w) A (pyIter xv) (fun it s₂ => ForGo prog w A env target body Q E it s₂) E s₁

section
variable {prog : Program} {w : World} {A : Around} {E : Value → Shared → Prop} {s : Shared} {env : Env} {h₀ : Heap} {Q : Flow → Shared → Prop}
theorem For_range {x : Str} {body : List Stmt} {m : Str → Option Value} {px pos : Pos} {iter : PySem.Expr} (F : Fr h₀ env.locals s.heap m) (hx : env.kindOf x = some .local)
    (hp : (env.scope.kind == .class || (env.scope.kind == .module && env.locals != env.globals)) = false)
    (h : wpAny (model prog w) A (eval iter env) (fun xv s₁ => RangeLoop prog w A h₀ env x body Q E xv s₁) E s)
    (hs : ∀ x, foldedSetIterable iter env x = pure x := by intro _; rfl)
    (hE : PassesOwn (model prog w) A env E := by passes_own) :
    wpAny (model prog w) A (exec (.For (.Name x px) iter body [] pos) env) Q E s := For_invVF F hx hp h hs hE
theorem For_pair {target iter : PySem.Expr} {body : List Stmt} {pos : Pos}
    (h : wpAny (model prog w) A (eval iter env) (fun xv s₁ => PairLoop prog w A env target body Q E xv s₁) E s)
    (hs : ∀ x, foldedSetIterable iter env x = pure x := by intro _; rfl) :
    wpAny (model prog w) A (exec (.For target iter body [] pos) env) Q E s := For_go h hs
end
end Mine
end
section
open PySem PySem.W PySem.Spec PySem.Calls PyProof.Rows
set_option maxRecDepth 100000
set_option maxHeartbeats 4000000
namespace Mine

/-- how many different texts stand in the first i -/
def diffs (cs : List Str) : Nat → Nat
  | 0 => 0
  | i + 1 => if cs.getD i Str.empty ∈ cs.take i then diffs cs i else diffs cs i + 1
theorem diffs_le (cs : List Str) : ∀ i, diffs cs i ≤ i
  | 0 => Nat.le_refl _
  | i + 1 => by have := diffs_le cs i; unfold diffs; split <;> omega

theorem take_succ_mem {cs : List Str} {i : Nat} (hi : i < cs.length) (k : Str) : k ∈ cs.take (i + 1) ↔ k ∈ cs.take i ∨ k = cs.getD i Str.empty := by
  rw [List.take_add_one, List.getElem?_eq_getElem hi, List.mem_append]
  simp [List.getD, List.getElem?_eq_getElem hi]

section
variable {prog : Program} {w : World} {A : Around} {R : Result → Shared → Prop} {I : Addr} {fp wr : List Addr} {G : Array GenState → Array GenState → Prop} {P : Nat → Value → Prop} {St : Nat → Shared → Prop} {cs : List Str}

/-- set(texts): the loop that fills the set, from item i on -/
theorem fillTexts (W : WalksS prog w A.in1 I fp wr G cs.length P St) (S : Addr) (hS : S ∉ fp) (hP : ∀ i v, i < cs.length → P i v → ∃ t, v = .str (cs.getD i Str.empty) t) (hb : cs.length + 1 < scanBound) :
    ∀ (k i : Nat) (s : Shared), cs.length - i = k → i ≤ cs.length → St i s → s.heap.SetOf (strKind prog w) S (fun x => decide (x ∈ cs.take i)) (diffs cs i) →
      (∀ s', Moved (S :: wr) G s s' → s'.heap.SetOf (strKind prog w) S (fun x => decide (x ∈ cs)) (diffs cs cs.length) → R (.ok (.ret .none)) s') →
      codeAny (model prog w) A (.builtin "set.update.loop" ⟨[.ref S, .ref I], []⟩) R s := by
  have hSw : S ∉ wr := fun h => hS (W.sub _ h)
  have hsub : ∀ b ∈ wr, b ∈ S :: wr := fun b hb => List.mem_cons_of_mem _ hb
  intro k
  induction k with
  | zero =>
    intro i s hk hi hst hSo hR
    obtain rfl : i = cs.length := by omega
    refine codeAny_builtin F.entry_set_update_loop ?_
    rw [Around.under_plainId F.plain_set_update_loop _]
    show wpAny _ A.in1 (pyNext (.ref I) >>= _) _ _ s
    refine wpAny_bind (W.done s _ _ hst fun s' hm => ?_)
    show wpAny _ A.in1 (ret Value.none) _ _ s'
    obtain ⟨o, es, ep, t, ho, rest⟩ := hSo
    rw [List.take_length] at rest
    exact wpAny_pure (hR s' (hm.mono hsub) ⟨o, es, ep, t, hm.heap S _ hSw ho, rest⟩)
  | succ k ih =>
    intro i s hk hi hst hSo hR
    have hlt : i < cs.length := by omega
    refine codeAny_builtin F.entry_set_update_loop ?_
    rw [Around.under_plainId F.plain_set_update_loop _]
    show wpAny _ A.in1 (pyNext (.ref I) >>= _) _ _ s
    refine wpAny_bind (W.item i s _ _ hlt hst fun v s' hPv hst' hm => ?_)
    obtain ⟨t, rfl⟩ := hP i v hlt hPv
    generalize hc : cs.getD i Str.empty = c
    obtain ⟨o, es, ep, tb, ho, rest⟩ := hSo
    have hS' : s'.heap.SetOf (strKind prog w) S (fun x => decide (x ∈ cs.take i)) (diffs cs i) := ⟨o, es, ep, tb, hm.heap S _ hSw ho, rest⟩
    show wpAny _ A.in1 (holding [Value.str c t] (setAdd S (.str c t)) >>= _) _ _ s'
    refine wpAny_bind (wpAny_holding ?_)
    unfold setAdd
    refine wpAny_holding (wpAny_bind ((strKind prog w).pyHash (k := c) (strKind_is ..) ?_))
    have hroom : diffs cs i + 1 < scanBound := by have := diffs_le cs i; omega
    refine wpAny_setAddHashed_of (knd := strKind prog w) (s := { s' with toks := s'.toks + 1 }) (strKind_is ..) rfl hS' hroom fun h' hsb hS2 => ?_
    have hSi : h'.SetOf (strKind prog w) S (fun x => decide (x ∈ cs.take (i + 1))) (diffs cs (i + 1)) := by
      have e1 : (fun x => decide (x ∈ cs.take i) || decide (x = c)) = fun x => decide (x ∈ cs.take (i + 1)) := by
        funext x
        rw [Bool.eq_iff_iff, Bool.or_eq_true, decide_eq_true_eq, decide_eq_true_eq, decide_eq_true_eq, take_succ_mem hlt, hc]
      have e2 : (if decide (c ∈ cs.take i) = true then diffs cs i else diffs cs i + 1) = diffs cs (i + 1) := by
        rw [diffs, hc]; simp only [decide_eq_true_eq]
      rw [e1, e2] at hS2
      exact hS2
    refine wpAny_pure ⟨plainId_quiet F.plain_set_update_loop _, ih (i + 1) _ (by omega) hlt (W.frame _ s' _ _ hst' (Nat.le_succ _) fun b hb o e => ?_) hSi fun s'' hm'' hS'' => ?_⟩
    · rw [hsb.2 b (fun h : b = S => hS (by rw [← h]; exact hb))]; exact e
    · refine hR s'' (Moved.trans W.gtrans ((hm.mono hsub).then_heap (Nat.le_succ _) fun b o hb e => ?_) hm'') hS''
      rw [hsb.2 b (fun h : b = S => hb (by rw [h]; exact List.mem_cons_self))]; exact e
end

theorem sub_tuple_set : isSubtype (.type "tuple") (.type "set") = pure false := by rw [isSubtype_type]; kernel_rfl
theorem sub_tuple_frozenset : isSubtype (.type "tuple") (.type "frozenset") = pure false := by rw [isSubtype_type]; kernel_rfl

section
variable {prog : Program} {w : World} {A : Around} {E : Value → Shared → Prop} {s : Shared}

/-- set(a tuple of texts) -/
theorem callSetTuple {l : Addr} {items : Array Value} {cs : List Str} {Q : Value → Shared → Prop}
    (hh : A.handled = none) (hl : s.heap.IsTuple l items) (hlen : items.size = cs.length) (hi : ∀ i v, items[i]? = some v → ∃ t, v = Value.str (cs.getD i Str.empty) t) (hb : cs.length + 1 < scanBound)
    (h : ∀ (h' : Heap) (tk : Nat), h'.SetOf (strKind prog w) s.heap.objs.size (fun x => decide (x ∈ cs)) (diffs cs cs.length) →
      (∀ b o, b < s.heap.objs.size → s.heap.get? b = some o → h'.get? b = some o) → Q (.ref s.heap.objs.size) { s with heap := h', toks := tk }) :
    wpAny (model prog w) A (call (.type "set") [.ref l]) Q E s := by
  obtain ⟨c, tl, hmro⟩ := F.called_set.mro
  have hmade := F.called_set.made
  have hsub := F.called_set.sub
  refine wpAny_call (codeAny_of_tree ?_)
  show wpAny _ _ (callAny (.type "set") _) _ _ _
  refine wpAny_pure ⟨Code.quiet_builtin _ (by decide +kernel), codeAny_builtin F.entry_type_call ?_⟩
  rw [Around.under_plain (weight_type_call_type "set" [.ref l] []) rfl]
  have h1 := F.called_set.notType
  have h2 := F.called_set.canCreate
  have hct := F.typeCall_set_1 (.ref l)
  repeat (any_goals (first | assumption | wp_step))
  refine codeAny_mono (code_set_new_1 (.ref l) (E := E) (Q₁ := fun obj s₁ => ∃ led : Bool, obj = .ref s.heap.objs.size ∧ s₁ = { s with heap := s.heap.push { cls := .type "set", dict := none, data := .set #[] 0 (.fresh 0 0 led) } }) fun led => ⟨led, rfl, rfl⟩) fun r s₁ hr => ?_
  rcases r with e | (_ | _ | _ | obj)
  · exact hr
  · exact hr.elim
  · exact hr.elim
  · exact hr.elim
  obtain ⟨led, rfl, rfl⟩ := hr
  generalize hs0 : ({ cls := .type "set", dict := none, data := .set #[] 0 (.fresh 0 0 led) } : Obj) = s0
  have hS : (s.heap.push s0).get? s.heap.objs.size = some s0 := Heap.get?_push_size _ (by rw [← hs0]; rfl)
  have hT : Shared.TypeIs { s with heap := s.heap.push s0 } (.ref s.heap.objs.size) "set" := ⟨_, hS, by rw [← hs0]⟩
  have hli := F.called_set.init.lookup
  have hbi := F.called_set.init.bind (.ref s.heap.objs.size)
  have hso : Obj.SetObjOf (strKind prog w) s0 (fun _ => false) 0 := by rw [← hs0]; exact setObjOf_fresh led
  subst hs0
  repeat (any_goals (first | assumption | wp_step))
  refine codeAny_mono (codeAny_call_builtin (R := wants (fun r s₂ => r = .none ∧ ∃ h' tk, s₂ = { s with heap := h', toks := tk } ∧
      h'.SetOf (strKind prog w) s.heap.objs.size (fun x => decide (x ∈ cs)) (diffs cs cs.length) ∧
      (∀ b o, b < s.heap.objs.size → s.heap.get? b = some o → h'.get? b = some o)) E) F.called_set.init.plain F.entry_set_init (check_set_init_1 hT ?_)) fun r₂ s₂ hr₂ => ?_
  · obtain ⟨ol, hol, hcl, nl, hdl⟩ := hl
    obtain ⟨ocls, odict, odata, oslots⟩ := ol
    simp only at hcl hdl
    subst hcl; subst hdl
    have hol' : (s.heap.push { cls := .type "set", dict := none, data := .set #[] 0 (.fresh 0 0 led) }).get? l = some { cls := .type "tuple", dict := odict, data := .seq items nl, slots := oslots } := Heap.get?_push_of_some _ hol
    have hsls := sub_tuple_set
    have hslf := sub_tuple_frozenset
    have hne : (Value.type "tuple" == Value.type "dict") = false := by decide
    have hl1 : (s.heap.push { cls := .type "set", dict := none, data := .set #[] 0 (.fresh 0 0 led) }).IsTuple l items := ⟨_, hol', rfl, nl, rfl⟩
    unfold Builtin.«set.__init__» noKeywords Builtin.Frozenset.updateFrom
    generalize hPI : pyIter = PI
    wp_walk
    subst hPI
    refine wpAny_pyIter_tuple hl1 ?_
    refine wpAny_bind (wpAny_runValue ?_)
    have hlS : l < s.heap.objs.size := Heap.lt_size hol
    have hh3 : A.in1.in1.in1.handled = none := by simp [hh]
    have hneI : l ≠ (s.heap.push { cls := .type "set", dict := none, data := .set #[] 0 (.fresh 0 0 led) }).objs.size := by
      rw [Heap.size_push]; exact Nat.ne_of_lt (Nat.lt_succ_of_lt hlS)
    have hSf : s.heap.objs.size ∉ [(s.heap.push { cls := .type "set", dict := none, data := .set #[] 0 (.fresh 0 0 led) }).objs.size, l] := by
      rw [Heap.size_push]; simp only [List.mem_cons, List.not_mem_nil, or_false, not_or]
      exact ⟨Nat.ne_of_lt (Nat.lt_succ_self _), Nat.ne_of_gt hlS⟩
    refine fillTexts (hlen ▸ (Walks.tuple hh3 _ l hneI items).toS) s.heap.objs.size hSf (fun i v _ hv => hi i v hv) hb (cs.length - 0) 0 _ (by omega) (Nat.zero_le _)
      ⟨⟨_, Heap.get?_push_size _ rfl, rfl, rfl⟩, hl1.at fun o e => Heap.get?_push_of_some _ e⟩ ?_ ?_
    · refine (Obj.SetObjOf.setOf ?_ (Heap.get?_push_of_some _ hS) (by show diffs cs 0 < scanBound; unfold diffs scanBound; omega))
      simpa [diffs] using hso
    · intro s' hm hS'
      obtain ⟨h', g', d', tk', os'⟩ := s'
      have eg : g' = s.gens := hm.gens
      have ed : d' = s.drawn := hm.drawn
      have eo : os' = s.os := hm.os
      subst eg; subst ed; subst eo
      show wpAny _ _ _ _ _ _
      refine wpAny_pure ?_
      show wpAny _ _ (ret Value.none) _ _ _
      refine wpAny_pure ⟨rfl, h', tk', rfl, hS', fun b o hb e => ?_⟩
      have hb1 : b ≠ s.heap.objs.size := Nat.ne_of_lt hb
      have hb2 : b ≠ (s.heap.push { cls := .type "set", dict := none, data := .set #[] 0 (.fresh 0 0 led) }).objs.size := by
        rw [Heap.size_push]; exact Nat.ne_of_lt (Nat.lt_succ_of_lt hb)
      exact hm.heap b o (by simp only [List.mem_cons, List.not_mem_nil, or_false, not_or]; exact ⟨hb1, hb2⟩) (Heap.get?_push_of_some _ (Heap.get?_push_of_some _ e))
  · rcases r₂ with e | (_ | _ | _ | r)
    · exact hr₂
    · exact hr₂.elim
    · exact hr₂.elim
    · exact hr₂.elim
    obtain ⟨rfl, h', tk, rfl, hS', hk'⟩ := hr₂
    repeat (any_goals (first | assumption | wp_step))
    exact h _ _ hS' hk'

variable {h₀ : Heap} {L : Addr} {m : Str → Option Value} {news : List (Addr × Obj)}
/-- set((a, b)) of two texts of the ledger's tuple -/
theorem setOfTwo {l : Addr} {x y : Str} {t u : Tok} {n : Nat} {Q : Value → Shared → Prop} (hh : A.handled = none) (F : Fr h₀ L s.heap m) (N : News h₀ L s.heap news)
    (hl : (l, ({ cls := .type "tuple", data := .seq #[.str x t, .str y u] n } : Obj)) ∈ news)
    (h : ∀ h' (tk : Nat) (a : Addr) o, Fr h₀ L h' m → News h₀ L h' ((a, o) :: news) → o.SetObjOf (strKind prog w) (fun z => decide (z ∈ [x, y])) (if x = y then 1 else 2) → (∀ p ∈ news, p.1 < a) → Q (.ref a) { s with heap := h', toks := tk }) :
    wpAny (model prog w) A (call (.type "set") [.ref l]) Q E s := by
  have e2 : diffs [x, y] 2 = if x = y then 1 else 2 := by
    by_cases e : x = y
    · subst e; simp [diffs]
    · have : ¬ y = x := fun z => e z.symm
      simp [diffs, e, this]
  refine callSetTuple (items := #[.str x t, .str y u]) (cs := [x, y]) hh ⟨_, (N _ hl).1, rfl, n, rfl⟩ rfl ?_ (by show 2 + 1 < scanBound; unfold scanBound; omega) fun h' tk hS hk => ?_
  · intro i v hv
    match i, hv with
    | 0, hv => exact ⟨t, by simpa using hv.symm⟩
    | 1, hv => exact ⟨u, by simpa using hv.symm⟩
    | i + 2, hv => simp at hv
  obtain ⟨o, ho, hso⟩ := hS.objOf
  have hLlt : L < s.heap.objs.size := F.ns.lt
  rw [show ([x, y] : List Str).length = 2 from rfl, e2] at hso
  refine h h' tk _ o ⟨F.ns.at' fun o' e => hk L o' hLlt e, fun b o' e => hk b o' (Heap.lt_size (F.keep b o' e)) (F.keep b o' e), F.above⟩ (fun p hp => ?_) hso fun p hp => Heap.lt_size (N p hp).1
  rcases List.mem_cons.mp hp with rfl | hp
  · refine ⟨ho, Nat.ne_of_gt hLlt, ?_⟩
    exact Heap.get?_none_of_le (Nat.le_trans F.above (Nat.le_of_lt hLlt))
  · exact ⟨hk _ _ (Heap.lt_size (N p hp).1) (N p hp).1, (N p hp).2.1, (N p hp).2.2⟩
end
end Mine
end
section
open PySem PySem.W PySem.Spec PySem.Calls PyProof.Rows
set_option maxRecDepth 100000
set_option maxHeartbeats 4000000
namespace Mine

/-- two maps agree off some names -/
def Off (vs : List Str) (m m₀ : Str → Option Value) : Prop := ∀ z, z ∉ vs → m z = m₀ z
theorem memSwap {α : Type} {own ks rest : List α} {x p : α} (h : p ∈ ks ++ x :: (own ++ rest)) : p ∈ own ++ (ks ++ x :: rest) := by
  simp only [List.mem_append, List.mem_cons] at h ⊢
  rcases h with h | h | h | h <;> simp [h]
theorem memBack {α : Type} {own ks rest : List α} {x p : α} (h : p ∈ own ++ (ks ++ x :: rest)) : p ∈ ks ++ x :: (own ++ rest) := by
  simp only [List.mem_append, List.mem_cons] at h ⊢
  rcases h with h | h | h | h <;> simp [h]
theorem EnumStr.mono {h₀ : Heap} {L : Addr} {news news' : List (Addr × Obj)} {x : Str} {a : Nat} {e : Addr} {h : Heap} (H : EnumStr h₀ L news x a e h) (hs : ∀ p ∈ news', p ∈ news) : EnumStr h₀ L news' x a e h := by
  obtain ⟨it, ty, t, a1, a2, a3, a4, a5, a6, a7, a8, a9⟩ := H
  exact ⟨it, ty, t, a1, a2, a3, a4, a5, a6, a7, a8, fun p hp => a9 p (hs p hp)⟩
theorem Off.refl {vs : List Str} {m : Str → Option Value} : Off vs m m := fun _ _ => rfl
theorem Off.ite {vs : List Str} {a : Str} {f m m₀ : Str → Option Value} (ha : a ∈ vs) (h : Off vs m m₀) : Off vs (fun y => if y = a then f y else m y) m₀ := fun z hz => by
  have : z ≠ a := fun e => hz (e ▸ ha)
  show (if z = a then f z else m z) = m₀ z
  rw [if_neg this]; exact h z hz
theorem Off.one {a : Str} {m m₀ : Str → Option Value} (h : Off [a] m m₀) : m = fun z => if z = a then m z else m₀ z := by
  funext z
  by_cases e : z = a
  · simp [e]
  · simp only [e, if_false]; exact h z (by simpa using e)
theorem Off.two {a b : Str} {m m₀ : Str → Option Value} (h : Off [a, b] m m₀) : m = fun z => if z = a then m z else if z = b then m z else m₀ z := by
  funext z
  by_cases e : z = a
  · simp [e]
  by_cases e2 : z = b
  · simp [e2]
  · simp only [e, e2, if_false]; exact h z (by simp [e, e2])
theorem Off.three {a b c : Str} {m m₀ : Str → Option Value} (h : Off [a, b, c] m m₀) : m = fun z => if z = a then m z else if z = b then m z else if z = c then m z else m₀ z := by
  funext z
  by_cases e : z = a
  · simp [e]
  by_cases e2 : z = b
  · simp [e2]
  by_cases e3 : z = c
  · simp [e3]
  · simp only [e, e2, e3, if_false]; exact h z (by simp [e, e2, e3])
theorem Off.five {a b c d e : Str} {m m₀ : Str → Option Value} (h : Off [a, b, c, d, e] m m₀) : m = fun z => if z = a then m z else if z = b then m z else if z = c then m z else if z = d then m z else if z = e then m z else m₀ z := by
  funext z
  by_cases e1 : z = a
  · simp [e1]
  by_cases e2 : z = b
  · simp [e2]
  by_cases e3 : z = c
  · simp [e3]
  by_cases e4 : z = d
  · simp [e4]
  by_cases e5 : z = e
  · simp [e5]
  · simp only [e1, e2, e3, e4, e5, if_false]; exact h z (by simp [e1, e2, e3, e4, e5])
theorem Off.cons {a : Str} {vs : List Str} {m m₀ : Str → Option Value} (h : Off (a :: vs) m m₀) : ∃ m₁, Off vs m₁ m₀ ∧ m = fun z => if z = a then m z else m₁ z := by
  refine ⟨fun z => if z = a then m₀ z else m z, fun z hz => ?_, ?_⟩
  · by_cases e : z = a
    · simp [e]
    · simp only [e, if_false]; exact h z (by simp [e, hz])
  · funext z
    by_cases e : z = a
    · simp [e]
    · simp [e]
theorem Off.nil {m m₀ : Str → Option Value} (h : Off [] m m₀) : m = m₀ := funext fun z => h z (by simp)

section
variable {prog : Program} {w : World} {A : Around} {E : Value → Shared → Prop} {s : Shared} {env : Env} {h₀ : Heap} {Q : Flow → Shared → Prop}

theorem iterRangeO {x : Str} {body : List Stmt} {r : Addr} {a₀ b₀ : Int} {t₀ u₀ v₀ : Tok} {m₀ : Str → Option Value} {news : List (Addr × Obj)} (n : Nat) (vs : List Str)
    (J : Nat → (Str → Option Value) → List (Addr × Obj) → Prop)
    (hh : A.handled = none) (hr : IsRange s.heap r a₀ b₀ 1 t₀ u₀ v₀) (hsmall : Builtin.Range.small a₀ b₀ 1 = true) (hn : Builtin.Range.rangeSize a₀ b₀ 1 = (n : Int)) (F : Fr h₀ env.locals s.heap m₀) (N : News h₀ env.locals s.heap news) (h0 : J 0 m₀ news)
    (turn : ∀ (i : Nat) t m₁ nx h tk own, i < n → Off vs m₁ m₀ → J i m₁ nx → (∀ p ∈ nx, ∀ q ∈ own, p.1 ≠ q.1) → Fr h₀ env.locals h (fun y => if y = x then some (.int (a₀ + (i : Int)) t) else m₁ y) → News h₀ env.locals h (own ++ nx) →
      wpAny (model prog w) A (execs body env) (TurnEnd h₀ env.locals (fun m nx => Off vs m m₀ ∧ J (i + 1) m nx) own { s with heap := h, toks := tk } Q) E { s with heap := h, toks := tk })
    (done : ∀ m₁ nx h tk, Off vs m₁ m₀ → J n m₁ nx → Fr h₀ env.locals h m₁ → News h₀ env.locals h nx → Q .next { s with heap := h, toks := tk }) :
    wpAny (model prog w) A (pyIter (.ref r)) (fun it s₂ => LoopAtV prog w A h₀ env x body Q E it s₂) E s :=
  iterRangeG (fun i m nx => Off vs m m₀ ∧ J i m nx) hh hr hsmall hn F N ⟨.refl, h0⟩ (fun i t m₁ nx h tk own hi hJ => turn i t m₁ nx h tk own hi hJ.1 hJ.2) fun m₁ nx h tk hJ => done m₁ nx h tk hJ.1 hJ.2

theorem enumGoO {x : Str} {xi xc : Str} {pk pv pt : Pos} {x1 : Nat} {body : List Stmt} {a : Nat} {e : Addr} {m₀ : Str → Option Value} {news : List (Addr × Obj)} (vs : List Str)
    (J : Nat → (Str → Option Value) → List (Addr × Obj) → Prop)
    (hh : A.handled = none) (he : EnumStr h₀ env.locals news x a e s.heap) (F : Fr h₀ env.locals s.heap m₀) (N : News h₀ env.locals s.heap news)
    (hE : PassesOwn (model prog w) A env E)
    (hxi : env.kindOf xi = some .local) (hxc : env.kindOf xc = some .local)
    (hp : (env.scope.kind == .class || (env.scope.kind == .module && env.locals != env.globals)) = false)
    (h0 : J 0 m₀ news)
    (turn : ∀ (i : Nat) c t u m₁ nx h tk own, x.cps[i]? = some c → Off vs m₁ m₀ → J i m₁ nx → (∀ p ∈ nx, ∀ q ∈ own, p.1 ≠ q.1) →
      Fr h₀ env.locals h (fun y => if y = xc then some (.str ⟨#[c]⟩ u) else if y = xi then some (.int ((i + a : Nat) : Int) t) else m₁ y) → News h₀ env.locals h (own ++ nx) →
      wpAny (model prog w) A (execs body env) (TurnEnd h₀ env.locals (fun m nx => Off vs m m₀ ∧ J (i + 1) m nx) own { s with heap := h, toks := tk } Q) E { s with heap := h, toks := tk })
    (done : ∀ m₁ nx h tk, Off vs m₁ m₀ → J x.cps.size m₁ nx → Fr h₀ env.locals h m₁ → News h₀ env.locals h nx → Q .next { s with heap := h, toks := tk }) :
    wpAny (model prog w) A (pyIter (.ref e)) (fun it s₂ => ForGo prog w A env (.Tuple [.Name xi pk, .Name xc pv] x1 pt) body Q E it s₂) E s :=
  enumGo (fun i m nx => Off vs m m₀ ∧ J i m nx) hh he F N hE hxi hxc hp ⟨.refl, h0⟩ (fun i c t u m₁ nx h tk own hc hJ => turn i c t u m₁ nx h tk own hc hJ.1 hJ.2) fun m₁ nx h tk hJ => done m₁ nx h tk hJ.1 hJ.2
end

theorem sizeOne {a b : Int} {n : Nat} (h : b = a + n) : Builtin.Range.rangeSize a b 1 = (n : Int) := by
  subst h
  rw [PyProof.Rows.rangeSize_nat]
  omega
end Mine
end
section
open PySem PySem.W PySem.Spec PySem.Calls PyProof.Rows
set_option maxRecDepth 100000
set_option maxHeartbeats 4000000
namespace Mine

/-- the least of the first k + 1 -/
def lo (val : Nat → Int) : Nat → Int
  | 0 => val 0
  | k + 1 => min (lo val k) (val (k + 1))
theorem lo_best (val : Nat → Int) : ∀ k, val (argBest (fun i j => decide (val i < val j)) k) = lo val k
  | 0 => rfl
  | k + 1 => by
    rw [lo, ← lo_best val k, argBest]
    by_cases h : val (k + 1) < val (argBest (fun i j => decide (val i < val j)) k)
    · rw [if_pos (by simpa using h)]; omega
    · rw [if_neg (by simpa using h)]; omega

theorem args_min4 (a b c d : Value) : argsOk "min" ⟨[a, b, c, d], []⟩ := by unfold argsOk; kernel_rfl

section
variable {prog : Program} {w : World} {A : Around} {E : Value → Shared → Prop} {s : Shared} {h₀ : Heap} {L : Addr} {m : Str → Option Value} {news : List (Addr × Obj)}

/-- min of some ints -/
theorem minMany {xs : Array (Int × Tok)} {a b : Value} {r : List Value} {Q : Value → Shared → Prop} (hh : A.handled = none) (he : (intItems xs).toList = a :: b :: r) (hok : argsOk "min" ⟨a :: b :: r, []⟩) (hsz : xs.size ≤ 16)
    (h : ∀ h' tk t, (∀ d o, s.heap.get? d = some o → h'.get? d = some o) → Q (.int (lo (numAt xs) (xs.size - 1)) t) { s with heap := h', toks := tk }) :
    wpAny (model prog w) A (call (.builtin "min") (a :: b :: r)) Q E s := by
  have hname : (toString "min" ++ toString ".loop" : String) = "min.loop" := by decide
  have hitems : intItems xs = (a :: b :: r).toArray := by rw [← he]
  have hlen : (intItems xs).size = xs.size := by simp [intItems]
  have h2 : 2 ≤ xs.size := by rw [← hlen, hitems]; simp
  refine call_function_tree F.kind_min F.plain_min F.entry_min hok ?_
  show wpAny _ A.in1 (Builtin.Builtins.bindParams "min" ["key", "default"] 0 ⟨[], []⟩ >>= _) _ _ s
  refine wpAny_bind (wpAny_of_eq (show Builtin.Builtins.bindParams "min" ["key", "default"] 0 ⟨[], []⟩ = pure [none, none] from rfl) ?_)
  show wpAny _ A.in1 (newTuple (a :: b :: r) >>= _) _ _ s
  refine wpAny_bind (wpAny_newObj_type ?_ ?_)
  rotate_left
  · show (a :: b :: r).toArray.size ≤ sizeLine
    rw [← hitems, hlen, sizeLine_eq]; omega
  have hT : (s.heap.push { cls := .type "tuple", data := .seq (a :: b :: r).toArray }).IsTuple s.heap.objs.size (intItems xs) := ⟨_, Heap.get?_push_size _ rfl, rfl, 0, by rw [hitems]⟩
  generalize ho : ({ cls := .type "tuple", data := .seq (a :: b :: r).toArray } : Obj) = o at hT
  have hz : (s.heap.push o).objs.size = s.heap.objs.size + 1 := Heap.size_push ..
  refine wpAny_bind (wpAny_pyIter_tuple hT ?_)
  refine wpAny_bind (wpAny_newObj_type ?_)
  rw [hname]
  have W := Walks.tuple (prog := prog) (w := w) (A := A.in1) hh (s.heap.push o).objs.size s.heap.objs.size (by rw [hz]; exact Nat.ne_of_lt (Nat.lt_succ_self _)) (intItems xs)
  refine wpAny_pure ⟨plainId_quiet F.plain_min_loop _, codeAny_min_loop_first W (fun i j => decide (numAt xs i < numAt xs j)) (CmpOf.ints_lt (numAt xs) fun _ _ => intItems_at) _ ?_ (by rw [hlen]; omega) ?_ (Heap.get?_push_size _ rfl) fun v h' tk hP hk => ?_⟩
  · intro hm
    replace hm : ((s.heap.push o).push { cls := .type "tuple_iterator", data := .fields #[.ref s.heap.objs.size, .int 0 0] }).objs.size ∈ [(s.heap.push o).objs.size, s.heap.objs.size] := hm
    simp only [Heap.size_push, List.mem_cons, List.not_mem_nil, or_false] at hm
    omega
  · exact ⟨⟨_, Heap.get?_push_of_some _ (Heap.get?_push_size _ rfl), rfl, rfl⟩, (hT.push _).push _⟩
  · obtain ⟨t, rfl⟩ := intItems_at hP
    rw [hlen, lo_best (numAt xs)]
    refine h h' tk t fun d ob e => ?_
    have hd := Heap.lt_size e
    refine hk d ob (fun hm => ?_) (fun hm => ?_) (Heap.get?_push_of_some _ (Heap.get?_push_of_some _ (Heap.get?_push_of_some _ e)))
    · have := List.mem_singleton.mp hm
      simp only [Heap.size_push] at this; exact absurd hd (by rw [this]; exact Nat.not_lt.mpr (Nat.le_succ _))
    · replace hm : d = ((s.heap.push o).push { cls := .type "tuple_iterator", data := .fields #[.ref s.heap.objs.size, .int 0 0] }).objs.size := hm
      simp only [Heap.size_push] at hm; exact absurd hd (by rw [hm]; exact Nat.not_lt.mpr (Nat.le_trans (Nat.le_succ _) (Nat.le_succ _)))

theorem min3 {a b c : Int} {t u x : Tok} {Q : Value → Shared → Prop} (hh : A.handled = none) (F : Fr h₀ L s.heap m) (N : News h₀ L s.heap news)
    (h : ∀ h' tk t, Fr h₀ L h' m → News h₀ L h' news → Q (.int (min (min a b) c) t) { s with heap := h', toks := tk }) :
    wpAny (model prog w) A (call (.builtin "min") [.int a t, .int b u, .int c x]) Q E s :=
  minMany (xs := #[(a, t), (b, u), (c, x)]) hh (by simp [intItems]) (PySem.F.args_min3 _ _ _) (by simp) fun h' tk t hk => h h' tk t (F.grownK hk) (N.grown hk)
theorem min4 {a b c d : Int} {t u x y : Tok} {Q : Value → Shared → Prop} (hh : A.handled = none) (F : Fr h₀ L s.heap m) (N : News h₀ L s.heap news)
    (h : ∀ h' tk t, Fr h₀ L h' m → News h₀ L h' news → Q (.int (min (min (min a b) c) d) t) { s with heap := h', toks := tk }) :
    wpAny (model prog w) A (call (.builtin "min") [.int a t, .int b u, .int c x, .int d y]) Q E s :=
  minMany (xs := #[(a, t), (b, u), (c, x), (d, y)]) hh (by simp [intItems]) (args_min4 _ _ _ _) (by simp) fun h' tk t hk => h h' tk t (F.grownK hk) (N.grown hk)
theorem min2 {a b : Int} {t u : Tok} {Q : Value → Shared → Prop} (hh : A.handled = none) (F : Fr h₀ L s.heap m) (N : News h₀ L s.heap news)
    (h : ∀ h' tk t, Fr h₀ L h' m → News h₀ L h' news → Q (.int (min a b) t) { s with heap := h', toks := tk }) :
    wpAny (model prog w) A (call (.builtin "min") [.int a t, .int b u]) Q E s :=
  min_two_N hh F N fun h' tk F' N' => by
    have := h h' tk (if b < a then u else t) F' N'
    have e : min a b = if b < a then b else a := by split <;> omega
    rwa [e] at this
end
end Mine
end
section
open PySem PySem.W PySem.Spec PySem.Calls PyProof.Rows
set_option maxRecDepth 100000
set_option maxHeartbeats 4000000
namespace Mine

/-- a name of the loop whose value is known -/
theorem Off.val {a : Str} {vs : List Str} {m m₀ : Str → Option Value} {v : Value} (h : Off (a :: vs) m m₀) (hv : m a = some v) : ∃ m₁, Off vs m₁ m₀ ∧ m = fun z => if z = a then some v else m₁ z := by
  obtain ⟨m₁, h1, h2⟩ := h.cons
  refine ⟨m₁, h1, ?_⟩
  funext z
  by_cases e : z = a
  · simp [e, hv]
  · have := congrFun h2 z
    simp only [e, if_false] at this ⊢
    exact this
/-- the names of a loop, one by one -/
def offMap : List Str → (Str → Option Value) → (Str → Option Value) → Str → Option Value
  | [], _, m₀ => m₀
  | a :: vs, m, m₀ => fun z => if z = a then m z else offMap vs m m₀ z
theorem offMap_is (m m₀ : Str → Option Value) (z : Str) : ∀ vs : List Str, offMap vs m m₀ z = if z ∈ vs then m z else m₀ z
  | [] => by simp [offMap]
  | a :: vs => by
    show (if z = a then m z else offMap vs m m₀ z) = _
    rw [offMap_is m m₀ z vs]
    by_cases e : z = a
    · simp [e]
    · simp [e]
theorem Off.all {vs : List Str} {m m₀ : Str → Option Value} (h : Off vs m m₀) : m = offMap vs m m₀ := by
  funext z
  rw [offMap_is]
  split
  · rfl
  · rename_i hz; exact h z hz

section
variable {prog : Program} {w : World} {A : Around} {E : Value → Shared → Prop} {s : Shared}

theorem callType_kw {T newId initId : String} {Bn Bi : Builtin} {args : List Value} {kw : List (Str × Value)} {S : PySem.Spec} {Q Q₁ : Value → Shared → Prop} (ft : TypeCalled T newId initId)
    (hct : checkTypeCall T ⟨args, kw⟩ = pure ()) (hcn : checkBuiltinCall newId ⟨.type T :: args, kw⟩ = pure ())
    (entryN : entryFor table newId = some Bn) (entryI : entryFor table initId = some Bi) (g : Meets (Bn ⟨.type T :: args, kw⟩) S)
    (h : S A.in1 (wants Q₁ E) s)
    (hnext : ∀ obj s₁, Q₁ obj s₁ → s₁.TypeIs obj T ∧ argsOk initId ⟨obj :: args, kw⟩ ∧ ∃ Si, Meets (Bi ⟨obj :: args, kw⟩) Si ∧ Si A.in1 (wants (fun r s₂ => r = .none ∧ Q obj s₂) E) s₁) :
    wpAny (model prog w) A (call (.type T) args kw) Q E s := by
  obtain ⟨c, tl, hmro⟩ := ft.mro
  have hmade := ft.made
  have hsub := ft.sub
  refine wpAny_call (codeAny_of_tree ?_)
  show wpAny _ _ (callAny (.type T) _) _ _ _
  refine wpAny_pure ⟨Code.quiet_builtin _ (by decide +kernel), codeAny_builtin F.entry_type_call ?_⟩
  rw [Around.under_plain (weight_type_call_type T args kw) (units_type_call_type T args kw)]
  have h1 := ft.notType
  have h2 := ft.canCreate
  repeat (any_goals (first | assumption | wp_step))
  refine codeAny_mono (codeAny_call_builtin ft.plain entryN (wpAny_of_eq hcn (g prog w A.in1 _ s h))) fun r s₁ hr => ?_
  cases r with
  | error e => exact hr
  | ok fl =>
    cases fl with
    | ret obj =>
      obtain ⟨hT, hok, Si, gi, hsi⟩ := hnext _ _ hr
      have hli := ft.init.lookup
      have hbi := ft.init.bind obj
      repeat (any_goals (first | assumption | wp_step))
      refine codeAny_mono (codeAny_call_builtin ft.init.plain entryI (ft.init.check _ _ _ _ _ _ _ _ hT hok (gi prog w A.in1 _ s₁ hsi))) fun r₂ s₂ hr₂ => ?_
      cases r₂ with
      | error e => exact hr₂
      | ok fl₂ =>
        cases fl₂ with
        | ret r =>
          obtain ⟨rfl, hq⟩ := hr₂
          repeat (any_goals (first | assumption | wp_step))
        | _ => exact hr₂.elim
    | _ => exact hr.elim

theorem object_init_kw {T newId : String} {self : Value} {rest : List Value} {kw : List (Str × Value)} (hl : typeLookup (.type T) "__init__" = pure (some (.builtin "object.__init__")))
    (hm : Bind.madeBy (.type T) = pure (some newId)) (hne : (some newId != some "object.__new__") = true) :
    Meets (Builtin.«object.__init__» ⟨self :: rest, kw⟩) (fun _ R s => s.TypeIs self T ∧ R (.ok (.ret .none)) s) := by
  refine Meets.of_wp fun prog w A R s hs => ?_
  obtain ⟨hT, hq⟩ := hs
  cases rest with
  | nil =>
    cases kw with
    | nil => exact wpAny_pure ⟨_, rfl, hq⟩
    | cons k kw =>
      repeat (any_goals (first | assumption | wp_step))
      exact ⟨_, rfl, hq⟩
  | cons a rest =>
    repeat (any_goals (first | assumption | wp_step))
    exact ⟨_, rfl, hq⟩
end

theorem meets_enumerate_start (x : Str) (t u : Tok) :
    Meets (Builtin.«enumerate.__new__» ⟨[.type "enumerate", .str x t], [("start", .int 1 u)]⟩) (fun _ R s =>
      R (.ok (.ret (.ref (s.heap.push { cls := .type (strIterType x), data := .fields #[.str x t, .int 0 0] }).objs.size)))
        { s with heap := (s.heap.push { cls := .type (strIterType x), data := .fields #[.str x t, .int 0 0] }).push { cls := .type "enumerate", data := .fields #[.none, .bool false, .ref s.heap.objs.size, rawInt 1, .none, .none] } }) :=
  .of_wp fun prog w A R s h => by
    obtain ⟨hp, g, d, tk, os⟩ := s
    have hsub := sub_enumerate
    wp_walk
    refine wpAny_stack_any fun st => wpAny_pure ?_
    split
    · rename_i c _ _ _ _ _
      cases (c == Value.type "enumerate")
      · wp_walk using wpAny_pyIter_strU
        exact ⟨_, rfl, h⟩
      · wp_walk using wpAny_pyIter_strU
        exact ⟨_, rfl, h⟩
    · wp_walk using wpAny_pyIter_strU
      exact ⟨_, rfl, h⟩
end Mine
end
section
open PySem PySem.W PySem.Spec PySem.Calls PyProof.Rows
set_option maxRecDepth 100000
set_option maxHeartbeats 4000000
namespace Mine
theorem typeCall_enumerate_start (a u : Value) : checkTypeCall "enumerate" ⟨[a], [("start", u)]⟩ = pure () := by kernel_rfl
theorem newCall_enumerate_start (a u : Value) : checkBuiltinCall "enumerate.__new__" ⟨[.type "enumerate", a], [("start", u)]⟩ = pure () := by kernel_rfl
theorem args_object_init_start (a b u : Value) : argsOk "object.__init__" ⟨[a, b], [("start", u)]⟩ := by
  unfold argsOk; rw [signature?_of (id := "object.__init__") (n := ['_', '_', 't', 'i', 'n', 'i', '_', '_']) (o := ['t', 'c', 'e', 'j', 'b', 'o']) (by kernel_rfl) PySem.F.owner_object]; kernel_rfl

section
variable {M : Model} {A : Around} {E : Value → Shared → Prop} {s : Shared} {env : Env}
/-- T(e, ..., k=v) for a type T -/
theorem callWith_typeKw {pos : Pos} {T : String} {e : PySem.Expr} {rest : List PySem.Expr} {kws : List Keyword} {Q : Value → Shared → Prop}
    (h : wpAny M A (spliced (backTo pos (starEach (e :: rest) env))) (fun vs s₁ => wpAny M A (evalAll ((backToKw pos (keywordEach kws env)).map (·.2)))
      (fun kvs s₂ => wpAny M A (call (.type T) vs (((backToKw pos (keywordEach kws env)).filterMap (·.1)).zip kvs)) Q E s₂) E s₁) E s)
    (he : backTo pos (starEach (e :: rest) env) = (false, eval e env) :: backTo pos (starEach rest env) := by rfl)
    (hplain : (backTo pos (starEach (e :: rest) env)).any (·.1) = false := by rfl)
    (hall : (backToKw pos (keywordEach kws env)).all (·.1.isSome) = true := by rfl)
    (hkw : (backToKw pos (keywordEach kws env)).any (·.1.isNone) = false := by rfl) :
    wpAny M A (callWith pos (.type T) [] (backTo pos (starEach (e :: rest) env)) (backToKw pos (keywordEach kws env))) Q E s := by
  have h' : wpAny M A (evalArgs (.type T) true (backTo pos (starEach (e :: rest) env)) (backToKw pos (keywordEach kws env))) (fun a s₁ => wpAny M A (call (.type T) ([] ++ a.pos) a.kw) Q E s₁) E s := by
    rw [he] at h ⊢
    exact evalArgs_kwB hall h
  unfold callWith
  refine wpAny_bind (wpAny_holding (wpAny_mono h' (fun a s₁ h₁ => wpAny_bind (wpAny_standAt ?_)) fun _ _ x => x))
  simp only [hplain, hkw, Bool.or_false]
  refine wpAny_bind (wpAny_pure ?_)
  exact wpAny_bind (wpAny_mono h₁ (fun r s₂ hr => wpAny_bind (wpAny_holding (wpAny_point (wpAny_pure hr)))) fun _ _ x => x)
end

/-- what a text's last rows are: a dict's values, or nought -/
def IsLast (prog : Program) (w : World) (o : Obj) (g : Nat → Int) (n : Nat) : Prop :=
  ∃ kvs, o.IsDictOf (strKind prog w) kvs ∧ kvs.length ≤ n ∧ ∀ c, (valueAt kvs ⟨#[c]⟩ = none ∧ g c = 0) ∨ ∃ t, valueAt kvs ⟨#[c]⟩ = some (.int (g c) t)
theorem IsLast.start (prog : Program) (w : World) : IsLast prog w (dictOf [] 0) (fun _ => 0) 0 :=
  ⟨[], ⟨#[], 0, ⟨rfl, rfl, rfl⟩, rfl, fun _ h => by simp at h, .nil, List.nodup_nil⟩, Nat.le_refl _, fun _ => .inl ⟨rfl, rfl⟩⟩
theorem IsLast.mono {prog : Program} {w : World} {o : Obj} {g : Nat → Int} {n n' : Nat} (h : IsLast prog w o g n) (hn : n ≤ n') : IsLast prog w o g n' := let ⟨a, b, c, d⟩ := h; ⟨a, b, Nat.le_trans c hn, d⟩
theorem valueAt_cons {K : Type} [DecidableEq K] (x : K × Value) (xs : List (K × Value)) (k : K) : valueAt (x :: xs) k = if x.1 = k then some x.2 else valueAt xs k := by
  unfold valueAt
  rw [List.find?_cons]
  by_cases h : x.1 = k
  · simp [h]
  · simp [h]
theorem valueAt_stored {K : Type} [DecidableEq K] (kvs : List (K × Value)) (k c : K) (v : Value) : valueAt (stored kvs k v) c = if c = k then some v else valueAt kvs c := by
  have hmap : ∀ xs : List (K × Value), valueAt (xs.map fun kv => if kv.1 = k then (kv.1, v) else kv) c = if c = k then (if xs.any (fun kv => kv.1 = k) then some v else none) else valueAt xs c := by
    intro xs
    induction xs with
    | nil => by_cases e : c = k <;> simp [e, valueAt]
    | cons x xs ih =>
      rw [List.map_cons, valueAt_cons, ih, valueAt_cons]
      by_cases e : x.1 = k
      · by_cases e2 : c = k
        · subst e2; simp [e]
        · have e3 : ¬ k = c := fun q => e2 q.symm
          simp [e, e2, e3]
      · rw [List.any_cons, decide_eq_false e, Bool.false_or, if_neg e]
        by_cases e2 : c = k
        · rw [if_pos e2, if_pos e2, if_neg (fun q => e (q.trans e2))]
        · rw [if_neg e2, if_neg e2]
  have happ : ∀ xs : List (K × Value), xs.any (fun kv => kv.1 = k) = false → valueAt (xs ++ [(k, v)]) c = if c = k then some v else valueAt xs c := by
    intro xs
    induction xs with
    | nil =>
      intro _
      by_cases e : c = k
      · subst e; simp [valueAt]
      · have e3 : ¬ k = c := fun q => e q.symm
        simp [valueAt, e, e3]
    | cons x xs ih =>
      intro h
      simp only [List.any_cons, Bool.or_eq_false_iff, decide_eq_false_iff_not] at h
      rw [List.cons_append, valueAt_cons, valueAt_cons, ih h.2]
      by_cases e : c = k
      · subst e; simp [h.1]
      · simp [e]
  unfold stored
  split
  · rename_i h
    rw [hmap, h]
    by_cases e : c = k <;> simp [e]
  · rename_i h
    exact happ kvs (eq_false_of_ne_true h)

section
variable {prog : Program} {w : World} {A : Around} {E : Value → Shared → Prop} {s : Shared} {h₀ : Heap}

theorem call_enumerate_start {x : Str} {t u : Tok} {Q : Value → Shared → Prop}
    (h : ∀ h', IsEnum h' (s.heap.objs.size + 1) s.heap.objs.size 1 .none → h'.IsStrIter s.heap.objs.size (strIterType x) x t 0 → h'.objs.size = s.heap.objs.size + 2 →
      (∀ b o, s.heap.get? b = some o → h'.get? b = some o) → Q (.ref (s.heap.objs.size + 1)) { s with heap := h' }) :
    wpAny (model prog w) A (call (.type "enumerate") [.str x t] [("start", .int 1 u)]) Q E s := by
  refine callType_kw (Q₁ := fun obj s₁ => s₁.TypeIs obj "enumerate" ∧ Q obj s₁) PySem.F.called_enumerate (typeCall_enumerate_start _ _) (newCall_enumerate_start _ _) PySem.F.entry_enumerate_new PySem.F.entry_object_init (meets_enumerate_start x t u) ?_ fun obj _ hq =>
    ⟨hq.1, args_object_init_start .., _, object_init_kw PySem.F.called_enumerate.init.lookup PySem.F.called_enumerate.made (by decide), hq.1, rfl, hq.2⟩
  have hz : (s.heap.push { cls := .type (strIterType x), data := .fields #[.str x t, .int 0 0] }).objs.size = s.heap.objs.size + 1 := Heap.size_push ..
  show _ ∧ _
  rw [hz]
  have he : IsEnum ((s.heap.push { cls := .type (strIterType x), data := .fields #[.str x t, .int 0 0] }).push
      { cls := .type "enumerate", data := .fields #[.none, .bool false, .ref s.heap.objs.size, rawInt 1, .none, .none] }) (s.heap.objs.size + 1) s.heap.objs.size 1 .none := by
    have := Heap.get?_push_size (s.heap.push { cls := .type (strIterType x), data := .fields #[.str x t, .int 0 0] })
      (o := { cls := .type "enumerate", data := .fields #[.none, .bool false, .ref s.heap.objs.size, rawInt 1, .none, .none] }) rfl
    rw [hz] at this; exact this
  refine ⟨⟨_, he, rfl⟩, h _ he ⟨_, Heap.get?_push_of_some _ (Heap.get?_push_size _ rfl), rfl, rfl⟩ (by rw [Heap.size_push, hz]) fun b o y => Heap.get?_push_of_some _ (Heap.get?_push_of_some _ y)⟩

/-- enumerate(text, start=1) -/
theorem callEnum1 {x : Str} {t u : Tok} {L : Addr} {m : Str → Option Value} {news : List (Addr × Obj)} {Q : Value → Shared → Prop} (F : Fr h₀ L s.heap m) (N : News h₀ L s.heap news)
    (h : ∀ h' e, Fr h₀ L h' m → News h₀ L h' news → EnumStr h₀ L news x 1 e h' → Q (.ref e) { s with heap := h' }) :
    wpAny (model prog w) A (call (.type "enumerate") [.str x t] [("start", .int 1 u)]) Q E s := by
  have hLs : L < s.heap.objs.size := F.ns.lt
  have hab : h₀.objs.size ≤ L := F.above
  refine call_enumerate_start fun h' he hit hsz hk => ?_
  refine h h' _ ⟨F.ns.keeps hk, fun b o e => hk b o (F.keep b o e), F.above⟩ (fun p hp => ⟨hk _ _ (N p hp).1, (N p hp).2⟩)
    ⟨s.heap.objs.size, strIterType x, t, ?_, he, hit, Nat.succ_ne_self _, Nat.ne_of_gt (Nat.lt_succ_of_lt hLs), Nat.ne_of_gt hLs, Heap.get?_none_of_le (Nat.le_trans hab (Nat.le_of_lt (Nat.lt_succ_of_lt hLs))), Heap.get?_none_of_le (Nat.le_trans hab (Nat.le_of_lt hLs)), fun p hp => ?_⟩
  · unfold strIterType; split
    · exact .inr rfl
    · exact .inl rfl
  · have hq := Heap.lt_size (N p hp).1
    exact ⟨Nat.ne_of_lt (Nat.lt_succ_of_lt hq), Nat.ne_of_lt hq⟩

section
variable {L d : Addr} {m : Str → Option Value} {news rest : List (Addr × Obj)} {o : Obj} {g : Nat → Int} {n : Nat} {c : Nat} {t u : Tok}
/-- a new empty dict that is not the modules' own -/
theorem dictNewLo {env : Env} {pos : Pos} {Q : Value → Shared → Prop} (F : Fr h₀ L s.heap m) (N : News h₀ L s.heap news) (hbig : h₀.NoLimit)
    (h : ∀ h' d, Fr h₀ L h' m → News h₀ L h' ((d, dictOf [] 0) :: news) → (∀ p ∈ news, p.1 < d) → (d == sysModules) = false → Q (.ref d) { s with heap := h' }) :
    wpAny (model prog w) A (eval (.Dict [] [] pos) env) Q E s :=
  wpAny_Dict_empty (h _ _ (F.push _) (N.push F _) (fun p hp => Heap.lt_size (N p hp).1) (F.notModules (modules_low hbig)))
theorem lastMethod {pl : Sem Bool} {Q : Value × List Value → Shared → Prop} (N : News h₀ L s.heap news) (hp : (d, o) ∈ news) (H : IsLast prog w o g n) (h : Q (.builtin "dict.get", [.ref d]) s) : wpAny (model prog w) A (getMethod (.ref d) "get" pl) Q E s :=
  let ⟨_, hd, _⟩ := H; kdg_method N hp hd h
theorem lastGet {Q : Value → Shared → Prop} (N : News h₀ L s.heap news) (hp : (d, o) ∈ news) (H : IsLast prog w o g n) (lo : (d == sysModules) = false) (h : ∀ t, Q (.int (g c) t) { s with toks := s.toks + 1 }) :
    wpAny (model prog w) A (call (.builtin "dict.get") [.ref d, .str ⟨#[c]⟩ t, .int 0 u]) Q E s := by
  obtain ⟨kvs, hd, _, hv⟩ := H
  refine kdg_get2 N hp hd lo (strKind_is prog w ⟨#[c]⟩ t) _ rfl ?_
  rcases hv c with ⟨e1, e2⟩ | ⟨t', e1⟩
  · rw [e1]; exact e2 ▸ h u
  · rw [e1]; exact h t'
theorem lastSet {v : Int} {Q : Unit → Shared → Prop} (F : Fr h₀ L s.heap m) (N : News h₀ L s.heap ((d, o) :: rest)) (hs : ∀ p ∈ rest, p.1 ≠ d) (H : IsLast prog w o g n) (hn : n ≤ 1000)
    (h : ∀ h' o' tk, Fr h₀ L h' m → News h₀ L h' ((d, o') :: rest) → IsLast prog w o' (fun x => if x = c then v else g x) (n + 1) → Q () { s with heap := h', toks := tk }) :
    wpAny (model prog w) A (setItem (.ref d) (.str ⟨#[c]⟩ t) (.int v u)) Q E s := by
  obtain ⟨kvs, hd, hl, hv⟩ := H
  have hm := N (d, o) (.head _)
  refine wpAny_setItem_pairs (hsz := by rw [sizeLine_eq]; omega) (strKind_is prog w ⟨#[c]⟩ t) (Heap.dictOf_iff.mpr ⟨o, hm.1, hd⟩) fun h' hmm hsb => ?_
  obtain ⟨o', ho', hd'⟩ := Heap.dictOf_iff.mp hmm
  refine h h' o' _ (F.change hsb hm.2.1 hm.2.2) (News.setIn (own := []) N (fun _ hp => by cases hp) hs hsb ho') ⟨_, hd', Nat.le_trans (stored_length_le ..) (by omega), fun x => ?_⟩
  rw [valueAt_stored]
  by_cases e : x = c
  · simp [e]
  · have e2 : ¬ ((⟨#[x]⟩ : Str) = ⟨#[c]⟩) := fun q => e (by simpa using q)
    simp only [e, e2, if_false]; exact hv x
end
end
end Mine
end
section
open PySem PySem.W PySem.Spec PySem.Calls PyProof.Rows
set_option maxRecDepth 100000
set_option maxHeartbeats 4000000
namespace Mine

/-- a list object of n ints, at j it has f j -/
def IsRow (o : Obj) (f : Nat → Int) (n : Nat) : Prop := o.cls = .type "list" ∧ ∃ (its : Array Value) (k : Nat), o.data = .seq its k ∧ its.size = n ∧ ∀ j, j < n → ∃ t, its[j]? = some (.int (f j) t)
theorem IsRow.list {o : Obj} {f : Nat → Int} {n : Nat} (R : IsRow o f n) {h : Heap} {a : Addr} (hg : h.get? a = some o) : ∃ its, h.IsList a its ∧ its.size = n ∧ ∀ j, j < n → ∃ t, its[j]? = some (.int (f j) t) := by
  obtain ⟨hc, its, k, hd, hs, hv⟩ := R
  exact ⟨its, ⟨o, hg, hc, k, hd⟩, hs, hv⟩
theorem IsRow.mono {o : Obj} {f g : Nat → Int} {n : Nat} (R : IsRow o f n) (h : ∀ j, j < n → g j = f j) : IsRow o g n := by
  obtain ⟨hc, its, k, hd, hs, hv⟩ := R
  exact ⟨hc, its, k, hd, hs, fun j hj => by rw [h j hj]; exact hv j hj⟩
theorem IsRow.one (v : Int) (t : Tok) (k : Nat) : IsRow (listOf [Value.int v t].toArray k) (fun _ => v) 1 :=
  ⟨rfl, _, _, rfl, rfl, fun j hj => ⟨t, by rw [show j = 0 by omega]; rfl⟩⟩
theorem ints_at : ∀ {vs : List Value} {ks : List Int}, IntsAre vs ks → ∀ {j : Nat} {v : Int}, ks[j]? = some v → ∃ t, vs[j]? = some (.int v t)
  | _, _, .nil, j, v, h => by simp at h
  | _, _, .cons n t hr, 0, v, h => by
    simp only [List.getElem?_cons_zero, Option.some.injEq] at h
    exact ⟨t, by rw [← h]; rfl⟩
  | _, _, .cons n t hr, j + 1, v, h => by
    simp only [List.getElem?_cons_succ] at h ⊢
    exact ints_at hr h
theorem ints_len : ∀ {vs : List Value} {ks : List Int}, IntsAre vs ks → vs.length = ks.length
  | _, _, .nil => rfl
  | _, _, .cons _ _ hr => by simp [ints_len hr]
theorem IsRow.range {vs : List Value} {a : Int} {n k : Nat} (h : IntsAre vs (rangeKs a n)) : IsRow (listOf vs.toArray k) (fun j => a + (j : Int)) n := by
  refine ⟨rfl, _, _, rfl, ?_, fun j hj => ?_⟩
  · have := ints_len h
    rw [rangeKs_length] at this
    simpa using this
  · obtain ⟨t, ht⟩ := ints_at h (j := j) (v := a + (j : Int)) (by simp [rangeKs, hj])
    exact ⟨t, by simpa using ht⟩

section
variable {prog : Program} {w : World} {A : Around} {E : Value → Shared → Prop} {s : Shared} {h₀ : Heap} {L a b : Addr} {m : Str → Option Value} {news : List (Addr × Obj)} {o p : Obj} {f g : Nat → Int} {n k : Nat}

/-- row[j] -/
theorem rowItem {value slice : PySem.Expr} {j : Int} {u : Tok} {Q : Value → Shared → Prop} (N : News h₀ L s.heap news) (hm : (a, o) ∈ news) (R : IsRow o f n) (h0 : 0 ≤ j) (h1 : j < n) (hn : n ≤ 1000)
    (hs : subscripted slice false (.ref a) (.int j u) = operate [.ref a, .int j u] (getItem (.ref a) (.int j u)))
    (h : ∀ t, Q (.int (f j.toNat) t) s) : wpAny (model prog w) A (subscriptTail value slice (.ref a) (.int j u)) Q E s := by
  obtain ⟨its, hl, hz, hv⟩ := R.list (N _ hm).1
  obtain ⟨t, ht⟩ := hv j.toNat (by omega)
  exact tail_any hl.typeIs PySem.F.slot_list_getitem.lookup (wpAny_getItem_list hl h0 (by omega) ht (h t)) hs
/-- row[-1] -/
theorem rowLast {value slice : PySem.Expr} {u : Tok} {Q : Value → Shared → Prop} (N : News h₀ L s.heap news) (hm : (a, o) ∈ news) (R : IsRow o f (n + 1))
    (hs : subscripted slice false (.ref a) (.int (-1) u) = operate [.ref a, .int (-1) u] (getItem (.ref a) (.int (-1) u)))
    (h : ∀ t, Q (.int (f n) t) s) : wpAny (model prog w) A (subscriptTail value slice (.ref a) (.int (-1) u)) Q E s := by
  obtain ⟨its, hl, hz, hv⟩ := R.list (N _ hm).1
  obtain ⟨t, ht⟩ := hv n (by omega)
  refine tail_any hl.typeIs PySem.F.slot_list_getitem.lookup (wpAny_getItem_list_neg hl (by omega) (by omega) (by omega) (x := .int (f n) t) ?_ (h t)) hs
  rw [← ht, hz]
  congr 1
  omega
/-- row[j] = v -/
theorem rowSet {own rest : List (Addr × Obj)} {j v : Int} {t u : Tok} {Q : Unit → Shared → Prop} (F : Fr h₀ L s.heap m) (N : News h₀ L s.heap (own ++ (a, o) :: rest)) (hs1 : ∀ p ∈ own, p.1 ≠ a) (hs : ∀ p ∈ rest, p.1 ≠ a) (R : IsRow o f n) (h0 : 0 ≤ j) (h1 : j < n) (hn : n ≤ 1000)
    (h : ∀ h' o', Fr h₀ L h' m → News h₀ L h' (own ++ (a, o') :: rest) → IsRow o' (fun i => if (i : Int) = j then v else f i) n → Q () { s with heap := h' }) :
    wpAny (model prog w) A (setItem (.ref a) (.int j u) (.int v t)) Q E s := by
  have hm := N (a, o) (List.mem_append_right _ (.head _))
  obtain ⟨its, hl, hz, hv⟩ := R.list hm.1
  refine wpAny_setItem_list hl h0 (by omega) (by omega) fun h' hl' hsb => ?_
  obtain ⟨o', ho', hc', ne', hd'⟩ := hl'
  refine h h' o' (F.change hsb hm.2.1 hm.2.2) (News.setIn N hs1 hs hsb ho') ⟨hc', _, _, hd', by simpa using hz, fun i hi => ?_⟩
  dsimp only
  by_cases e : (i : Int) = j
  · refine ⟨t, ?_⟩
    rw [if_pos e, Array.getElem?_setIfInBounds, if_pos (by omega), if_pos (by omega)]
  · rw [if_neg e, Array.getElem?_setIfInBounds, if_neg (by omega)]
    exact hv i hi
/-- [v] * x -/
theorem rowMul {x : Int} {u : Tok} {Q : Value → Shared → Prop} (F : Fr h₀ L s.heap m) (N : News h₀ L s.heap news) (hm : (a, o) ∈ news) (R : IsRow o f 1) (h0 : 0 ≤ x) (hx : x ≤ 100)
    (h : ∀ h' D o', Fr h₀ L h' m → News h₀ L h' ((D, o') :: news) → (∀ p ∈ news, p.1 < D) → IsRow o' (fun _ => f 0) x.toNat → Q (.ref D) { s with heap := h' }) : wpAny (model prog w) A (binaryOp .Mult (.ref a) (.int x u)) Q E s := by
  obtain ⟨its, hl, hz, hv⟩ := R.list (N _ hm).1
  obtain ⟨t, ht⟩ := hv 0 (by omega)
  have e : its.toList = [.int (f 0) t] := by
    have h1 : its.toList.length = 1 := by simpa using hz
    match hl : its.toList, h1 with
    | [v], _ =>
      have : its.toList[0]? = some (.int (f 0) t) := by simpa using ht
      rw [hl] at this
      simpa using this
  have hl' : s.heap.IsList a [Value.int (f 0) t].toArray := by rw [← e, Array.toArray_toList]; exact hl
  refine KMa.mul F N hl' (by omega) (by omega) (by simp only [List.length_cons, List.length_nil]; omega) (ws := List.replicate x.toNat (.int (f 0) t)) ?_ fun D h' F' N' l1 => ?_
  · induction x.toNat with
    | zero => rfl
    | succ k ih => rw [List.replicate_succ, List.flatten_cons, ih, List.replicate_succ]; rfl
  · refine h h' D _ F' N' l1 ⟨rfl, _, _, rfl, by simp, fun j hj => ⟨t, ?_⟩⟩
    simp [hj]
/-- row + row -/
theorem rowAdd {Q : Value → Shared → Prop} (F : Fr h₀ L s.heap m) (N : News h₀ L s.heap news) (hm : (a, o) ∈ news) (hm2 : (b, p) ∈ news) (R : IsRow o f n) (R2 : IsRow p g k) (hn : n ≤ 100) (hk : k ≤ 100)
    (h : ∀ h' D o', Fr h₀ L h' m → News h₀ L h' ((D, o') :: news) → (∀ p ∈ news, p.1 < D) → IsRow o' (fun j => if j < n then f j else g (j - n)) (n + k) → Q (.ref D) { s with heap := h' }) : wpAny (model prog w) A (binaryOp .Add (.ref a) (.ref b)) Q E s := by
  obtain ⟨its, hl, hz, hv⟩ := R.list (N _ hm).1
  obtain ⟨its2, hl2, hz2, hv2⟩ := R2.list (N _ hm2).1
  refine kmk_add_lit F N hl hl2 rfl (fun D h' F' N' l1 => h h' D _ F' N' l1 ⟨rfl, _, _, rfl, by simp [hz, hz2], fun j hj => ?_⟩) (by rw [sizeLine_eq]; simp [hz, hz2]; omega)
  dsimp only
  by_cases e : j < n
  · obtain ⟨t, ht⟩ := hv j e
    refine ⟨t, ?_⟩
    rw [if_pos e, List.getElem?_toArray, List.getElem?_append_left (by simpa [hz] using e)]
    simpa using ht
  · obtain ⟨t, ht⟩ := hv2 (j - n) (by omega)
    refine ⟨t, ?_⟩
    rw [if_neg e, List.getElem?_toArray, List.getElem?_append_right (by simp only [Array.length_toList, hz]; omega)]
    simpa [hz] using ht
end
end Mine
end
section
open PySem PySem.W PySem.Spec PySem.Calls PyProof.Rows
set_option maxRecDepth 100000
set_option maxHeartbeats 4000000
namespace Mine
section
variable {prog : Program} {w : World} {A A₀ : Around} {s : Shared} {K : Frag} {L : Addr} {h₀ base : Heap} {m mg mb : Str → Option Value} {news : List (Addr × Obj)} {p : Program} {loose : List Str} {mean : ExcName → Option Value}
/-- a call of a def with a rest parameter whose frame has cells -/
theorem restCells {env : Env} {outer : List Env} {R : Result → Shared → Prop} {name qual : Str} {params : Arguments} {body : List Stmt} {scope : Scope} {dV kV doc pm cdv ct oc : Value} {an od : Option Addr} {osl : Array (Option Value)} {f : Addr} {args : Args} {vs : List Value} {g₁ : Addr → Option (List (Str × Value))} {binds : Addr → List (Str × Value)}
    (B : Below A₀ base outer h₀) (F : Fr h₀ L s.heap m) (X₀ : K.In h₀) (N : News h₀ L s.heap news) (T : Top p loose mean mg mb h₀) (hA : A.frames = some (env :: outer)) (hf : env.frame = some L) (hke : env.scope.kind = .function)
    (ho : K.lookup f = some ⟨oc, od, .func (fnOf name qual params body scope dV kV doc pm an cdv ct), osl⟩) (hcd : codeIn K cdv qual = true) (hroom : A.depth < recursionLimit)
    (hv : args.pos.drop (params.posonlyargs.length + params.args.length) = vs)
    (hp : peek1 K ⟨prog, w.params⟩ (bindArgs (fnOf name qual params body scope dV kV doc pm an cdv ct) args) = some (({ cls := .type "tuple", data := .seq vs.toArray } : Obj), g₁))
    (hg : ∀ D, g₁ D = some (binds D)) (hkind : ∀ D, ((binds D).all fun y => scope.names.lookup y.1 == some .local || scope.names.lookup y.1 == some .cell) = true)
    (hnd : ((cellsFrom 0 scope.names []).map (·.1)).Nodup)
    (h : ∀ D g L' h₁ tk cells, (∀ p ∈ news, p.1 < D) → Fr h₀ L g m → Fr g L' h₁ (bindL (envOfC qual scope L' f cdv).kindOf (binds D) fun _ => none) → News g L' h₁ (cells ++ (D, ({ cls := .type "tuple", data := .seq vs.toArray } : Obj)) :: news) →
      CellsAre (bindC (envOfC qual scope L' f cdv).kindOf (binds D) fun _ => none) (cellsFrom (L' + 1) scope.names []) cells → Below A base (env :: outer) g → K.In g → Top p loose mean mg mb g → (∀ p ∈ (D, ({ cls := .type "tuple", data := .seq vs.toArray } : Obj)) :: news, p.1 < L') →
      wpAny (model prog w) (A.deeper (envOfC qual scope L' f cdv)) (execs body (envOfC qual scope L' f cdv))
        (fun fl s' => LeaveK h₀ L m g R (match fl with | .ret v => v | _ => .none) s')
        (fun e s' => wpAny (model prog w) (A.deeper (envOfC qual scope L' f cdv)) (leaving (envOfC qual scope L' f cdv) e) (fun _ s'' => R (.error e) s'') (fun e' s'' => R (.error e') s'') s')
        { s with heap := h₁, toks := tk })
    (hco : scope.isCoroutine = false) (hgen : scope.isGenerator = false) (hk : scope.kind = .function) : codeAny (model prog w) A (.call (.ref f) args) R s := by
  have _ := hv
  refine codeAny_call_function (fd := fnOf name qual params body scope dV kV doc pm an cdv ct) (body := body) hroom ((X₀.keeps F.keep) _ _ ho) rfl hco hgen rfl (codeRec_of (X₀.keeps F.keep) hcd) ?_
  refine wp_of_peek1 (o := ({ cls := .type "tuple", data := .seq vs.toArray } : Obj)) F N (X₀.keeps F.keep) rfl (r := binds) (fun D h' F' N' l => ?_) _ g₁ hp hg
  obtain ⟨FG, BG, st, lv⟩ := groundX (R := R) (s := { s with heap := h' }) B F' N' hA hf hke
  refine wpAny_newFunctionEnv_cells hk (kindsX (hkind D) _) fun env' he s' x => ?_
  subst he
  refine ⟨(T.nolimit.keeps F'.keep).keeps x.toInCall.keep, codeAny_func ?_⟩
  obtain ⟨h₁, tk, rfl, _⟩ := x.done
  have hk₁ := x.toInCall.keep
  obtain ⟨cells, NC, Y⟩ := Cl.news (h₀ := h') (Nat.le_refl _) fun n c hm => ⟨x.cell n c (lookup_of_mem_nodup (cellsFrom_names scope.names 0 (h'.objs.size + 1) [] [] rfl ▸ hnd) hm), x.above n c hm⟩
  refine wpAny_mono (h D _ h'.objs.size h₁ tk cells l FG ⟨x.toInCall.ns, fun b o e => hk₁ b o (of_hideAll _ e), Nat.le_of_eq (hideAll_size _ _)⟩ (fun p hp => ?_) Y BG (X₀.keeps st) (T.keeps st) (fun p hp => Heap.lt_size (N' p hp).1)) (fun fl s' hl => lv _ _ hl) fun _ _ y => y
  rcases List.mem_append.mp hp with hp | hp
  · refine ⟨(NC p hp).1, (NC p hp).2.1, ?_⟩
    cases q : (hideAll h' (((D, ({ cls := .type "tuple", data := .seq vs.toArray } : Obj)) :: news).map (·.1))).get? p.1 with
    | none => rfl
    | some o => have := of_hideAll _ q; rw [(NC p hp).2.2] at this; cases this
  · exact ⟨hk₁ _ _ (N' p hp).1, Nat.ne_of_lt (Heap.lt_size (N' p hp).1), hideAll_none _ (List.mem_map_of_mem hp)⟩
end
section
variable {M : Model} {A : Around} {E : Value → Shared → Prop} {s : Shared} {env : Env}
/-- o.name(*e) -/
theorem methodCallStar {o e : PySem.Expr} {name : Str} {apos pos p : Pos} {Q : Value → Shared → Prop}
    (h : wpAny M A (eval o env) (fun ov s₁ => wpAny M A (getAttr ov name true) (fun f s₂ => wpAny M A (callWith pos f [] (backTo pos (starEach [.Starred e p] env)) []) Q E s₂) E s₁) E s)
    (he : eval (.Call (.Attribute o name apos) [.Starred e p] [] pos) env = (do
      let ov ← eval o env
      standAt apos.atName
      let (f, first) ← holding [ov] (do pure (← getAttr ov name true, []))
      callWith pos f first (backTo pos (starEach [.Starred e p] env)) []) := by rfl) :
    wpAny M A (eval (.Call (.Attribute o name apos) [.Starred e p] [] pos) env) Q E s := by
  rw [he]
  refine wpAny_bind (wpAny_mono h (fun ov s₁ h₁ => wpAny_bind (wpAny_standAt (wpAny_bind (wpAny_holding (wpAny_bind (wpAny_mono h₁ (fun f s₂ h₂ => wpAny_pure ?_) fun _ _ x => x)))))) fun _ _ x => x)
  exact h₂
end

section
variable {prog : Program} {w : World} {A : Around} {R : Result → Shared → Prop} {I : Addr} {fp wr : List Addr} {n : Nat} {P : Nat → Value → Prop} {St : Nat → Heap → Prop}
/-- all(...) where asking a value its truth may draw tokens -/
theorem allLoopT (W : Walks prog w A.in1 I fp wr n P St) (tr : Nat → Bool)
    (htr : ∀ i v (s : Shared) (Q : Bool → Shared → Prop) (E : Value → Shared → Prop), P i v → (∀ tk, Q (tr i) { s with toks := tk }) → wpAny (model prog w) A.in1 (truthy v) Q E s) :
    ∀ (k i : Nat) (s : Shared), n - i = k → i ≤ n → St i s.heap →
    (∀ h' tk, (∀ b o, b ∉ wr → s.heap.get? b = some o → h'.get? b = some o) → R (.ok (.ret (.bool (((List.range n).drop i).all tr)))) { s with heap := h', toks := tk }) →
    codeAny (model prog w) A (.builtin "all.loop" ⟨[.ref I], []⟩) R s := by
  intro k
  induction k with
  | zero =>
    intro i s hk hi hst hR
    have hin : i = n := by omega
    subst hin
    refine codeAny_builtin PySem.F.entry_all_loop ?_
    rw [Around.under_plainId PySem.F.plain_all_loop _]
    show wpAny _ A.in1 (pyNext (.ref I) >>= _) _ _ s
    refine wpAny_bind (W.done s _ _ hst fun h' tk hk' => wpAny_bind (wpAny_rule (wpAny_pure ?_)))
    have := hR h' tk hk'
    rwa [List.drop_of_length_le (by simp)] at this
  | succ k ih =>
    intro i s hk hi hst hR
    have hlt : i < n := by omega
    have hd : (List.range n).drop i = i :: (List.range n).drop (i + 1) := by
      rw [List.drop_eq_getElem_cons (by simpa using hlt)]; simp
    refine codeAny_builtin PySem.F.entry_all_loop ?_
    rw [Around.under_plainId PySem.F.plain_all_loop _]
    show wpAny _ A.in1 (pyNext (.ref I) >>= _) _ _ s
    refine wpAny_bind (W.item i s _ _ hlt hst fun v h' tk hP hst' hk' => ?_)
    refine wpAny_bind (wpAny_holding (htr i v _ _ _ hP fun tk2 => wpAny_bind (wpAny_letGo ?_)))
    cases hb : tr i with
    | true =>
      simp only [if_true]
      refine wpAny_pure ⟨plainId_quiet PySem.F.plain_all_loop _, ih (i + 1) _ (by omega) hlt hst' fun h'' tk'' hk'' => ?_⟩
      have := hR h'' tk'' fun b o hbw e => hk'' b o hbw (hk' b o hbw e)
      rwa [hd, List.all_cons, hb, Bool.true_and] at this
    | false =>
      simp only [Bool.false_eq_true, if_false]
      refine wpAny_bind (wpAny_rule (wpAny_pure ?_))
      have := hR h' tk2 hk'
      rwa [hd, List.all_cons, hb, Bool.false_and] at this
end
section
variable {prog : Program} {w : World} {A : Around} {E : Value → Shared → Prop} {s : Shared} {h₀ : Heap} {L : Addr} {m : Str → Option Value} {news : List (Addr × Obj)}
/-- all(two texts) -/
theorem allTwo {l : Addr} {x y : Str} {t u : Tok} {n : Nat} {Q : Value → Shared → Prop} (hh : A.handled = none) (F : Fr h₀ L s.heap m) (N : News h₀ L s.heap news)
    (hl : (l, ({ cls := .type "tuple", data := .seq #[.str x t, .str y u] n } : Obj)) ∈ news) (hx : x.length ≤ 100) (hy : y.length ≤ 100)
    (h : ∀ h' (tk : Nat), Fr h₀ L h' m → News h₀ L h' news → Q (.bool (decide (x.length ≠ 0 ∧ y.length ≠ 0))) { s with heap := h', toks := tk }) :
    wpAny (model prog w) A (call (.builtin "all") [.ref l]) Q E s := by
  have hT : s.heap.IsTuple l #[.str x t, .str y u] := ⟨_, (N _ hl).1, rfl, n, rfl⟩
  have hlt : l < s.heap.objs.size := Heap.lt_size (N _ hl).1
  refine call_function_tree PySem.F.kind_all PySem.F.plain_all PySem.F.entry_all (PySem.F.args_all1 _) ?_
  unfold Builtin.«all»
  refine wpAny_bind (m := oneArg "all" _) (wpAny_pure ?_)
  refine wpAny_bind (wpAny_pyIter_tuple hT ?_)
  refine wpAny_pure ⟨plainId_quiet PySem.F.plain_all_loop _, allLoopT (Walks.tuple (A := A.in1) hh s.heap.objs.size l (Nat.ne_of_lt hlt) _) (fun i => if i = 0 then ((x.length : Int) != 0) else ((y.length : Int) != 0)) ?_ 2 0 _ rfl (Nat.zero_le _) ⟨⟨_, Heap.get?_push_size _ rfl, rfl, rfl⟩, hT.push _⟩ fun h' tk hk => ?_⟩
  · intro i v s' Q' E' hP hQ
    match i, hP with
    | 0, hP =>
      obtain rfl : Value.str x t = v := by simpa using hP
      exact PySem.P.truthy_str (by omega) (hQ _)
    | 1, hP =>
      obtain rfl : Value.str y u = v := by simpa using hP
      exact PySem.P.truthy_str (by omega) (hQ _)
    | i + 2, hP => simp at hP
  · have e : ((List.range 2).drop 0).all (fun i => if i = 0 then ((x.length : Int) != 0) else ((y.length : Int) != 0)) = decide (x.length ≠ 0 ∧ y.length ≠ 0) := by
      rw [show (List.range 2).drop 0 = [0, 1] from rfl]
      by_cases e1 : x.length = 0 <;> by_cases e2 : y.length = 0 <;> simp [e1, e2]
    have hs : (#[Value.str x t, Value.str y u] : Array Value).size = 2 := rfl
    rw [hs, e]
    have hk2 : ∀ b o, s.heap.get? b = some o → h'.get? b = some o := fun b o e => hk b o (fun hm => by rw [List.mem_singleton.mp hm] at e; exact Nat.lt_irrefl _ (Heap.lt_size e)) (Heap.get?_push_of_some _ e)
    exact h h' tk (F.keeps hk2) (N.grown hk2)
end
end Mine
end
section
open PySem PySem.W PySem.Spec PySem.Calls PyProof.Rows
set_option maxRecDepth 100000
set_option maxHeartbeats 4000000
namespace Mine
theorem owner_map : Manifest.owners.lookup (String.ofList ['p', 'a', 'm'].reverse) = some Manifest.sig_map := by kernel_rfl
theorem slot_map_init : Slot "map" "__init__" "object.__init__" :=
  .of (owner := "object") (n := "__init__") (by rw [typeLookup_type, builtinLookup_eq_fast]; kernel_rfl) (by decide +kernel) (by decide +kernel) (by decide +kernel)
    (by first | exact .inl (by decide +kernel) | exact .inr (by decide +kernel)) (by rw [isSubtype_type]; kernel_rfl)
theorem slot_map_iter : Slot "map" "__iter__" "map.__iter__" :=
  .of (owner := "map") (n := "__iter__") (by rw [typeLookup_type, builtinLookup_eq_fast]; kernel_rfl) (by decide +kernel) (by decide +kernel) (by decide +kernel)
    (by first | exact .inl (by decide +kernel) | exact .inr (by decide +kernel)) (by rw [isSubtype_type]; kernel_rfl)
theorem slot_map_next : Slot "map" "__next__" "map.__next__" :=
  .of (owner := "map") (n := "__next__") (by rw [typeLookup_type, builtinLookup_eq_fast]; kernel_rfl) (by decide +kernel) (by decide +kernel) (by decide +kernel)
    (by first | exact .inl (by decide +kernel) | exact .inr (by decide +kernel)) (by rw [isSubtype_type]; kernel_rfl)
theorem entry_map_next : entryFor table "map.__next__" = some Builtin.«map.__next__» := entryFor_of_tree (by kernel_rfl)
theorem entry_map_new : entryFor table "map.__new__" = some Builtin.«map.__new__» := entryFor_of_tree (by kernel_rfl)
theorem entry_map_iter : entryFor table "map.__iter__" = some Builtin.«dict_keyiterator.__iter__» :=
  entryFor_alias (id' := "dict_keyiterator.__iter__") (by kernel_rfl) (by first | rfl | decide +kernel | (unfold String.splitOn; simp +decide [String.splitOnAux])) (by decide +kernel) (by kernel_rfl)
theorem args_map_iter_1 (a : Value) : argsOk "map.__iter__" ⟨[a], []⟩ := by
  unfold argsOk; rw [signature?_of (id := "map.__iter__") (n := ['_', '_', 'r', 'e', 't', 'i', '_', '_']) (o := ['p', 'a', 'm']) (by kernel_rfl) owner_map]; kernel_rfl
theorem args_map_next_1 (a : Value) : argsOk "map.__next__" ⟨[a], []⟩ := by
  unfold argsOk; rw [signature?_of (id := "map.__next__") (n := ['_', '_', 't', 'x', 'e', 'n', '_', '_']) (o := ['p', 'a', 'm']) (by kernel_rfl) owner_map]; kernel_rfl
theorem args_object_init_3 (a b c : Value) : argsOk "object.__init__" ⟨[a, b, c], []⟩ := by
  unfold argsOk; rw [signature?_of (id := "object.__init__") (n := ['_', '_', 't', 'i', 'n', 'i', '_', '_']) (o := ['t', 'c', 'e', 'j', 'b', 'o']) (by kernel_rfl) PySem.F.owner_object]; kernel_rfl
theorem mro_map : mroOf (.type "map") = pure [.type "map", .type "object"] := by rw [mroOf_type]; kernel_rfl
theorem lookup_map_new : typeLookup (.type "map") "__new__" = pure (some (.builtin "map.__new__")) := by rw [typeLookup_type, builtinLookup_eq_fast]; kernel_rfl
theorem called_map : TypeCalled "map" "map.__new__" "object.__init__" :=
  ⟨by decide +kernel, by decide +kernel, ⟨_, _, mro_map⟩, madeBy_type mro_map lookup_map_new (by decide +kernel), by decide +kernel, by rw [isSubtype_type]; kernel_rfl, slot_map_init⟩
theorem typeCall_map_2 (a b : Value) : checkTypeCall "map" ⟨[a, b], []⟩ = pure () := by kernel_rfl
theorem newCall_map_2 (a b : Value) : checkBuiltinCall "map.__new__" ⟨[.type "map", a, b], []⟩ = pure () := by kernel_rfl
theorem sub_map : isSubtype (.type "map") (.type "map") = pure true := by rw [isSubtype_type]; kernel_rfl

theorem meets_map_new (l : Addr) (items : Array Value) (n : Nat) (dct : Option Addr) (sl : Array (Option Value)) :
    Meets (Builtin.«map.__new__» ⟨[.type "map", .builtin "len", .ref l], []⟩) (fun _ R s => s.heap.get? l = some { cls := .type "tuple", dict := dct, data := .seq items n, slots := sl } ∧
      R (.ok (.ret (.ref (s.heap.objs.size + 2))))
        { s with heap := ((s.heap.push { cls := .type "tuple_iterator", data := .fields #[.ref l, .int 0 0] }).push { cls := .type "tuple", data := .seq #[.ref s.heap.objs.size] }).push { cls := .type "map", data := .fields #[.ref (s.heap.objs.size + 1), .builtin "len"] } }) :=
  .of_wp fun prog w A R s h => by
    obtain ⟨hp, g, d, tk, os⟩ := s; obtain ⟨hl, h⟩ := h
    have hsub := sub_map
    have hL : Heap.IsTuple (Shared.heap ⟨hp, g, d, tk, os⟩) l items := ⟨_, hl, rfl, n, rfl⟩
    wp_walk using AutoSeq1.wpAny_loadPart' hl, wpAny_pyIter_tuple hL
    refine ⟨_, rfl, ?_⟩
    simp only [Heap.size_push]
    exact h

/-- a map of len over a tuple, its iterator at place i -/
def IsMapLen (h : Heap) (I T it ax : Addr) (items : Array Value) (i : Nat) : Prop :=
  h.get? I = some { cls := .type "map", data := .fields #[.ref T, .builtin "len"] } ∧ h.IsTuple T #[.ref it] ∧ h.IsTupleIter it ax i ∧ h.IsTuple ax items

section
variable {prog : Program} {w : World} {A : Around} {E : Value → Shared → Prop} {s : Shared}
theorem nextOf_tuple_item {it t : Addr} {i : Nat} {items : Array Value} {x : Value} {Q : Value → Shared → Prop} (hit : s.heap.IsTupleIter it t i)
    (ht : s.heap.IsTuple t items) (hx : items[i]? = some x)
    (hQ : ∀ h', h'.IsTupleIter it t (i + 1) → Heap.SameBut it s.heap h' → Q x { s with heap := h' }) :
    wpAny (model prog w) A (Builtin.SmallTypes.nextOf (.ref it)) Q E s := by
  obtain ⟨o, ho, hc, hd⟩ := id hit
  obtain ⟨ol, hol, _, nl, hdl⟩ := ht
  unfold Builtin.SmallTypes.nextOf
  refine wpAny_bind (wpAny_callSpecial?_slot (name := Str.ofString "__next__") hit.typeIs PySem.F.slot_tuple_iterator_next
    (wpAny_call_entry PySem.F.slot_tuple_iterator_next hit.typeIs PySem.F.entry_tuple_iterator_next ?_ (PySem.F.args_tuple_iterator_next_1 _)))
  show wpAny _ _ (field (.ref it) 0 >>= _) _ _ s
  refine wpAny_bind (wpAny_field ho hd (x := .ref t) rfl ?_)
  show wpAny _ _ (if (Value.ref t == Value.none) = true then _ else _) _ _ s
  rw [if_neg (show ¬ ((Value.ref t == Value.none) = true) from Bool.false_ne_true)]
  show wpAny _ _ (field (.ref it) 1 >>= _) _ _ s
  refine wpAny_bind (wpAny_field ho hd (x := .int i 0) rfl ?_)
  show wpAny _ _ (seqItems? (.ref t) >>= _) _ _ s
  refine wpAny_bind (wpAny_seqItems hol hdl ?_)
  simp only [Int.toNat_natCast, hx]
  refine wpAny_bind (wpAny_setField ho hd (by simp) (wpAny_pure ⟨x, rfl, wpAny_pure (hQ _ ?_ (Heap.SameBut.update ..))⟩))
  exact ⟨_, Heap.get?_update_self _ ho (Obj.isFreed_of_fields (Obj.data_mapFields hd _)), (Obj.cls_mapFields ..).trans hc, by
    rw [Obj.data_mapFields hd]; simp [rawInt]⟩
theorem nextOf_tuple_end {it t : Addr} {i : Nat} {items : Array Value} {Q : Value → Shared → Prop} (hh : A.handled = none)
    (hit : s.heap.IsTupleIter it t i) (ht : s.heap.IsTuple t items) (hx : items[i]? = none)
    (hE : ∀ h' e, Heap.ExtBut it s.heap h' → (∃ o, h'.get? e = some o ∧ o.cls = .type "StopIteration") → E (.ref e) { s with heap := h' }) :
    wpAny (model prog w) A (Builtin.SmallTypes.nextOf (.ref it)) Q E s := by
  obtain ⟨o, ho, hc, hd⟩ := id hit
  obtain ⟨ol, hol, _, nl, hdl⟩ := ht
  unfold Builtin.SmallTypes.nextOf
  refine wpAny_bind (wpAny_callSpecial?_slot (name := Str.ofString "__next__") hit.typeIs PySem.F.slot_tuple_iterator_next
    (wpAny_call_entry PySem.F.slot_tuple_iterator_next hit.typeIs PySem.F.entry_tuple_iterator_next ?_ (PySem.F.args_tuple_iterator_next_1 _)))
  show wpAny _ _ (field (.ref it) 0 >>= _) _ _ s
  refine wpAny_bind (wpAny_field ho hd (x := .ref t) rfl ?_)
  show wpAny _ _ (if (Value.ref t == Value.none) = true then _ else _) _ _ s
  rw [if_neg (show ¬ ((Value.ref t == Value.none) = true) from Bool.false_ne_true)]
  show wpAny _ _ (field (.ref it) 1 >>= _) _ _ s
  refine wpAny_bind (wpAny_field ho hd (x := .int i 0) rfl ?_)
  show wpAny _ _ (seqItems? (.ref t) >>= _) _ _ s
  refine wpAny_bind (wpAny_seqItems hol hdl ?_)
  simp only [Int.toNat_natCast, hx]
  refine wpAny_bind (wpAny_rule (wpAny_bind (wpAny_setField ho hd (by simp) ?_)))
  show wpAny _ _ (newExc (.type "StopIteration") [] >>= _) _ _ _
  refine wpAny_bind ?_
  simp only [newExc, newTuple]
  refine wpAny_bind (wpAny_newObj_type ?_ (by size_fits))
  refine wpAny_bind (m := firstArgMember _ _) (wpAny_of_eq (a := Value.none) (by first | rfl | (simp only [firstArgMember]; rfl)) ?_)
  refine wpAny_newObj_type ?_ (by size_fits)
  simp only [raiseNew]
  refine wpAny_bind (wpAny_handled ?_)
  first | rw [show A.in1.handled = none from hh] | rw [hh]
  refine wpAny_bind (wpAny_pure (wpAny_throw ?_))
  exact hE _ _ (((Heap.SameBut.update ..).extBut.push _).push _) ⟨_, Heap.get?_push_size _ rfl, rfl⟩

theorem mapLen_next_item {I T it ax : Addr} {items : Array Value} {i : Nat} {x : Str} {t : Tok} {Q : Value → Shared → Prop} (H : IsMapLen s.heap I T it ax items i) (h1 : I ≠ it) (h2 : T ≠ it) (h3 : ax ≠ it) (hx : items[i]? = some (.str x t)) (hl : (x.length : Int) < 2 ^ 63)
    (hQ : ∀ h' tk u, IsMapLen h' I T it ax items (i + 1) → Heap.SameBut it s.heap h' → Q (.int x.length u) { s with heap := h', toks := tk }) :
    wpAny (model prog w) A (Builtin.«map.__next__» ⟨[.ref I], []⟩) (fun fin s' => ∃ v, fin = .done (.ret v) ∧ Q v s') E s := by
  obtain ⟨hI, hT, hit, hax⟩ := H
  obtain ⟨oT, hoT, hcT, nT, hdT⟩ := id hT
  show wpAny _ _ (field (.ref I) 0 >>= _) _ _ _
  refine wpAny_bind (wpAny_field hI rfl (x := .ref T) rfl ?_)
  show wpAny _ _ (seqItems? (.ref T) >>= _) _ _ s
  refine wpAny_bind (wpAny_seqItems hoT hdT ?_)
  dsimp only
  rw [← Array.forIn_toList]
  show wpAny _ _ (forIn [Value.ref it] #[] _ >>= _) _ _ _
  rw [List.forIn_cons]
  refine wpAny_bind (wpAny_bind (wpAny_bind (wpAny_holding (nextOf_tuple_item hit hax hx fun h' hit' hs' => wpAny_pure ?_))))
  dsimp only
  rw [List.forIn_nil]
  refine wpAny_pure ?_
  have hI' : h'.get? I = some { cls := .type "map", data := .fields #[.ref T, .builtin "len"] } := (hs'.2 I h1).trans hI
  refine wpAny_bind (wpAny_field (s := { s with heap := h' }) hI' rfl (x := .builtin "len") rfl ?_)
  refine wpAny_bind (wpAny_holding ?_)
  show wpAny _ _ (call (.builtin "len") [.str x t]) _ _ _
  refine PySem.P.len_str (by omega) ?_
  refine wpAny_bind (wpAny_letGo ?_)
  exact wpAny_pure ⟨_, rfl, hQ h' _ _ ⟨hI', hT.extBut hs'.extBut h2, hit', hax.extBut hs'.extBut h3⟩ hs'⟩

theorem Walks.mapLen (hh : A.handled = none) (I T it ax : Addr) (h1 : I ≠ it) (h2 : T ≠ it) (h3 : ax ≠ it) (items : Array Value) (hall : ∀ (i : Nat) (v : Value), items[i]? = some v → ∃ (x : Str) (t : Tok), v = Value.str x t ∧ (x.length : Int) < 2 ^ 63) :
    PySem.Walks prog w A I [I, T, it, ax] [it] items.size (fun (i : Nat) (v : Value) => ∃ (x : Str) (t : Tok) (u : Tok), items[i]? = some (Value.str x t) ∧ v = Value.int x.length u) (fun i h => IsMapLen h I T it ax items i) where
  sub := fun b hb => by simp at hb; simp [hb]
  frame := fun _ _ _ st hk => ⟨hk I (by simp) _ st.1, st.2.1.at fun o e => hk T (by simp) o e, st.2.2.1.at fun o e => hk it (by simp) o e, st.2.2.2.at fun o e => hk ax (by simp) o e⟩
  item := fun i s Q E hi st hQ => by
    have hT : s.TypeIs (.ref I) "map" := ⟨_, st.1, rfl⟩
    obtain ⟨x, t, hv, hl⟩ := hall i items[i] (Array.getElem?_eq_getElem hi)
    have hx : items[i]? = some (.str x t) := by rw [Array.getElem?_eq_getElem hi, hv]
    unfold pyNext
    exact wpAny_bind (wpAny_attempt (wpAny_callSpecial?_slot (name := Str.ofString "__next__") hT slot_map_next
      (wpAny_call_entry slot_map_next hT entry_map_next
        (mapLen_next_item st h1 h2 h3 hx hl fun h' tk u H' hs => wpAny_pure (hQ _ h' tk ⟨x, t, u, hx, rfl⟩ H' fun b o hb e => hs.extBut b o (fun q => hb (by simp [q])) e)) (args_map_next_1 _))))
  done := fun s Q E st hQ => by
    have hT : s.TypeIs (.ref I) "map" := ⟨_, st.1, rfl⟩
    obtain ⟨hI, hTT, hit, hax⟩ := st
    obtain ⟨oT, hoT, hcT, nT, hdT⟩ := id hTT
    unfold pyNext
    refine wpAny_bind (wpAny_attempt (wpAny_callSpecial?_slot (name := Str.ofString "__next__") hT slot_map_next
      (wpAny_call_entry slot_map_next hT entry_map_next ?_ (args_map_next_1 _))))
    show wpAny _ _ (field (.ref I) 0 >>= _) _ _ _
    refine wpAny_bind (wpAny_field hI rfl (x := .ref T) rfl ?_)
    show wpAny _ _ (seqItems? (.ref T) >>= _) _ _ s
    refine wpAny_bind (wpAny_seqItems hoT hdT ?_)
    dsimp only
    rw [← Array.forIn_toList]
    show wpAny _ _ (forIn [Value.ref it] #[] _ >>= _) _ _ _
    rw [List.forIn_cons]
    refine wpAny_bind (wpAny_bind (wpAny_bind (wpAny_holding (nextOf_tuple_end hh hit hax (by simp) fun h' x he' hx' => ?_))))
    obtain ⟨o, ho, hc⟩ := hx'
    refine wpAny_bind (wpAny_isInstance (T := "StopIteration") (b := true) ⟨o, ho, hc⟩ isSubtype_stop ?_)
    exact wpAny_pure (hQ h' s.toks fun b o hb y => he' b o (fun e' => hb (by simp [e'])) y)
  self := fun _ s _ _ st hQ => by
    have hT : s.TypeIs (.ref I) "map" := ⟨_, st.1, rfl⟩
    refine wpAny_pyIter_slot hT slot_map_iter (wpAny_call_entry slot_map_iter hT entry_map_iter ?_ (args_map_iter_1 _))
    show wpAny _ _ (ret (.ref I)) _ _ s
    exact wpAny_pure ⟨_, rfl, "map", _, hT, slot_map_next.lookup, hQ⟩
end
end Mine
end
section
open PySem PySem.W PySem.Spec PySem.Calls PyProof.Rows
set_option maxRecDepth 100000
set_option maxHeartbeats 4000000
namespace Mine
section
variable {prog : Program} {w : World} {A : Around} {E : Value → Shared → Prop} {s : Shared} {h₀ : Heap} {L : Addr} {m : Str → Option Value} {news : List (Addr × Obj)}
/-- a map of len over two texts, fresh -/
def TwoLens (x y : Str) (I : Addr) (h₀ : Heap) (L : Addr) (news : List (Addr × Obj)) (h : Heap) : Prop :=
  ∃ T it ax t u, IsMapLen h I T it ax #[.str x t, .str y u] 0 ∧ I ≠ it ∧ T ≠ it ∧ ax ≠ it ∧ it ≠ L ∧ h₀.get? it = none ∧ (∀ p ∈ news, p.1 ≠ it) ∧ I < h.objs.size ∧ T < h.objs.size ∧ it < h.objs.size ∧ ax < h.objs.size
theorem callMapLen {l : Addr} {x y : Str} {t u : Tok} {n : Nat} {Q : Value → Shared → Prop} (F : Fr h₀ L s.heap m) (N : News h₀ L s.heap news)
    (hl : (l, ({ cls := .type "tuple", data := .seq #[.str x t, .str y u] n } : Obj)) ∈ news)
    (h : ∀ h' I, Fr h₀ L h' m → News h₀ L h' news → TwoLens x y I h₀ L news h' → Q (.ref I) { s with heap := h' }) :
    wpAny (model prog w) A (call (.type "map") [.builtin "len", .ref l]) Q E s := by
  have hLs : L < s.heap.objs.size := F.ns.lt
  have hab : h₀.objs.size ≤ L := F.above
  have hg := (N _ hl).1
  have hlt : l < s.heap.objs.size := Heap.lt_size hg
  refine callType_new called_map (by decide) (typeCall_map_2 _ _) (newCall_map_2 _ _) (fun obj => args_object_init_3 obj _ _) entry_map_new (meets_map_new l #[.str x t, .str y u] n none #[]) ⟨hg, ?_⟩
  generalize e1 : s.heap.push { cls := .type "tuple_iterator", data := .fields #[.ref l, .int 0 0] } = g1
  have z1 : g1.objs.size = s.heap.objs.size + 1 := by rw [← e1, Heap.size_push]
  generalize e2 : g1.push { cls := .type "tuple", data := .seq #[.ref s.heap.objs.size] } = g2
  have z2 : g2.objs.size = s.heap.objs.size + 2 := by rw [← e2, Heap.size_push, z1]
  generalize e3 : g2.push { cls := .type "map", data := .fields #[.ref (s.heap.objs.size + 1), .builtin "len"] } = g3
  have z3 : g3.objs.size = s.heap.objs.size + 3 := by rw [← e3, Heap.size_push, z2]
  have k3 : ∀ b o, g2.get? b = some o → g3.get? b = some o := fun b o e => by rw [← e3]; exact Heap.get?_push_of_some _ e
  have k2 : ∀ b o, g1.get? b = some o → g2.get? b = some o := fun b o e => by rw [← e2]; exact Heap.get?_push_of_some _ e
  have k1 : ∀ b o, s.heap.get? b = some o → g1.get? b = some o := fun b o e => by rw [← e1]; exact Heap.get?_push_of_some _ e
  have hk : ∀ b o, s.heap.get? b = some o → g3.get? b = some o := fun b o e => k3 b o (k2 b o (k1 b o e))
  have gI : g3.get? (s.heap.objs.size + 2) = some { cls := .type "map", data := .fields #[.ref (s.heap.objs.size + 1), .builtin "len"] } := by rw [← z2, ← e3]; exact Heap.get?_push_size _ rfl
  have gT : g3.get? (s.heap.objs.size + 1) = some { cls := .type "tuple", data := .seq #[.ref s.heap.objs.size] } := k3 _ _ (by rw [← z1, ← e2]; exact Heap.get?_push_size _ rfl)
  have git : g3.get? s.heap.objs.size = some { cls := .type "tuple_iterator", data := .fields #[.ref l, .int 0 0] } := k3 _ _ (k2 _ _ (by rw [← e1]; exact Heap.get?_push_size _ rfl))
  refine ⟨⟨_, gI, rfl⟩, h g3 _ ⟨F.ns.keeps hk, fun b o e => hk b o (F.keep b o e), F.above⟩ (fun p hp => ⟨hk _ _ (N p hp).1, (N p hp).2⟩)
    ⟨_, _, _, t, u, ⟨gI, ⟨_, gT, rfl, _, rfl⟩, ⟨_, git, rfl, rfl⟩, ⟨_, hk _ _ hg, rfl, n, rfl⟩⟩, Nat.ne_of_gt (Nat.lt_add_of_pos_right (by decide)), Nat.ne_of_gt (Nat.lt_add_of_pos_right (by decide)), Nat.ne_of_lt hlt, Nat.ne_of_gt hLs, Heap.get?_none_of_le (Nat.le_trans hab (Nat.le_of_lt hLs)), fun p hp => Nat.ne_of_lt (Heap.lt_size (N p hp).1), by rw [z3]; exact Nat.add_lt_add_left (by decide) _, by rw [z3]; exact Nat.add_lt_add_left (by decide) _, by rw [z3]; exact Nat.lt_add_of_pos_right (by decide), by rw [z3]; exact Nat.lt_trans hlt (Nat.lt_add_of_pos_right (by decide))⟩⟩
theorem maxTwoLens {x y : Str} {I : Addr} {Q : Value → Shared → Prop} (hh : A.handled = none) (F : Fr h₀ L s.heap m) (N : News h₀ L s.heap news) (H : TwoLens x y I h₀ L news s.heap) (hx : x.length ≤ 100) (hy : y.length ≤ 100)
    (h : ∀ h' tk t, Fr h₀ L h' m → News h₀ L h' news → Q (.int (max x.length y.length : Nat) t) { s with heap := h', toks := tk }) :
    wpAny (model prog w) A (call (.builtin "max") [.ref I]) Q E s := by
  obtain ⟨T, it, ax, t, u, H, h1, h2, h3, h4, h5, h6, b1, b2, b3, b4⟩ := H
  have hall : ∀ (i : Nat) (v : Value), (#[Value.str x t, .str y u] : Array Value)[i]? = some v → ∃ (x : Str) (t : Tok), v = Value.str x t ∧ (x.length : Int) < 2 ^ 63 := by
    intro i v hv
    match i, hv with
    | 0, hv => exact ⟨x, t, by simpa using hv.symm, by omega⟩
    | 1, hv => exact ⟨y, u, by simpa using hv.symm, by omega⟩
    | i + 2, hv => simp at hv
  have W := Walks.mapLen (prog := prog) (w := w) (A := A.in1) hh I T it ax h1 h2 h3 #[.str x t, .str y u] hall
  refine call_max_walk ?_
  refine W.self 0 s _ _ H ⟨I, _, _, _, _, _, (fun i j => decide ((if i = 0 then (x.length : Int) else y.length) > if j = 0 then (x.length : Int) else y.length)), rfl, W, H, fun b hb => ?_, (Nat.succ_pos 1 : 0 < 2), CmpOf.ints_gt (fun i => if i = 0 then (x.length : Int) else y.length) fun i v hv => ?_, fun v h' tk hP hk => ?_⟩
  · simp only [List.mem_cons, List.not_mem_nil, or_false] at hb
    rcases hb with rfl | rfl | rfl | rfl <;> assumption
  · obtain ⟨x', t', u', hv, rfl⟩ := hv
    match i, hv with
    | 0, hv =>
      have : x = x' := by simp at hv; exact hv.1
      exact ⟨u', by simp [this]⟩
    | 1, hv =>
      have : y = x' := by simp at hv; exact hv.1
      exact ⟨u', by simp [this]⟩
    | i + 2, hv => simp at hv
  · have hk2 : ∀ b o, b ≠ it → s.heap.get? b = some o → h'.get? b = some o := fun b o hb e => hk b o (fun q => hb (List.mem_singleton.mp q)) e
    obtain ⟨oL, es, ep, hL, r⟩ := F.ns
    have F' : Fr h₀ L h' m := ⟨⟨oL, es, ep, hk2 _ _ h4.symm hL, r⟩, fun b o e => hk2 _ _ (fun q => by rw [q, h5] at e; cases e) (F.keep b o e), F.above⟩
    have N' : News h₀ L h' news := fun p hp => ⟨hk2 _ _ (h6 p hp) (N p hp).1, (N p hp).2⟩
    obtain ⟨x', t', u', hv, rfl⟩ := hP
    have key : x'.length = max x.length y.length := by
      have hs : (#[Value.str x t, Value.str y u] : Array Value).size - 1 = 1 := rfl
      rw [hs] at hv
      simp only [argBest] at hv
      by_cases c : (y.length : Int) > x.length
      · have e : y = x' := (show y = x' ∧ u = t' by simpa [c] using hv).1
        rw [← e]; omega
      · have e : x = x' := (show x = x' ∧ t = t' by simpa [c] using hv).1
        rw [← e]; omega
    rw [key]
    exact h h' tk u' F' N'
end
end Mine
end
section
open PySem PySem.W PySem.Spec PySem.Calls PyProof.Rows
set_option maxRecDepth 100000
set_option maxHeartbeats 8000000
namespace Mine
abbrev TopB (mean : ExcName → Option Value) (mg mb : Str → Option Value) (h : Heap) : Prop :=
  Top hd.view_39 (looseW hd.view_39 [PySem.Str.ofString "Base", PySem.Str.ofString "Levenshtein", PySem.Str.ofString "DamerauLevenshtein"]) mean mg mb h

/-- what a call of f on vs gives back, from any place: Ret; the ledger stands as it stood -/
def Does (w : World) (f : Addr) (vs : List Value) (room ru : Nat) (need : List (Addr × Obj) → Prop) (Ret : Value → Prop) : Prop :=
  ∀ (mean : ExcName → Option Value) (mg mb : Str → Option Value) (dp un : Nat) (gd : Option (List Code)) (cn : Str) (cs : Scope) (a : Addr) (ccd : Value) (cl : List (Str × Addr)) (outer : List Env) (A₀ : Around) (base h₀ : Heap) (L : Addr) (m : Str → Option Value) (s : Shared) (Q E : Value → Shared → Prop) (news : List (Addr × Obj)),
    Below A₀ base outer h₀ → Fr h₀ L s.heap m → (hd.heap_39 w.params).In h₀ → News h₀ L s.heap news → TopB mean mg mb h₀ → cs.kind = .function → dp + room < recursionLimit → un + ru < cLine → need news →
    (∀ v (h' : Heap) (tk' : Nat), Ret v → Fr h₀ L h' m → News h₀ L h' news → Q v { s with heap := h', toks := tk' }) →
    wpAny (model PySem.Challenge.rw_br0039_01.row.prog w) (ktrTop dp un gd cn cs L a ccd cl outer) (call (.ref f) vs) Q E s

theorem Does.use {w : World} {f : Addr} {vs : List Value} {room ru : Nat} {need : List (Addr × Obj) → Prop} {Ret : Value → Prop} (C : Does w f vs room ru need Ret)
    {mean : ExcName → Option Value} {mg mb : Str → Option Value} {dp un : Nat} {gd : Option (List Code)} {cn : Str} {cs : Scope} {a : Addr} {ccd : Value} {cl : List (Str × Addr)} {outer : List Env} {A₀ : Around} {base h₀ : Heap} {L : Addr} {m : Str → Option Value} {s : Shared} {Q E : Value → Shared → Prop} {news : List (Addr × Obj)}
    (k1 : Below A₀ base outer h₀) (k2 : Fr h₀ L s.heap m) (k3 : (hd.heap_39 w.params).In h₀) (k4 : News h₀ L s.heap news) (k5 : TopB mean mg mb h₀) (k6 : cs.kind = .function) (k7 : dp + room < recursionLimit) (k8 : un + ru < cLine) (k9 : need news)
    (h : ∀ v (h' : Heap) (tk' : Nat), Ret v → Fr h₀ L h' m → News h₀ L h' news → Q v { s with heap := h', toks := tk' }) :
    wpAny (model PySem.Challenge.rw_br0039_01.row.prog w) (ktrTop dp un gd cn cs L a ccd cl outer) (call (.ref f) vs) Q E s :=
  C mean mg mb dp un gd cn cs a ccd cl outer A₀ base h₀ L m s Q E news k1 k2 k3 k4 k5 k6 k7 k8 k9 h

/-- the attributes of a DamerauLevenshtein(external=False, restricted=r) -/
abbrev dlDict (w : World) (t1 t2 t3 t4 : Tok) (r : Bool) : Obj :=
  dictOf [⟨PyData.keyHash w.params (Str.ofString "qval"), .str (Str.ofString "qval") t1, .int 1 452⟩, ⟨PyData.keyHash w.params (Str.ofString "test_func"), .str (Str.ofString "test_func") t2, .ref 100⟩,
    ⟨PyData.keyHash w.params (Str.ofString "external"), .str (Str.ofString "external") t3, .bool false⟩, ⟨PyData.keyHash w.params (Str.ofString "restricted"), .str (Str.ofString "restricted") t4, .bool r⟩] 4
def IsDL (w : World) (self : Addr) (r : Bool) (news : List (Addr × Obj)) : Prop := ∃ dx t1 t2 t3 t4, (self, instObj 230 dx) ∈ news ∧ (dx, dlDict w t1 t2 t3 t4 r) ∈ news

/-- a new empty dict -/
theorem dictNew {prog : Program} {w : World} {A : Around} {E : Value → Shared → Prop} {s : Shared} {h₀ : Heap} {L : Addr} {m : Str → Option Value} {news : List (Addr × Obj)} {env : Env} {pos : Pos} {Q : Value → Shared → Prop} (F : Fr h₀ L s.heap m) (N : News h₀ L s.heap news)
    (h : ∀ h' d, Fr h₀ L h' m → News h₀ L h' ((d, dictOf [] 0) :: news) → (∀ p ∈ news, p.1 < d) → Q (.ref d) { s with heap := h' }) :
    wpAny (model prog w) A (eval (.Dict [] [] pos) env) Q E s :=
  wpAny_Dict_empty (h _ _ (F.push _) (N.push F _) fun p hp => Heap.lt_size (N p hp).1)

theorem lenSetN {prog : Program} {w : World} {A : Around} {E : Value → Shared → Prop} {s : Shared} {h₀ : Heap} {L sa : Addr} {news : List (Addr × Obj)} {so : Obj} {S : Str → Bool} {n : Nat} {Q : Value → Shared → Prop}
    (N : News h₀ L s.heap ((sa, so) :: news)) (hso : so.SetObjOf (strKind prog w) S n) (hfit : (n : Int) < 2 ^ 63) (h : Q (.int n (s.toks + 1)) { s with toks := s.toks + 1 + 1 }) :
    wpAny (model prog w) A (call (.builtin "len") [.ref sa]) Q E s := len_sl1 (own := []) (rest := news) N hso hfit h

section
variable {prog : Program} {w : World} {A : Around} {E : Value → Shared → Prop} {s : Shared} {K : Frag} {x C p L : Addr} {ox : Obj} {name : Str} {h₀ : Heap} {m : Str → Option Value} {es : List DictEntry} {n : Nat} {fv : Value} {rest : List Value}
/-- a static method read off an object -/
theorem getStatic {expr : Bool} {Q : Value → Shared → Prop} (F : Fr h₀ L s.heap m) (X₀ : K.In h₀) (I : InstAt s.heap x ox C (some (dictOf es n))) (hg : plainGet K C name = true) (hh : hasDictIn K C = true) (ha : findIn K (.ref C) name = some (some (.ref p)))
    (hgf : specialIn K (.ref p) "__get__" = some (some (.builtin "staticmethod.__get__"))) (hts : takesIn K (.ref p) = some false) (hc : copiedNames.contains name = false) (hl : getL name es = some none) (hp : recIn K p "staticmethod" = some (fv :: rest)) (hv : handedIn fv = true)
    (h : Q fv { s with toks := s.toks + 1 }) : wpAny (model prog w) A (getAttr (.ref x) name expr) Q E s :=
  get_bind (X₀.keeps F.keep) I (plainGet_of hg).1 (findObj_fn hh ha hgf hts hc (by show lookIn name (dictOf es n) = _; rw [lookIn_dict, hl])) (plainGet_of hg).2
    (wpAny_call (sm_get (s := { s with toks := s.toks + 1 }) (X₀.keeps F.keep) hp (handed_on hv h)))
end

section
local macro_rules | `(tactic| k_room) => `(tactic| ktr_room)
local macro_rules | `(tactic| k_enter) => `(tactic| (kp_kind "rest"; (fail_if_success k_inElt); (refine' kp_rest ?k1 ?k2 ?k3 ?k4 ?k5 ?kA ?kF ?kK ?k6 ?k7 ?k8 ?kV ?kP ?kG ?kB ?_ ?c2 ?c3 ?c4 ?c5; (case kA => exact rfl); (case kF => exact rfl); (case kK => first | exact rfl | assumption); (case k1 => k_asm); (case k2 => k_asm); (case k3 => k_asm); (case k4 => k_asm); (case k5 => k_asm); (case k6 => k_is); (case k7 => k_is); (case k8 => k_room); (case kV => kl_lit); (case kP => exact rfl); (case kG => exact fun _ => rfl); (case kB => exact fun _ => locs rfl); (case c5 => decide); (case c2 => exact rfl); (case c3 => exact rfl); (case c4 => exact rfl); k_whole; intro D' g' L' h' l1 FG' F' N' B' X' T'; (try dsimp only); (try k_lift B'); (try k_fold))))
local macro_rules | `(tactic| walk_at "call type:set") => `(tactic| (k_here; k_dflt (refine' setOfTwo ?k0 ?k1 ?k2 ?k3 ?_; (case k0 => exact rfl); (case k1 => k_asm); (case k2 => k_asm); (case k3 => k_mem); k_whole); intro h' tk' a' o' F' N' hso' l1; (try k_sweep)))
local macro_rules | `(tactic| walk_at "call builtin:len") => `(tactic| (k_here; k_dflt (refine' lenSetN ?k1 ?k2 ?k3 ?_; (case k1 => k_asm); (case k2 => k_asm); (case k3 => (split <;> decide)); k_whole)))
theorem ident_does (w : World) (x y : Str) (tx ty : Tok) : Does w 100 [.str x tx, .str y ty] 10 20 (fun _ => True) (fun v => v = .bool (decide (x = y))) := by
  unfold Does
  w_top off
  k_fill
  intro mean mg mb dp un gd cn cs a ccd cl outer A₀ base h₀ L m s Q E news hB hF hK hN hT hcs hdp hun _ hret
  refine wpAny_call ?_
  k_dflt k_enter
  k_steps
  rename_i kF kN _ _
  refine hret _ _ _ ?_ kF fun p hp => kN p (by simp [hp])
  by_cases e : x = y
  · simp [e]
  · simp [e]
end
end Mine
end
section
open PySem PySem.W PySem.Spec PySem.Calls PyProof.Rows
set_option maxRecDepth 100000
set_option maxHeartbeats 4000000
namespace Mine
section
variable {M : Model} {A : Around} {E : Value → Shared → Prop} {s : Shared} {env : Env} {K : Frag} {x C : Addr} {ox : Obj} {od : Option Obj}
/-- o(*e) for an object o -/
theorem callStarOwn {pos p : Pos} {e : PySem.Expr} {first : List Value} {Q : Value → Shared → Prop} (_X : K.In s.heap) (_I : InstAt s.heap x ox C od) (hd : ox.data = .plain)
    (h : wpAny M A (eval e env) (fun v s₁ => StarOf M A E v (fun vs s₂ => kco_P K x C ox od s₂.heap ∧ wpAny M A (call (.ref x) (first ++ vs)) Q E s₂) s₁) E s)
    (he : starEach [.Starred e p] env = [(true, eval e env)] := by rfl) :
    wpAny M A (callWith pos (.ref x) first (backTo pos (starEach [.Starred e p] env)) []) Q E s := by
  rw [he]
  have hl : wpAny M A (evalArgs (.ref x) true (backTo pos [(true, eval e env)]) []) (fun a s₁ => kco_P K x C ox od s₁.heap ∧ wpAny M A (call (.ref x) (first ++ a.pos) a.kw) Q E s₁) E s := ks_lone h
  unfold callWith
  refine wpAny_bind (wpAny_holding (wpAny_mono hl (fun a s₁ h₁ => wpAny_bind (wpAny_standAt ?_)) fun _ _ y => y))
  have L := kco_keeper (M := M) h₁.1.2 hd
  have hst : (backTo pos [(true, eval e env)]).any (·.1) = true := rfl
  simp only [hst, Bool.true_or]
  refine wpAny_bind (L.here ?_)
  have tail : ∀ {t : Sem Value}, wpAny M A t Q E s₁ → wpAny M A (t >>= fun r => holding [r] point >>= fun _ => pure r) Q E s₁ :=
    fun ht => wpAny_bind (wpAny_mono ht (fun r s₂ hr => wpAny_bind (wpAny_holding (wpAny_point (wpAny_pure hr)))) fun _ _ y => y)
  exact tail (wpAny_operateT h₁.2)
end

/-- a method object of a def -/
def MethP (q g : Addr) (v : Value) (h : Heap) : Prop := h.get? q = some (methodObj (.ref g) v) ∧ ∃ o fd, h.get? g = some o ∧ o.data = .func fd
theorem keepMeth {M : Model} {h : Heap} {q g : Addr} {v : Value} (H : MethP q g v h) : Looks M h (keeperOf (.ref q)) .boundFrame := by
  obtain ⟨hq, o, fd, hg, hd⟩ := H
  refine (Looks.ld (part := none) hq).andThen ?_
  simp only [show (Value.type "method" != Value.type "method") = false by decide, Bool.false_eq_true, if_false]
  refine (Looks.ld (part := none) hg).andThen ?_
  simp only [hd]
  exact .now
theorem MethP.of {K : Frag} {h₀ h : Heap} {L q g : Addr} {v : Value} {news : List (Addr × Obj)} (X : K.In h) (N : News h₀ L h news) (hm : (q, methodObj (.ref g) v) ∈ news) (e : fnIn K g = true) : MethP q g v h := by
  unfold fnIn at e
  split at e
  · rename_i e2
    exact ⟨(N _ hm).1, _, _, X _ _ e2, rfl⟩
  · cases e
/-- q(*e) for a method object q -/
theorem callStarMeth {M : Model} {A : Around} {E : Value → Shared → Prop} {s : Shared} {env : Env} {q g : Addr} {v : Value} {h₀ : Heap} {L : Addr} {news : List (Addr × Obj)} {pos p : Pos} {e : PySem.Expr} {Q : Value → Shared → Prop} (_N : News h₀ L s.heap news) (_hm : (q, methodObj (.ref g) v) ∈ news)
    (h : wpAny M A (eval e env) (fun x s₁ => StarOf M A E x (fun vs s₂ => MethP q g v s₂.heap ∧ wpAny M A (call (.ref q) vs) Q E s₂) s₁) E s)
    (he : starEach [.Starred e p] env = [(true, eval e env)] := by rfl) :
    wpAny M A (callWith pos (.ref q) [] (backTo pos (starEach [.Starred e p] env)) []) Q E s := by
  rw [he]
  exact ks_call (P := MethP q g v) rfl (fun h H => ⟨_, .inr (.inr rfl), keepMeth H⟩) (ks_lone h)

/-- as Does, one step nearer to the call -/
def DoesC (w : World) (f : Addr) (vs : List Value) (room ru : Nat) (need : List (Addr × Obj) → Prop) (Ret : Value → Prop) : Prop :=
  ∀ (mean : ExcName → Option Value) (mg mb : Str → Option Value) (dp un : Nat) (gd : Option (List Code)) (cn : Str) (cs : Scope) (a : Addr) (ccd : Value) (cl : List (Str × Addr)) (outer : List Env) (A₀ : Around) (base h₀ : Heap) (L : Addr) (m : Str → Option Value) (s : Shared) (R : Result → Shared → Prop) (news : List (Addr × Obj)),
    Below A₀ base outer h₀ → Fr h₀ L s.heap m → (hd.heap_39 w.params).In h₀ → News h₀ L s.heap news → TopB mean mg mb h₀ → cs.kind = .function → dp + room < recursionLimit → un + ru < cLine → need news →
    (∀ v (h' : Heap) (tk' : Nat), Ret v → Fr h₀ L h' m → News h₀ L h' news → R (.ok (.ret v)) { s with heap := h', toks := tk' }) →
    codeAny (model PySem.Challenge.rw_br0039_01.row.prog w) (ktrTop dp un gd cn cs L a ccd cl outer) (.call (.ref f) ⟨vs, []⟩) R s
theorem DoesC.does {w : World} {f : Addr} {vs : List Value} {room ru : Nat} {need : List (Addr × Obj) → Prop} {Ret : Value → Prop} (C : DoesC w f vs room ru need Ret) : Does w f vs room ru need Ret :=
  fun mean mg mb dp un gd cn cs a ccd cl outer A₀ base h₀ L m s Q E news k1 k2 k3 k4 k5 k6 k7 k8 k9 h =>
    wpAny_call (C mean mg mb dp un gd cn cs a ccd cl outer A₀ base h₀ L m s _ news k1 k2 k3 k4 k5 k6 k7 k8 k9 h)
theorem DoesC.use {w : World} {f : Addr} {vs : List Value} {room ru : Nat} {need : List (Addr × Obj) → Prop} {Ret : Value → Prop} (C : DoesC w f vs room ru need Ret)
    {mean : ExcName → Option Value} {mg mb : Str → Option Value} {dp un : Nat} {gd : Option (List Code)} {cn : Str} {cs : Scope} {a : Addr} {ccd : Value} {cl : List (Str × Addr)} {outer : List Env} {A₀ : Around} {base h₀ : Heap} {L : Addr} {m : Str → Option Value} {s : Shared} {R : Result → Shared → Prop} {news : List (Addr × Obj)}
    (k1 : Below A₀ base outer h₀) (k2 : Fr h₀ L s.heap m) (k3 : (hd.heap_39 w.params).In h₀) (k4 : News h₀ L s.heap news) (k5 : TopB mean mg mb h₀) (k6 : cs.kind = .function) (k7 : dp + room < recursionLimit) (k8 : un + ru < cLine) (k9 : need news)
    (h : ∀ v (h' : Heap) (tk' : Nat), Ret v → Fr h₀ L h' m → News h₀ L h' news → R (.ok (.ret v)) { s with heap := h', toks := tk' }) :
    codeAny (model PySem.Challenge.rw_br0039_01.row.prog w) (ktrTop dp un gd cn cs L a ccd cl outer) (.call (.ref f) ⟨vs, []⟩) R s :=
  C mean mg mb dp un gd cn cs a ccd cl outer A₀ base h₀ L m s R news k1 k2 k3 k4 k5 k6 k7 k8 k9 h
end Mine
end
section
open PySem PySem.W PySem.Spec PySem.Calls PyProof.Rows
set_option maxRecDepth 100000
set_option maxHeartbeats 4000000
namespace Mine
section
variable {prog : Program} {w : World} {A : Around} {h₀ : Heap} {L : Addr} {m : Str → Option Value} {env : Env} {elt : PySem.Expr} {x : Str} {scope : Scope} {cl : List (Str × Addr)} {s : Shared} {S : List (Addr × Obj) → Prop} {P : Nat → Value → Prop} {Fin : List Value → List (Addr × Obj) → Prop}
/-- a list comprehension by an invariant over what is gathered and the ledger -/
theorem compJ {n : Nat} (J : Nat → List Value → List (Addr × Obj) → Prop)
    (turn : ∀ i v ys news I oI C oC D m₂ h tk (E' : Value → Shared → Prop), i < n → P i v → J i ys news → LCg.NsObj oC m₂ → m₂ x = some v → Fr h₀ L h m → News h₀ L h ((I, oI) :: (C, oC) :: (D, LCg.lst ys) :: news) → LCg.Off3 I C D news → ((@Ne Nat I C) ∧ (@Ne Nat I D) ∧ (@Ne Nat C D)) →
      wpAny (model prog w) A (eval elt (compEnvC scope cl C env)) (LCg.CompEnd h₀ L m { s with heap := h, toks := tk } I oI C oC D (LCg.lst ys) S (fun y news' => J (i + 1) (ys ++ [y]) news')) E' { s with heap := h, toks := tk })
    (fin : ∀ ys news, J n ys news → Fin ys news) : ∀ {news : List (Addr × Obj)}, J 0 [] news → LCg.CompRest prog w A h₀ L m env elt x scope cl s S P Fin n 0 [] news := by
  have key : ∀ (k i : Nat) (ys : List Value) (news : List (Addr × Obj)), i + k = n → J i ys news → LCg.CompRest prog w A h₀ L m env elt x scope cl s S P Fin k i ys news := by
    intro k
    induction k with
    | zero =>
      intro i ys news hi hJ
      obtain rfl : i = n := by omega
      exact LCg.CompRest.zero (fin ys news hJ)
    | succ k ih =>
      intro i ys news hi hJ
      refine LCg.CompRest.succ ?_
      intro v I oI C oC D m₂ h tk E' hv hC hx F N off ne
      refine wpAny_mono (turn i v ys news I oI C oC D m₂ h tk E' (by omega) hv hJ hC hx F N off ne) (fun y s₂ hq => ?_) fun _ _ e => e
      obtain ⟨h', tk', nw, e, F', N', off', hS, hJ'⟩ := hq
      exact ⟨h', tk', nw, e, F', N', off', hS, ih (i + 1) _ nw (by omega) hJ'⟩
  intro news hJ
  exact key n 0 [] news (by omega) hJ
end
section
variable {prog : Program} {w : World} {A : Around} {E : Value → Shared → Prop} {h₀ : Heap} {L : Addr} {m : Str → Option Value} {env : Env}
/-- the station before a comprehension over a range -/
def CompStop (prog : Program) (w : World) (A : Around) (h₀ : Heap) (L : Addr) (m : Str → Option Value) (env : Env) (elt : PySem.Expr) (x : Str) (scope : Scope) (cl : List (Str × Addr)) (Fin : Shared → List Value → List (Addr × Obj) → Prop) (xv : Value) (s₁ : Shared) : Prop :=
  LCg.CompSrc prog w A h₀ L m env elt x scope cl Fin xv s₁
theorem compStop {elt : PySem.Expr} {x : Str} {scope : Scope} {cl : List (Str × Addr)} {Fin : Shared → List Value → List (Addr × Obj) → Prop} {xv : Value} {s₁ : Shared}
    (h : CompStop prog w A h₀ L m env elt x scope cl Fin xv s₁) : LCg.CompSrc prog w A h₀ L m env elt x scope cl Fin xv s₁ := h
end
theorem strs_snoc {y : Str} {t : Tok} : ∀ {vs : List Value} {ys : List Str}, StrsAre vs ys → StrsAre (vs ++ [.str y t]) (ys ++ [y])
  | _, _, .nil => .cons y t .nil
  | _, _, .cons z u r => .cons z u (strs_snoc r)
theorem fmod_bounds (z : Int) {n : Int} (h : 0 < n) : 0 ≤ z.fmod n ∧ z.fmod n < n := by
  rw [Int.fmod_eq_emod_of_nonneg z (Int.le_of_lt h)]
  exact ⟨Int.emod_nonneg z (by omega), Int.emod_lt_of_pos z h⟩
end Mine
end
section
open PySem PySem.W PySem.Spec PySem.Calls PyProof.Rows
set_option maxRecDepth 100000
set_option maxHeartbeats 4000000
namespace Mine
/-- apart from the block's own objects -/
def Off4 (I C c D : Addr) (news : List (Addr × Obj)) : Prop := ∀ p ∈ news, p.1 ≠ I ∧ p.1 ≠ C ∧ p.1 ≠ c ∧ p.1 ≠ D
/-- what a turn of a comprehension whose variable is a cell leaves -/
def CellEnd (h₀ : Heap) (L : Addr) (m : Str → Option Value) (s₁ : Shared) (I : Addr) (oI : Obj) (C : Addr) (oC : Obj) (c : Addr) (oc : Obj) (D : Addr) (ys : List Value) (rest : List Value → List (Addr × Obj) → Prop) (y : Value) (s₂ : Shared) : Prop :=
  ∃ h' tk news', s₂ = { s₁ with heap := h', toks := tk } ∧ Fr h₀ L h' m ∧ News h₀ L h' ((I, oI) :: (C, oC) :: (c, oc) :: (D, LCg.lst ys) :: news') ∧ Off4 I C c D news' ∧ rest (ys ++ [y]) news'
abbrev blockDict : Obj := { cls := .type "dict", data := .dict #[] }
theorem blockDict_ns : LCg.NsObj blockDict (fun _ => none) := by
  obtain ⟨o, es, ep, ho, hd, hk, hf⟩ := Heap.Ns.new ({ objs := #[] } : Heap) (.type "dict")
  have e : o = blockDict := (Option.some.inj ((Heap.get?_push_size _ rfl).symm.trans ho)).symm
  exact ⟨es, ep, e ▸ hd, hk, hf⟩
section
variable {M : Model} {A : Around} {E : Value → Shared → Prop} {s : Shared}
theorem newEnvCell {scope : Scope} {globals : Addr} {cl : List (Str × Addr)} {qual : Str} {outer : Env} {x : Str} {Q : Env → Shared → Prop}
    (hc : ∀ n, cellsFrom n scope.names cl = (x, n) :: cl) (hp : ∀ h, pushCells h scope.names = h.push { cls := .type "cell", data := .cell none })
    (hQ : Q { scope := scope, locals := s.heap.objs.size, globals := globals, cells := (x, s.heap.objs.size + 1) :: cl, qual := qual, func := none, code := outer.code, frame := outer.frame, builtins := outer.builtins }
      { s with heap := (s.heap.push blockDict).push { cls := .type "cell", data := .cell none } }) :
    wpAny M A (newFunctionEnv scope globals cl [] qual none .none (some outer)) Q E s := by
  simp only [newFunctionEnv, Option.isSome_some, if_true]
  refine wpAny_bind (wpAny_alloc ?_)
  refine wpAny_bind (wpAny_layCells _ (fun name kind cells => by cases hkc : kind == NameKind.cell <;> simp [hkc]) _ _ _ _ ?_)
  rw [show ({ s with heap := s.heap.push { cls := .type "dict", data := .dict #[] } } : Shared).heap.objs.size = s.heap.objs.size + 1 from Heap.size_push ..]
  rw [hc, hp]
  rw [List.forIn_nil]
  exact wpAny_bind (wpAny_pure (wpAny_pure hQ))
end
section
variable {prog : Program} {w : World} {A : Around} {E : Value → Shared → Prop} {s : Shared} {h₀ : Heap} {L : Addr} {m : Str → Option Value} {env : Env}

theorem compLoopCell {elt iter : PySem.Expr} {x : Str} {px : Pos} {scope : Scope} {cl : List (Str × Addr)} {pos : Pos} {I C c D : Addr} {n : Nat} {P : Nat → Value → Prop} {St : Nat → Heap → Prop} {oc : Obj} {RR : Result → Shared → Prop} {news : List (Addr × Obj)} {v₀ : Option Value}
    (W : Walks prog w A I [I] [I] n P St) (hsz : n ≤ sizeLine) (hIo : ∀ i h, St i h → ∃ o, h.get? I = some o) (hSt : ∀ i h h' o, St i h → h.get? I = some o → h'.get? I = some o → St i h')
    (hkind : scope.kind = .function) (hx : (compEnvC scope ((x, c) :: cl) C env).kindOf x = some .cell)
    (J : Nat → List Value → List (Addr × Obj) → Prop)
    (turn : ∀ i v ys news oI oc h tk (E' : Value → Shared → Prop), i < n → P i v → J i ys news → oc.data = .cell (some v) → Fr h₀ L h m → News h₀ L h ((I, oI) :: (C, blockDict) :: (c, oc) :: (D, LCg.lst ys) :: news) → Off4 I C c D news →
      wpAny (model prog w) A (eval elt (compEnvC scope ((x, c) :: cl) C env)) (CellEnd h₀ L m { s with heap := h, toks := tk } I oI C blockDict c oc D ys (J (i + 1))) E' { s with heap := h, toks := tk })
    (hIC : I ≠ C) (hIc : I ≠ c) (hID : I ≠ D) (hCc : C ≠ c) (hCD : C ≠ D) (hcD : c ≠ D) (hIL : I ≠ L) (hI₀ : h₀.get? I = none)
    (hst : St 0 s.heap) (F : Fr h₀ L s.heap m) (hoc : oc.data = .cell v₀) (N : News h₀ L s.heap ((C, blockDict) :: (c, oc) :: (D, LCg.lst []) :: news)) (off : Off4 I C c D news) (hJ : J 0 [] news)
    (hRR : ∀ h tk ys news' oc, Fr h₀ L h m → News h₀ L h ((C, blockDict) :: (c, oc) :: (D, LCg.lst ys) :: news') → Off4 I C c D news' → J n ys news' → RR (.ok .next) { s with heap := h, toks := tk }) :
    codeAny (model prog w) A (.compLoop (.ListComp elt [⟨.Name x px, iter, [], 0⟩] scope pos) 0 (.ref I) (.ref D) (compEnvC scope ((x, c) :: cl) C env)) RR s := by
  refine codeAny_compLoop_tests
    (fun k s' => ∃ h' tk i ys oc v₁ news', s' = { s with heap := h', toks := tk } ∧ i ≤ n ∧ k = n + 1 - i ∧ ys.length = i ∧ St i h' ∧ Fr h₀ L h' m ∧ oc.data = .cell v₁ ∧ News h₀ L h' ((C, blockDict) :: (c, oc) :: (D, LCg.lst ys) :: news') ∧
      Off4 I C c D news' ∧ J i ys news') ?_ (n + 1)
    ⟨s.heap, s.toks, 0, [], oc, v₀, news, rfl, Nat.zero_le _, rfl, rfl, hst, F, hoc, N, off, hJ⟩
  rintro k s' ⟨h', tk, i, ys, oc, v₁, news', rfl, hi, rfl, hyl, hst', F', hoc', N', off', hJ'⟩
  have nI : ∀ p ∈ (C, blockDict) :: (c, oc) :: (D, LCg.lst ys) :: news', p.1 ≠ I := fun p hp => by
    rcases List.mem_cons.mp hp with rfl | hp
    · exact hIC.symm
    rcases List.mem_cons.mp hp with rfl | hp
    · exact hIc.symm
    rcases List.mem_cons.mp hp with rfl | hp
    · exact hID.symm
    · exact (off' p hp).1
  by_cases hlt : i < n
  · refine W.item i _ _ _ hlt hst' fun v h₂ tk₂ hPv hst₂ hk₂ => ?_
    have F₂ : Fr h₀ L h₂ m := LCg.fr_but F' hk₂ hIL.symm hI₀
    have N₂ := LCg.news_but N' hk₂ nI
    refine wpAny_assign_Name (wpAny_storeName_cell hkind hx (by simp [compEnvC]) ⟨oc, (N₂ (c, oc) (by simp)).1, hoc'⟩ fun h₃ hc₃ hs₃ => ?_)
    refine wpAny_tests_nil ?_
    simp only [if_true]
    obtain ⟨oc', hgc, hdc⟩ := hc₃
    have hcm := N₂ (c, oc) (by simp)
    have hst₃ : St (i + 1) h₃ := W.frame _ _ _ hst₂ fun b hb o e => hs₃.extBut b o (fun q => hIc (by rw [← List.mem_singleton.mp hb]; exact q)) e
    obtain ⟨oI, heI⟩ := hIo _ _ hst₃
    have F₃ : Fr h₀ L h₃ m := F₂.change hs₃ hcm.2.1 hcm.2.2
    have N₃ : News h₀ L h₃ ((I, oI) :: (C, blockDict) :: (c, oc') :: (D, LCg.lst ys) :: news') := fun p hp => by
      rcases List.mem_cons.mp hp with rfl | hp
      · exact ⟨heI, hIL, hI₀⟩
      rcases List.mem_cons.mp hp with rfl | hp
      · have z := N₂ (C, blockDict) (by simp)
        exact ⟨(hs₃.2 _ hCc).trans z.1, z.2⟩
      rcases List.mem_cons.mp hp with rfl | hp
      · exact ⟨hgc, hcm.2⟩
      rcases List.mem_cons.mp hp with rfl | hp
      · have z := N₂ (D, LCg.lst ys) (by simp)
        exact ⟨(hs₃.2 _ hcD.symm).trans z.1, z.2⟩
      · have z := N₂ p (by simp [hp])
        exact ⟨(hs₃.2 _ (off' p hp).2.2.1).trans z.1, z.2⟩
    refine wpAny_mono (turn i v ys news' oI oc' h₃ _ _ hlt hPv hJ' hdc F₃ N₃ off') (fun y s₄ h₄ => ?_) fun _ _ e => e
    obtain ⟨h₄, tk₄, news₄, rfl, F₄, N₄, off₄, J₄⟩ := h₄
    have zD := N₄ (D, LCg.lst ys) (by simp)
    have hst₄ : St (i + 1) h₄ := hSt _ _ _ _ hst₃ heI (N₄ (I, oI) (by simp)).1
    refine append_at (hsz := by show ys.toArray.size ≤ sizeLine; rw [List.size_toArray, hyl]; exact Nat.le_trans hi hsz) zD.1 fun h₅ hs₅ hD₅ => ?_
    refine ⟨n + 1 - (i + 1), by omega, h₅, tk₄, i + 1, ys ++ [y], oc', _, news₄, rfl, hlt, rfl, by rw [List.length_append, List.length_singleton, hyl], W.frame _ _ _ hst₄ fun b hb o e => hs₅.extBut b o (fun q => hID (by rw [← List.mem_singleton.mp hb]; exact q)) e, F₄.change hs₅ zD.2.1 zD.2.2,
      hdc, fun p hp => ?_, off₄, J₄⟩
    rcases List.mem_cons.mp hp with rfl | hp
    · have z := N₄ (C, blockDict) (by simp)
      exact ⟨(hs₅.2 _ hCD).trans z.1, z.2⟩
    rcases List.mem_cons.mp hp with rfl | hp
    · have z := N₄ (c, oc') (by simp)
      exact ⟨(hs₅.2 _ hcD).trans z.1, z.2⟩
    rcases List.mem_cons.mp hp with rfl | hp
    · exact ⟨hD₅.trans (congrArg some (LCg.lst_snoc ys y)), zD.2⟩
    · have z := N₄ p (by simp [hp])
      exact ⟨(hs₅.2 _ (off₄ p hp).2.2.2).trans z.1, z.2⟩
  · obtain rfl : i = n := Nat.le_antisymm hi (Nat.not_lt.mp hlt)
    refine W.done _ _ _ hst' fun h₂ tk₂ hk₂ => ?_
    exact hRR h₂ tk₂ ys news' oc (LCg.fr_but F' hk₂ hIL.symm hI₀) (LCg.news_but N' hk₂ nI) off' hJ'
end
end Mine
end
section
open PySem PySem.W PySem.Spec PySem.Calls PyProof.Rows
set_option maxRecDepth 100000
set_option maxHeartbeats 4000000
namespace Mine
/-- the station before a comprehension over a range whose variable is a cell -/
def CompCell (prog : Program) (w : World) (A : Around) (h₀ : Heap) (L : Addr) (m : Str → Option Value) (env : Env) (elt : PySem.Expr) (x : Str) (scope : Scope) (cl : List (Str × Addr)) (y : Str) (Q : Flow → Shared → Prop) (xv : Value) (s₁ : Shared) : Prop :=
  ∃ (r : Addr) (a b : Int) (t u v : Tok) (n : Nat) (news : List (Addr × Obj)) (J : Nat → List Value → List (Addr × Obj) → Prop), xv = .ref r ∧ A.handled = none ∧ Fr h₀ L s₁.heap m ∧ News h₀ L s₁.heap news ∧ IsRange s₁.heap r a b 1 t u v ∧ Builtin.Range.small a b 1 = true ∧ Builtin.Range.rangeSize a b 1 = ((n : Nat) : Int) ∧ n ≤ sizeLine ∧ J 0 [] news ∧
    (∀ i v ys news I oI C c oc D h tk (E' : Value → Shared → Prop), i < n → (∃ t, v = Value.int (a + (i : Int)) t) → J i ys news → oc.data = .cell (some v) → Fr h₀ L h m → News h₀ L h ((I, oI) :: (C, blockDict) :: (c, oc) :: (D, LCg.lst ys) :: news) → Off4 I C c D news → I ≠ C → I ≠ c → I ≠ D → C ≠ c → C ≠ D → c ≠ D →
      wpAny (model prog w) A (eval elt (compEnvC scope ((x, c) :: cl) C env)) (CellEnd h₀ L m { s₁ with heap := h, toks := tk } I oI C blockDict c oc D ys (J (i + 1))) E' { s₁ with heap := h, toks := tk }) ∧
    (∀ ys news' D h tk, J n ys news' → Fr h₀ L h (fun z => if z = y then some (.ref D) else m z) → News h₀ L h ((D, LCg.lst ys) :: news') → (∀ p ∈ news', p.1 ≠ D) → Q .next { s₁ with heap := h, toks := tk })
section
variable {prog : Program} {w : World} {A : Around} {E : Value → Shared → Prop} {s : Shared} {h₀ : Heap} {L : Addr} {m : Str → Option Value} {env : Env}
theorem Assign_CompCell {elt iter : PySem.Expr} {x y : Str} {px py : Pos} {scope : Scope} {cl : List (Str × Addr)} {pos spos : Pos} {Q : Flow → Shared → Prop} (_F₀ : Fr h₀ L s.heap m) (hLe : env.locals = L)
    (hsw : swapsWith (.ListComp elt [⟨.Name x px, iter, [], 0⟩] scope pos) (some (.Name y py)) spos.line env = pure true)
    (hclos : closureFor scope env = pure cl) (hc : ∀ n, cellsFrom n scope.names cl = (x, n) :: cl) (hpc : ∀ h, pushCells h scope.names = h.push { cls := .type "cell", data := .cell none }) (hkind : scope.kind = .function)
    (hnames : ∀ z ∈ scope.names, z.2 = .local → scope.names.lookup z.1 = some .local) (hx : ∀ c C, (compEnvC scope ((x, c) :: cl) C env).kindOf x = some .cell)
    (hy : env.kindOf y = some .local) (hp : (env.scope.kind == .class || (env.scope.kind == .module && env.locals != env.globals)) = false)
    (h : wpAny (model prog w) A (eval iter env) (fun xv s₁ => CompCell prog w A h₀ L m env elt x scope cl y Q xv s₁) E s)
    (hs : ∀ x, foldedSetIterable iter env x = pure x := by intro _; rfl) :
    wpAny (model prog w) A (exec (.Assign [.Name y py] (.ListComp elt [⟨.Name x px, iter, [], 0⟩] scope pos) spos) env) Q E s := by
  subst hLe
  rw [exec_Assign_Name_used _ _ _ _ hsw]
  refine wpAny_bind (wpAny_standAt (wpAny_bind ?_))
  show wpAny _ A (do let _ ← comprehension (.ListComp elt [⟨.Name x px, iter, [], 0⟩] scope pos) scope env _ (newList []) false (eval iter env) (some (assign (.Name y py) env))) _ _ s
  refine wpAny_bind (wpAny_mono (wpAny_comprehension_free (use := some (assign (.Name y py) env)) (Q := fun _ s' => Q .next s') rfl hs hclos hkind hnames
    (wpAny_mono h (fun xv s₁ h₁ => ?_) fun _ _ e => e)) (fun _ s' hq => wpAny_pure (wpAny_pure hq)) fun _ _ e => e)
  obtain ⟨r, a, b, t, u, v, n, news, J, rfl, hh, F, N, hr, hsm, hn, hsz, hJ, turn, fin⟩ := h₁
  refine wpAny_pyIter_range hr hsm ?_
  generalize e1 : s₁.heap.push { cls := .type "range_iterator", data := _ } = H1
  have z1 : H1.objs.size = s₁.heap.objs.size + 1 := by rw [← e1, Heap.size_push]
  refine wpAny_newObj_type ?_
  generalize e2 : H1.push { cls := .type "list", dict := none, data := .seq ([] : List Value).toArray } = H2
  have z2 : H2.objs.size = s₁.heap.objs.size + 2 := by rw [← e2, Heap.size_push, z1]
  refine newEnvCell hc hpc ?_
  show codeAny _ _ (.compStart _ 0 (.ref s₁.heap.objs.size) (.ref H1.objs.size) (compEnvC scope ((x, H2.objs.size + 1) :: cl) H2.objs.size env)) (compPost _ A E _ _ (.ref H1.objs.size) H2.objs.size) { s₁ with heap := (H2.push blockDict).push { cls := .type "cell", data := .cell none } }
  generalize e3 : H2.push blockDict = H3
  have z3 : H3.objs.size = s₁.heap.objs.size + 3 := by rw [← e3, Heap.size_push, z2]
  generalize e4 : H3.push { cls := .type "cell", data := .cell none } = H4
  have k1 : ∀ b o, s₁.heap.get? b = some o → H1.get? b = some o := fun b o e => by rw [← e1]; exact Heap.get?_push_of_some _ e
  have k2 : ∀ b o, H1.get? b = some o → H2.get? b = some o := fun b o e => by rw [← e2]; exact Heap.get?_push_of_some _ e
  have k3 : ∀ b o, H2.get? b = some o → H3.get? b = some o := fun b o e => by rw [← e3]; exact Heap.get?_push_of_some _ e
  have k4 : ∀ b o, H3.get? b = some o → H4.get? b = some o := fun b o e => by rw [← e4]; exact Heap.get?_push_of_some _ e
  have old : ∀ b o, s₁.heap.get? b = some o → H4.get? b = some o := fun b o e => k4 b o (k3 b o (k2 b o (k1 b o e)))
  have gI : H4.get? s₁.heap.objs.size = some { cls := .type "range_iterator", data := .fields #[rawInt a, rawInt (Builtin.Range.rangeSize a b 1), rawInt 1] } := k4 _ _ (k3 _ _ (k2 _ _ (by rw [← e1]; exact Heap.get?_push_size _ rfl)))
  have gD : H4.get? H1.objs.size = some (LCg.lst []) := k4 _ _ (k3 _ _ (by rw [← e2]; exact Heap.get?_push_size _ rfl))
  have gC : H4.get? H2.objs.size = some blockDict := k4 _ _ (by rw [← e3]; exact Heap.get?_push_size _ rfl)
  have gc : H4.get? (H2.objs.size + 1) = some { cls := .type "cell", data := .cell none } := by
    have : H2.objs.size + 1 = H3.objs.size := by rw [z2, z3]
    rw [this, ← e4]; exact Heap.get?_push_size _ rfl
  have hLlt : env.locals < s₁.heap.objs.size := F.ns.lt
  have low : ∀ b, s₁.heap.objs.size ≤ b → b ≠ env.locals ∧ h₀.get? b = none := fun b hb =>
    ⟨Nat.ne_of_gt (Nat.lt_of_lt_of_le hLlt hb), Heap.get?_none_of_le (Nat.le_trans F.above (Nat.le_trans (Nat.le_of_lt hLlt) hb))⟩
  have lI := low s₁.heap.objs.size (Nat.le_refl _)
  have lD := low H1.objs.size (by rw [z1]; exact Nat.le_add_right _ _)
  have lC := low H2.objs.size (by rw [z2]; exact Nat.le_add_right _ _)
  have lc := low (H2.objs.size + 1) (by rw [z2]; exact Nat.le_add_right _ 3)
  have hIC : s₁.heap.objs.size ≠ H2.objs.size := by rw [z2]; omega
  have hIc : s₁.heap.objs.size ≠ H2.objs.size + 1 := by rw [z2]; omega
  have hID : s₁.heap.objs.size ≠ H1.objs.size := by rw [z1]; omega
  have hCc : H2.objs.size ≠ H2.objs.size + 1 := by omega
  have hCD : H2.objs.size ≠ H1.objs.size := by rw [z1, z2]; omega
  have hcD : H2.objs.size + 1 ≠ H1.objs.size := by rw [z1, z2]; omega
  have fresh : ∀ p ∈ news, ∀ b, s₁.heap.objs.size ≤ b → p.1 ≠ b := fun p hp b hb => Nat.ne_of_lt (Nat.lt_of_lt_of_le (Heap.lt_size (N p hp).1) hb)
  have W := LCg.range_walks (prog := prog) (w := w) (I := s₁.heap.objs.size) hh a n
  have hst : IsRangeIter H4 s₁.heap.objs.size (a + ((0 : Nat) : Int) * 1) ((n : Int) - ((0 : Nat) : Int)) 1 := by
    show H4.get? _ = _
    rw [gI, hn]; simp
  have loop := compLoopCell (elt := elt) (iter := iter) (px := px) (pos := pos) (s := { s₁ with heap := H4 }) (h₀ := h₀) (L := env.locals) (m := m) (env := env) (scope := scope) (x := x) (c := H2.objs.size + 1) (C := H2.objs.size) (D := H1.objs.size) (cl := cl) (oc := { cls := .type "cell", data := .cell none }) (v₀ := none) (news := news)
    (RR := compPost (model prog w) A E (some (assign (.Name y py) env)) (fun _ s' => Q .next s') (.ref H1.objs.size) H2.objs.size)
    W hsz (fun i h st => ⟨_, st⟩) (fun i h h' o st e e' => by
      have st' : h.get? s₁.heap.objs.size = some _ := st
      show h'.get? s₁.heap.objs.size = some _
      rw [e', ← e]; exact st') hkind (hx _ _) J
    (fun i v ys news oI oc h tk E' hi hP hJ hoc F N off => turn i v ys news _ oI _ _ oc _ h tk E' hi hP hJ hoc F N off hIC hIc hID hCc hCD hcD)
    hIC hIc hID hCc hCD hcD lI.1 lI.2 hst (F.keeps old) rfl (fun p hp => ?_) (fun p hp => ⟨fresh p hp _ (Nat.le_refl _), fresh p hp _ (by rw [z2]; exact Nat.le_add_right _ _), fresh p hp _ (by rw [z2]; exact Nat.le_add_right _ 3), fresh p hp _ (by rw [z1]; exact Nat.le_add_right _ _)⟩) hJ
    (fun h tk ys news' oc F' N' off' hJ' => ?_)
  · exact codeAny_compStart_list loop (W.self 0 _ _ _ hst loop)
  · rcases List.mem_cons.mp hp with rfl | hp
    · exact ⟨gC, lC⟩
    rcases List.mem_cons.mp hp with rfl | hp
    · exact ⟨gc, lc⟩
    rcases List.mem_cons.mp hp with rfl | hp
    · exact ⟨gD, lD⟩
    · exact ⟨old _ _ (N p hp).1, (N p hp).2⟩
  · show wpAny _ A (assign (.Name y py) env (.ref H1.objs.size)) _ _ _
    refine wpAny_assign_Name (wpAny_storeName_local hy F'.ns (fun h₂ hn₂ hs₂ => ?_) hp)
    have hL₀ : h₀.get? env.locals = none := Heap.get?_none_of_le F'.above
    have F₂ : Fr h₀ env.locals h₂ (fun z => if z = y then some (.ref H1.objs.size) else m z) := ⟨hn₂, fun b o e => hs₂.extBut b o (fun q => by rw [q, hL₀] at e; cases e) (F'.keep b o e), F'.above⟩
    have N₂ : News h₀ env.locals h₂ ((H2.objs.size, blockDict) :: (H2.objs.size + 1, oc) :: (H1.objs.size, LCg.lst ys) :: news') := fun p hp => ⟨hs₂.extBut _ _ (N' p hp).2.1 (N' p hp).1, (N' p hp).2⟩
    refine ⟨_, blockDict_ns.ns (N₂ (H2.objs.size, blockDict) (by simp)).1, fun h'' hs'' => fin ys news' H1.objs.size h'' _ hJ' (F₂.change hs'' lC.1 lC.2) (fun p hp => ?_) fun p hp => (off' p hp).2.2.2⟩
    have z := N₂ p (by rcases List.mem_cons.mp hp with rfl | hp <;> simp [*])
    refine ⟨hs''.extBut _ _ ?_ z.1, z.2⟩
    rcases List.mem_cons.mp hp with rfl | hp
    · exact hCD.symm
    · exact (off' p hp).2.1
end
end Mine
end
section
open PySem PySem.W PySem.Spec PySem.Calls PyProof.Rows
set_option maxRecDepth 100000
set_option maxHeartbeats 4000000
namespace Mine
/-- the rows of a grid: xl lists of yl ints each, at k, j it has D k j -/
def Grid (ls : List (Addr × Obj)) (D : Nat → Nat → Int) (xl yl : Nat) : Prop := ls.length = xl ∧ (∀ k p, ls[k]? = some p → IsRow p.2 (D k) yl) ∧ (ls.map (·.1)).Nodup
theorem Grid.nil (D : Nat → Nat → Int) (yl : Nat) : Grid [] D 0 yl := ⟨rfl, fun k p h => by simp at h, List.nodup_nil⟩
theorem Grid.snoc {ls : List (Addr × Obj)} {D : Nat → Nat → Int} {xl yl : Nat} (G : Grid ls D xl yl) {a : Addr} {o : Obj} (R : IsRow o (D xl) yl) (ha : ∀ p ∈ ls, p.1 ≠ a) : Grid (ls ++ [(a, o)]) D (xl + 1) yl := by
  obtain ⟨h1, h2, h3⟩ := G
  refine ⟨by simp [h1], fun k p h => ?_, ?_⟩
  · by_cases e : k < ls.length
    · rw [List.getElem?_append_left e] at h
      exact h2 k p h
    · rw [List.getElem?_append_right (by omega)] at h
      have : k - ls.length = 0 := by
        cases hk : k - ls.length with
        | zero => rfl
        | succ m => rw [hk] at h; simp at h
      rw [this] at h
      simp only [List.getElem?_cons_zero, Option.some.injEq] at h
      rw [← h, show k = xl by omega]; exact R
  · rw [List.map_append, List.nodup_append]
    refine ⟨h3, by simp, fun b hb c hc => ?_⟩
    obtain ⟨p, hp, rfl⟩ := List.mem_map.mp hb
    simp only [List.map_cons, List.map_nil, List.mem_singleton] at hc
    rw [hc]; exact ha p hp
theorem rowOfLst {zs : List Value} {f : Nat → Int} {n : Nat} (hz : zs.length = n) (hv : ∀ q, q < n → ∃ t, zs[q]? = some (Value.int (f q) t)) : IsRow (LCg.lst zs) f n :=
  ⟨rfl, _, _, rfl, by simpa using hz, fun j hj => by obtain ⟨t, ht⟩ := hv j hj; exact ⟨t, by simpa using ht⟩⟩
/-- a row while it is gathered -/
def RowJ (i : Nat) (NW : List (Addr × Obj)) (j : Nat) (zs : List Value) (nw : List (Addr × Obj)) : Prop := nw = NW ∧ zs.length = j ∧ ∀ q, q < j → ∃ t, zs[q]? = some (Value.int ((i : Int) + q) t)
theorem RowJ.snoc {i j : Nat} {NW nw : List (Addr × Obj)} {zs : List Value} {v : Int} {t : Tok} (H : RowJ i NW j zs nw) (hv : v = (i : Int) + j) : RowJ i NW (j + 1) (zs ++ [Value.int v t]) nw := by
  obtain ⟨h1, hz, h3⟩ := H
  refine ⟨h1, by simp [hz], fun q hq => ?_⟩
  by_cases e : q < j
  · obtain ⟨t, ht⟩ := h3 q e
    exact ⟨t, by rw [List.getElem?_append_left (by omega)]; exact ht⟩
  · obtain rfl : q = j := by omega
    refine ⟨t, ?_⟩
    rw [List.getElem?_append_right (by omega), hz, Nat.sub_self, List.getElem?_cons_zero, hv]

theorem Grid.mono {ls : List (Addr × Obj)} {D D' : Nat → Nat → Int} {xl yl : Nat} (G : Grid ls D xl yl) (h : ∀ p q, p < xl → q < yl → D' p q = D p q) : Grid ls D' xl yl :=
  ⟨G.1, fun k p hp => (G.2.1 k p hp).mono fun j hj => h k j (by have := (List.getElem?_eq_some_iff.mp hp).1; rw [← G.1]; exact this) hj, G.2.2⟩
theorem nodup_inj {α : Type} : ∀ {l : List α} {i j : Nat} {x : α}, l.Nodup → l[i]? = some x → l[j]? = some x → i = j
  | [], _, _, _, _, h, _ => by simp at h
  | a :: r, 0, 0, _, _, _, _ => rfl
  | a :: r, 0, j + 1, x, hn, h1, h2 => by
    simp only [List.getElem?_cons_zero, Option.some.injEq] at h1
    simp only [List.getElem?_cons_succ] at h2
    exact absurd (h1 ▸ List.mem_of_getElem? h2) (List.nodup_cons.mp hn).1
  | a :: r, i + 1, 0, x, hn, h1, h2 => by
    simp only [List.getElem?_cons_zero, Option.some.injEq] at h2
    simp only [List.getElem?_cons_succ] at h1
    exact absurd (h2 ▸ List.mem_of_getElem? h1) (List.nodup_cons.mp hn).1
  | a :: r, i + 1, j + 1, x, hn, h1, h2 => by
    simp only [List.getElem?_cons_succ] at h1 h2
    rw [nodup_inj (List.nodup_cons.mp hn).2 h1 h2]
/-- the rows stand apart -/
def RowsApart (ls rest : List (Addr × Obj)) (R : Addr) : Prop := ∀ p ∈ ls, p.1 ≠ R ∧ ∀ q ∈ rest, p.1 ≠ q.1
section
variable {prog : Program} {w : World} {A : Around} {E : Value → Shared → Prop} {s : Shared} {h₀ : Heap} {L R a : Addr} {m : Str → Option Value} {news own rest ls : List (Addr × Obj)} {ys : List Value} {D : Nat → Nat → Int} {xl yl : Nat} {o : Obj}
/-- rows[k] -/
theorem gridRow {value slice : PySem.Expr} {k : Int} {u : Tok} {Q : Value → Shared → Prop} (N : News h₀ L s.heap news) (hm : (R, LCg.lst ys) ∈ news) (hys : ys = ls.map fun p => Value.ref p.1) (G : Grid ls D xl yl) (h0 : 0 ≤ k) (h1 : k < xl) (hn : xl ≤ 1000)
    (hs : subscripted slice false (.ref R) (.int k u) = operate [.ref R, .int k u] (getItem (.ref R) (.int k u)))
    (h : ∀ a o, ls[k.toNat]? = some (a, o) → IsRow o (D k.toNat) yl → Q (.ref a) s) : wpAny (model prog w) A (subscriptTail value slice (.ref R) (.int k u)) Q E s := by
  have hl : s.heap.IsList R ys.toArray := ⟨_, (N _ hm).1, rfl, _, rfl⟩
  have hlen : k.toNat < ls.length := by rw [G.1]; omega
  have he : ls[k.toNat]? = some (ls[k.toNat].1, ls[k.toNat].2) := List.getElem?_eq_getElem hlen
  refine tail_any hl.typeIs PySem.F.slot_list_getitem.lookup (wpAny_getItem_list hl h0 (by omega) (x := .ref ls[k.toNat].1) ?_ (h _ _ he (G.2.1 _ _ he))) hs
  rw [hys]
  simp [hlen]
/-- rows[k][j] = v -/
theorem gridSet {k : Nat} {j v : Int} {t u : Tok} {Q : Unit → Shared → Prop} (F : Fr h₀ L s.heap m) (N : News h₀ L s.heap (own ++ (R, LCg.lst ys) :: (ls ++ rest))) (hys : ys = ls.map fun p => Value.ref p.1) (G : Grid ls D xl yl) (hk : ls[k]? = some (a, o)) (h0 : 0 ≤ j) (h1 : j < yl) (hn : yl ≤ 1000)
    (S : RowsApart ls rest R) (S2 : ∀ p ∈ ls, ∀ q ∈ own, p.1 ≠ q.1)
    (h : ∀ h' ls', Fr h₀ L h' m → News h₀ L h' (own ++ (R, LCg.lst ys) :: (ls' ++ rest)) → (ys = ls'.map fun p => Value.ref p.1) → ls'.map (·.1) = ls.map (·.1) → Grid ls' (fun p q => if p = k ∧ (q : Int) = j then v else D p q) xl yl → RowsApart ls' rest R → (∀ p ∈ ls', ∀ q ∈ own, p.1 ≠ q.1) → Q () { s with heap := h' }) :
    wpAny (model prog w) A (setItem (.ref a) (.int j u) (.int v t)) Q E s := by
  have hmem : (a, o) ∈ ls := List.mem_of_getElem? hk
  have hN := N (a, o) (by simp [hmem])
  have hlen : k < ls.length := (List.getElem?_eq_some_iff.mp hk).1
  obtain ⟨its, hl, hz, hv⟩ := (G.2.1 k _ hk).list hN.1
  refine wpAny_setItem_list hl h0 (by omega) (by omega) fun h' hl' hsb => ?_
  obtain ⟨o', ho', hc', ne', hd'⟩ := hl'
  have hfst : (ls.set k (a, o')).map (·.1) = ls.map (·.1) := by
    rw [List.map_set]
    refine List.ext_getElem? fun i => ?_
    rw [List.getElem?_set]
    split
    · rename_i e
      subst e
      have hkv : ls[k] = (a, o) := (List.getElem?_eq_some_iff.mp hk).2
      simp [hlen, hkv]
    · rfl
  have hin : ∀ p ∈ ls.set k (a, o'), p = (a, o') ∨ (p ∈ ls ∧ p.1 ≠ a) := by
    intro p hp
    obtain ⟨i, hi, rfl⟩ := List.mem_iff_getElem.mp hp
    rw [List.length_set] at hi
    rw [List.getElem_set]
    split
    · exact .inl rfl
    · rename_i e
      refine .inr ⟨List.getElem_mem hi, fun q => ?_⟩
      have h1 : (ls.map (·.1))[i]? = some a := by simp [hi, q]
      have h2 : (ls.map (·.1))[k]? = some a := by simp [hk]
      exact e (nodup_inj G.2.2 h2 h1)
  refine h h' (ls.set k (a, o')) (F.change hsb hN.2.1 hN.2.2) (fun p hp => ?_) (by rw [hys]; exact (by
      have : ∀ l : List (Addr × Obj), l.map (fun p => Value.ref p.1) = (l.map (·.1)).map Value.ref := fun l => by simp
      rw [this, this, hfst])) hfst ⟨by rw [List.length_set]; exact G.1, fun i p hp => ?_, by rw [hfst]; exact G.2.2⟩ (fun p hp => ?_) (fun p hp => ?_)
  · have keep : ∀ p, p ∈ own ++ (R, LCg.lst ys) :: (ls ++ rest) → p.1 ≠ a → h'.get? p.1 = some p.2 ∧ p.1 ≠ L ∧ h₀.get? p.1 = none := fun p hp hne => ⟨(hsb.2 p.1 hne).trans (N p hp).1, (N p hp).2⟩
    rcases List.mem_append.mp hp with hp | hp
    · exact keep p (by simp [hp]) (S2 _ hmem p hp).symm
    rcases List.mem_cons.mp hp with rfl | hp
    · exact keep _ (by simp) (S _ hmem).1.symm
    rcases List.mem_append.mp hp with hp | hp
    · rcases hin p hp with rfl | ⟨hp, hne⟩
      · exact ⟨ho', hN.2⟩
      · exact keep p (by simp [hp]) hne
    · exact keep p (by simp [hp]) ((S _ hmem).2 p hp).symm
  · rw [List.getElem?_set] at hp
    split at hp
    · rename_i e
      subst e
      have hp : (a, o') = p := by simpa [hlen] using hp
      rw [← hp]
      refine ⟨hc', _, _, hd', by simpa using hz, fun q hq => ?_⟩
      dsimp only
      by_cases e : (q : Int) = j
      · refine ⟨t, ?_⟩
        rw [if_pos ⟨rfl, e⟩, Array.getElem?_setIfInBounds, if_pos (by omega), if_pos (by omega)]
      · rw [if_neg (fun c => e c.2), Array.getElem?_setIfInBounds, if_neg (by omega)]
        exact hv q hq
    · rename_i e
      refine (G.2.1 i p hp).mono fun q hq => ?_
      dsimp only
      rw [if_neg (fun c => e c.1.symm)]
  · rcases hin p hp with rfl | ⟨hp, _⟩
    · exact S (a, o) hmem
    · exact S p hp
  · rcases hin p hp with rfl | ⟨hp, _⟩
    · exact S2 (a, o) hmem
    · exact S2 p hp
end
end Mine
end
section
open PySem PySem.W PySem.Spec PySem.Calls PyProof.Rows
set_option maxRecDepth 100000
namespace Mine
/-- a word whose neighbours at p have changed places -/
def turnText (x : Str) (p : Nat) : Str := Txt.slice x none (some (p : Int)) ++ Txt.item x ((p : Int) + 1) ++ Txt.item x (p : Int) ++ Txt.slice x (some ((p : Int) + 2)) none
theorem lt_list (x : Str) (i : Nat) : lt x i = (x.cps.toList[i]?).getD 0 := by
  unfold lt; rw [Array.getD_eq_getD_getElem?, Array.getElem?_toList]
theorem turn_list {x : Str} {p : Nat} (hp : p + 1 < x.length) : (turnText x p).cps.toList = x.cps.toList.take p ++ (lt x (p + 1) :: lt x p :: x.cps.toList.drop (p + 2)) := by
  have hl : x.cps.toList.length = x.length := by simp [Str.length]
  have e1 : Txt.slice x none (some (p : Int)) = ⟨((x.cps.toList.drop 0).take ((p : Int) - 0).toNat).toArray⟩ := StrLaws.sliceText_to (x := x) (j := p) ⟨by omega, by omega⟩
  have e2 : Txt.slice x (some ((p : Int) + 2)) none = ⟨((x.cps.toList.drop ((p : Int) + 2).toNat).take ((x.cps.toList.length : Int) - ((p : Int) + 2)).toNat).toArray⟩ := StrLaws.sliceText_from (x := x) (i := (p : Int) + 2) ⟨by omega, by omega⟩
  unfold turnText
  rw [e1, e2, item_at (y := x) (k := p + 1) (p := (p : Int) + 1) hp (by omega), item_at (y := x) (k := p) (p := (p : Int)) (by omega) rfl]
  have e3 : ((p : Int) - 0).toNat = p := by omega
  have e4 : ((p : Int) + 2).toNat = p + 2 := by omega
  have e5 : ((x.cps.toList.length : Int) - ((p : Int) + 2)).toNat = x.cps.toList.length - (p + 2) := by omega
  rw [e3, e4, e5, List.drop_zero]
  have e6 : (x.cps.toList.drop (p + 2)).take (x.cps.toList.length - (p + 2)) = x.cps.toList.drop (p + 2) := List.take_of_length_le (by rw [List.length_drop]; exact Nat.le_refl _)
  rw [e6]
  simp [Str.cps_append]
theorem turn_length {x : Str} {p : Nat} (hp : p + 1 < x.length) : (turnText x p).length = x.length := by
  have hl : x.cps.toList.length = x.length := by simp [Str.length]
  have h := congrArg List.length (turn_list hp)
  have h2 : (turnText x p).length = (turnText x p).cps.toList.length := by simp [Str.length]
  rw [h2, h]
  simp only [List.length_append, List.length_take, List.length_cons, List.length_drop]
  omega
theorem turn_lt {x : Str} {p : Nat} (hp : p + 1 < x.length) (i : Nat) : lt (turnText x p) i = if i = p then lt x (p + 1) else if i = p + 1 then lt x p else lt x i := by
  have hl : x.cps.toList.length = x.length := by simp [Str.length]
  rw [lt_list, turn_list hp]
  have ht : (x.cps.toList.take p).length = p := by rw [List.length_take]; omega
  by_cases h1 : i < p
  · rw [if_neg (by omega), if_neg (by omega), List.getElem?_append_left (by omega), List.getElem?_take, if_pos h1, ← lt_list]
  · rw [List.getElem?_append_right (by omega), ht]
    by_cases h2 : i = p
    · subst h2; rw [if_pos rfl, Nat.sub_self]; rfl
    · rw [if_neg h2]
      by_cases h3 : i = p + 1
      · subst h3
        rw [if_pos rfl, show p + 1 - p = 1 by omega]; rfl
      · rw [if_neg h3]
        obtain ⟨k, rfl⟩ : ∃ k, i = p + 2 + k := ⟨i - (p + 2), by omega⟩
        rw [show p + 2 + k - p = k + 1 + 1 by omega, List.getElem?_cons_succ, List.getElem?_cons_succ, List.getElem?_drop, ← lt_list]
theorem turn_dist {P : List Nat → List Nat → Prop} (h0 : P [] []) {x : Str} {p : Nat} (hp : p + 1 < x.length) : dist P (wd x) (wd (turnText x p)) = if lt x p = lt x (p + 1) then 0 else 1 := by
  obtain ⟨C, a, e1, e2⟩ := wd_turn (x := x) (z := turnText x p) (p := p) (turn_length hp) hp
    (by rw [turn_lt hp, if_pos rfl]) (by rw [turn_lt hp, if_neg (by omega), if_pos rfl]) (fun i _ h1 h2 => by rw [turn_lt hp, if_neg h1, if_neg h2])
  rw [e1, e2, turn_near h0]
  by_cases e : lt x p = lt x (p + 1)
  · rw [if_pos e, if_pos e.symm]
  · rw [if_neg e, if_neg (fun h => e h.symm)]
theorem turn_yes {P : List Nat → List Nat → Prop} (h0 : P [] []) {x : Str} {p : Nat} (hp : p + 1 < x.length) (h : (Txt.item x (p : Int) == Txt.item x ((p : Int) + 1)) = true) : dist P (wd x) (wd (turnText x p)) = 0 := by
  rw [item_at (y := x) (k := p + 1) (p := (p : Int) + 1) hp (by omega), item_at (y := x) (k := p) (p := (p : Int)) (by omega) rfl] at h
  rw [turn_dist h0 hp, if_pos (by simpa using h)]
theorem turn_no {P : List Nat → List Nat → Prop} (h0 : P [] []) {x : Str} {p : Nat} (hp : p + 1 < x.length) (h : (Txt.item x (p : Int) == Txt.item x ((p : Int) + 1)) = false) : dist P (wd x) (wd (turnText x p)) = 1 := by
  rw [item_at (y := x) (k := p + 1) (p := (p : Int) + 1) hp (by omega), item_at (y := x) (k := p) (p := (p : Int)) (by omega) rfl] at h
  rw [turn_dist h0 hp, if_neg (by simpa using h)]
section
variable {prog : Program} {w : World} {A : Around} {E : Value → Shared → Prop} {s : Shared}
/-- the last joint of the turned word -/
theorem turnAdd {x : Str} {p : Nat} {t u : Tok} {Q : Value → Shared → Prop} (hp : (p : Int) + 1 < x.length) (hx : x.length ≤ 5)
    (h : ∀ z t' k, z.length ≤ 5 →
      ((Txt.item x (p : Int) == Txt.item x ((p : Int) + 1)) = true → ((dist pNext (wd x) (wd z) : Nat) : Int) = 0 ∧ ((dist pAny (wd x) (wd z) : Nat) : Int) = 0) →
      ((Txt.item x (p : Int) == Txt.item x ((p : Int) + 1)) = false → ((dist pNext (wd x) (wd z) : Nat) : Int) = 1 ∧ ((dist pAny (wd x) (wd z) : Nat) : Int) = 1) → Q (.str z t') { s with toks := k }) :
    wpAny (model prog w) A (binaryOp .Add (.str (Txt.slice x none (some (p : Int)) ++ Txt.item x ((p : Int) + 1) ++ Txt.item x (p : Int)) t) (.str (Txt.slice x (some ((p : Int) + 2)) none) u)) Q E s := by
  have hp' : p + 1 < x.length := by omega
  have l1 : (Txt.slice x none (some (p : Int)) ++ Txt.item x ((p : Int) + 1) ++ Txt.item x (p : Int)).length ≤ 7 := by
    have := Txt.slice_le x none (some (p : Int))
    rw [Str.length_append, Str.length_append, item_at (y := x) (k := p + 1) (p := (p : Int) + 1) hp' (by omega), item_at (y := x) (k := p) (p := (p : Int)) (by omega) rfl]
    show _ + 1 + 1 ≤ 7
    omega
  refine KXadd.add l1 (Nat.le_trans (Txt.slice_le x _ _) hx) (by decide) fun t' k _ => h (turnText x p) t' k (by rw [turn_length hp']; exact hx) (fun e => ?_) fun e => ?_
  · rw [turn_yes ⟨rfl, rfl⟩ hp' e, turn_yes trivial hp' e]; exact ⟨rfl, rfl⟩
  · rw [turn_no ⟨rfl, rfl⟩ hp' e, turn_no trivial hp' e]; exact ⟨rfl, rfl⟩
/-- a place in a word, by a remainder -/
theorem modPlace {a : Int} {n : Nat} {t u : Tok} {Q : Value → Shared → Prop} (hn : 0 < n) (h : ∀ p : Nat, (p : Int) < (n : Int) → Q (.int (p : Int) s.toks) { s with toks := s.toks + 1 }) :
    wpAny (model prog w) A (binaryOp .Mod (.int a t) (.int (n : Int) u)) Q E s := by
  refine mod_int (by omega) ?_
  have h1 := Int.emod_nonneg a (show (n : Int) ≠ 0 by omega)
  have h2 := Int.emod_lt_of_pos a (show (0 : Int) < n by omega)
  rw [Int.fmod_eq_emod_of_nonneg a (by omega)]
  have := h (a % n).toNat (by omega)
  rwa [show (((a % (n : Int)).toNat : Nat) : Int) = a % n by omega] at this
end
section
variable {p q : Prop}
theorem ite_empty {x : Str} {inst : Decidable ((x != Str.ofString "") = true)} (h1 : 0 < x.length → p) (h2 : x.length = 0 → q) : @ite Prop ((x != Str.ofString "") = true) inst p q := by
  by_cases e : x.length = 0
  · have : x = Str.ofString "" := Str.ext' (by
      have h0 : x.cps.size = 0 := e
      rw [Array.eq_empty_of_size_eq_zero h0]; rfl)
    rw [if_neg (by simp [this])]
    exact h2 e
  · rw [if_pos (by
      refine bne_iff_ne.mpr fun h => e ?_
      rw [h]; rfl)]
    exact h1 (by omega)
theorem ite_due {c : Bool} {d1 d2 : Int} {inst : Decidable (c = true)} (f1 : c = true → d1 = 0 ∧ d2 = 0) (f2 : c = false → d1 = 1 ∧ d2 = 1) (h1 : d1 = 0 → d2 = 0 → p) (h2 : d1 = 1 → d2 = 1 → q) : @ite Prop (c = true) inst p q := by
  cases c with
  | true => rw [if_pos rfl]; exact h1 (f1 rfl).1 (f1 rfl).2
  | false => rw [if_neg Bool.false_ne_true]; exact h2 (f2 rfl).1 (f2 rfl).2
theorem ite_zero {P : List Nat → List Nat → Prop} {x y : Str} {inst : Decidable _} (h : q) : @ite Prop (((((dist P (wd x) (wd y) : Nat) : Int) == 0) != (x == y)) = true) inst p q := by
  have e : ((((dist P (wd x) (wd y) : Nat) : Int) == 0) != (x == y)) = false := by
    by_cases e : x = y
    · rw [e, dist_self]; simp
    · have h1 : dist P (wd x) (wd y) ≠ 0 := fun h => e (wd_eq.mp (dist_zero.mp h))
      have h2 : (((dist P (wd x) (wd y) : Nat) : Int) == 0) = false := beq_false_of_ne (by omega)
      rw [h2, beq_false_of_ne e]; rfl
  rw [if_neg (by rw [e]; decide)]
  exact h
theorem ite_via {a b c : List Nat} {d : Decidable (((dist pAny a b : Nat) : Int) + ((dist pAny b c : Nat) : Int) < ((dist pAny a c : Nat) : Int))} {inst : Decidable (@decide _ d = true)} (h : q) :
    @ite Prop (@decide (((dist pAny a b : Nat) : Int) + ((dist pAny b c : Nat) : Int) < ((dist pAny a c : Nat) : Int)) d = true) inst p q := by
  have := far_via a b c
  rw [if_neg (by rw [decide_eq_true_eq]; omega)]; exact h
theorem ite_le1 {a b : List Nat} {d : Decidable (((dist pAny a b : Nat) : Int) ≤ ((dist pNext a b : Nat) : Int))} {inst : Decidable (@decide _ d = true)} (h : p) : @ite Prop (@decide (((dist pAny a b : Nat) : Int) ≤ ((dist pNext a b : Nat) : Int)) d = true) inst p q := by
  have := dist_mono pNext_any a b
  rw [if_pos (by rw [decide_eq_true_eq]; omega)]; exact h
theorem ite_le2 {a b : List Nat} {d : Decidable (((dist pNext a b : Nat) : Int) ≤ ((dist pNone a b : Nat) : Int))} {inst : Decidable (@decide _ d = true)} (h : p) : @ite Prop (@decide (((dist pNext a b : Nat) : Int) ≤ ((dist pNone a b : Nat) : Int)) d = true) inst p q := by
  have := dist_mono pNone_next a b
  rw [if_pos (by rw [decide_eq_true_eq]; omega)]; exact h
theorem ite_back1 {a b : List Nat} {inst : Decidable ((((dist pNext a b : Nat) : Int) != ((dist pNext b a : Nat) : Int)) = true)} (h : q) : @ite Prop ((((dist pNext a b : Nat) : Int) != ((dist pNext b a : Nat) : Int)) = true) inst p q := by
  rw [if_neg (by rw [dist_comm pNext_symm a b]; simp)]; exact h
theorem ite_back2 {a b : List Nat} {inst : Decidable ((((dist pAny a b : Nat) : Int) != ((dist pAny b a : Nat) : Int)) = true)} (h : q) : @ite Prop ((((dist pAny a b : Nat) : Int) != ((dist pAny b a : Nat) : Int)) = true) inst p q := by
  rw [if_neg (by rw [dist_comm pAny_symm a b]; simp)]; exact h
theorem ite_self {a : Int} {inst : Decidable ((a != a) = true)} (h : q) : @ite Prop ((a != a) = true) inst p q := by
  rw [if_neg (by simp)]; exact h
end
end Mine
end
section
open PySem PySem.W PySem.Spec PySem.Calls PyProof.Rows
set_option maxRecDepth 100000
set_option maxHeartbeats 8000000
namespace Mine
/-- the places of the table that stand at turn i, j -/
def domR (xl yl i j : Nat) (p q : Int) : Prop :=
  (q = -1 ∧ -1 ≤ p ∧ p < (xl : Int) + 1) ∨ (p = -1 ∧ -1 ≤ q ∧ q < (yl : Int) + 1) ∨ (0 ≤ p ∧ p < (i : Int) ∧ 0 ≤ q ∧ q < (yl : Int)) ∨ (p = (i : Int) ∧ 0 ≤ q ∧ q < (j : Int))
theorem domR_up {xl yl i j : Nat} (hj : j < yl) : domR xl yl i j ((i : Int) - 1) j := by unfold domR; omega
theorem domR_left {xl yl i j : Nat} (hi : i < xl) : domR xl yl i j i ((j : Int) - 1) := by unfold domR; omega
theorem domR_diag {xl yl i j : Nat} (hi : i < xl) (hj : j < yl) : domR xl yl i j ((i : Int) - 1) ((j : Int) - 1) := by unfold domR; omega
theorem domR_two {xl yl i j : Nat} (hi : i < xl) (hj : j < yl) (h1 : (i : Int) ≠ 0) (h2 : (j : Int) ≠ 0) : domR xl yl i j ((i : Int) - 2) ((j : Int) - 2) := by unfold domR; omega
theorem domR_next {xl yl i j : Nat} {p q : Int} (h : domR xl yl i (j + 1) p q) : domR xl yl i j p q ∨ (p = (i : Int) ∧ q = (j : Int)) := by unfold domR at *; omega
theorem domR_row {xl yl i : Nat} {p q : Int} (h : domR xl yl (i + 1) 0 p q) : domR xl yl i yl p q := by unfold domR at *; omega

section
local macro_rules | `(tactic| k_room) => `(tactic| ktr_room)
local macro_rules | `(tactic| walk_at "exec For Name Call cons nil") => `(tactic| (k_here; (rename Fr _ _ _ _ => lF'); (with_unfolding_all refine' For_range lF' ?k1 ?k2 ?_; (case k1 => exact rfl); (case k2 => exact rfl); k_whole)))
local macro_rules | `(tactic| walk_at "eval Dict nil nil") => `(tactic| (k_here; k_dflt (refine' dictNew ?k1 ?k2 ?_; (case k1 => k_asm); (case k2 => k_asm); k_whole); intro h' d' F' N' l1; (try k_sweep)))
local macro_rules | `(tactic| walk_at "newTuple") => `(tactic| (k_here; (with_reducible show wpAny _ _ (newTuple [Value.int _ _, Value.int _ _]) _ _ _); k_dflt (refine' pairNew ?k1 ?k2 ?_; (case k1 => k_asm); (case k2 => k_asm); k_whole); intro h' a' q' F' N' hq' l1; (try k_sweep)))
local macro_rules | `(tactic| walk_at "setItem ref ref int") => `(tactic| (k_here; (rename (∀ p ∈ _, Prod.fst p < _) => l9); k_dflt (refine' tabStore ?F ?N ?q ?T ?u ?n ?S l9 ?_; (case F => k_asm); (case N => k_asm); (case q => assumption); (case T => assumption); (case u => ktr_units); (case n => (rw [sizeLine_eq]; omega)); (case S => assumption); k_whole); intro h' o' tk' F' N' T' S'; (try k_sweep)))
local macro_rules | `(tactic| walk_at "exec For Tuple Call cons nil") => `(tactic| (k_here; with_unfolding_all refine' For_pair ?_))
local macro_rules | `(tactic| walk_at "call type:enumerate") => `(tactic| (k_here; (with_reducible show wpAny _ _ (call (Value.type "enumerate") [Value.str _ _]) _ _ _); k_dflt (refine' callEnum0 ?k1 ?k2 ?_; (case k1 => k_asm); (case k2 => k_asm); k_whole); intro h' e' F' N' he'; (try k_sweep)))
local macro_rules | `(tactic| k_mem) => `(tactic| (refine' List.mem_append_right _ ?_; k_mem))
local macro_rules | `(tactic| walk_at "call ref") => `(tactic| (k_here; k_dflt (refine' Does.use (ident_does _ _ _ _ _) ?k1 ?k2 ?k3 ?k4 ?k5 ?k6 ?k7 ?k8 ?k9 ?_; (case k1 => k_asm); (case k2 => k_asm); (case k3 => k_asm); (case k4 => k_asm); (case k5 => k_asm); (case k6 => first | exact rfl | assumption); (case k7 => ktr_room); (case k8 => ktr_units); (case k9 => trivial); k_whole); intro v' h' tk' hv' F' N'; subst hv'; (try k_sweep)))
local macro_rules | `(tactic| walk_at "subscriptTail") => `(tactic| (k_here; (with_reducible show wpAny _ _ (subscriptTail _ _ (Value.ref _) (Value.ref _)) _ _ _); (rename News _ _ _ _ => Nold); k_dflt (refine' tabItem Nold ?q ?T ?ij ?u ?hs ?_; (case q => assumption); (case T => assumption); (case ij => first | exact domR_up (by assumption) | exact domR_left (by assumption) | exact domR_diag (by assumption) (by assumption) | exact .inr ⟨rfl, rfl⟩ | (unfold domR Str.length; omega) | exact .inl (domR_two (by assumption) (by assumption) (by assumption) (by assumption))); (case u => ktr_units); (case hs => with_unfolding_all rfl); k_whole); intro t' tk' N'; (try dsimp only at N'); clear Nold))
local macro_rules | `(tactic| walk_at "call builtin:min") => `(tactic| (k_here; k_dflt (first | (refine' min3 ?hh ?k1 ?k2 ?_; (case hh => exact rfl); (case k1 => k_asm); (case k2 => k_asm); k_whole) | (refine' min2 ?hh ?k1 ?k2 ?_; (case hh => exact rfl); (case k1 => k_asm); (case k2 => k_asm); k_whole)); intro h' tk' t' F' N'; (try k_sweep)))
local macro_rules | `(tactic| walk_at "getMethod ref") => `(tactic| (k_here; (with_reducible show wpAny _ _ (getMethod (Value.ref _) (PySem.Str.ofString "test_func") _) _ _ _); k_dflt (refine' kmu_own ?k1 ?k2 ?k3 ?k4 ?k5 ?_; (case k1 => k_asm); (case k2 => k_asm); (case k3 => k_inst); (case k4 => k_is); (case k5 => k_is); k_whole)))
theorem restr_does (w : World) (self : Addr) (x y : Str) (tx ty : Tok) (hx : x.length ≤ 5) (hy : y.length ≤ 5) :
    Does w 220 [.ref self, .str x tx, .str y ty] 12 30 (IsDL w self true) (fun v => ∃ t, v = .int (osa (lt x) (lt y) x.length y.length : Nat) t) := by
  unfold Does
  w_top off
  k_fill
  intro mean mg mb dp un gd cn cs a ccd cl outer A₀ base h₀ L m s Q E news hB hF hK hN hT hcs hdp hun hneed hret
  obtain ⟨dx, t1, t2, t3, t4, hself, hdx⟩ := hneed
  replace hN : News h₀ L s.heap ((self, instObj 230 dx) :: (dx, dlDict w t1 t2 t3 t4 true) :: news) := fun p hp => by
    rcases List.mem_cons.mp hp with rfl | hp
    · exact hN _ hself
    · rcases List.mem_cons.mp hp with rfl | hp
      · exact hN _ hdx
      · exact hN _ hp
  refine wpAny_call ?_
  k_dflt cell_enter
  k_steps
  unfold RangeLoop
  rename_i L' _ _ _ _ _ tk h1 d l1 h2 _ _ h3 tk3 _ _ _ hr F N keep3
  refine iterRangeO (x.length + 2) [Str.ofString "i"]
    (fun i m nx => ∃ ks o n, nx = ks ++ (d, o) :: ((self, instObj 230 dx) :: (dx, dlDict w t1 t2 t3 t4 true) :: news) ∧ Tab PySem.Challenge.rw_br0039_01.row.prog w ks o (RD x y) (fun p q => q = -1 ∧ -1 ≤ p ∧ p < (i : Int) - 1) n ∧ n ≤ i ∧ Keys ks ((self, instObj 230 dx) :: (dx, dlDict w t1 t2 t3 t4 true) :: news) d)
    rfl hr (small_one (by omega) (by omega) (by omega) (by omega)) (sizeOne (by omega)) F N ?_ ?_ ?_
  · exact ⟨[], _, 0, rfl, Tab.start _ _ _ (fun p q h => by omega), Nat.le_refl _, fun _ h => by cases h⟩
  · rintro i t m₁ nx h tk own hi hoff ⟨ks, o, n, rfl, T, hn, hk⟩ hsep F N
    rw [hoff.one] at F
    have S := Apart.of hsep hk (fun p hp => Nat.ne_of_lt (l1 p hp))
    clear hsep
    k_steps
    rename_i a' q' hq' la _ _ tk' o' h' F' N' T' S'
    refine TurnEnd.mk_next _ F' N' S'.sep ⟨?_, ?_⟩
    · (repeat refine Off.ite (by with_reducible (first | exact List.mem_cons_self | exact (List.mem_cons_of_mem _ List.mem_cons_self) | exact (List.mem_cons_of_mem _ (List.mem_cons_of_mem _ List.mem_cons_self)) | exact (List.mem_cons_of_mem _ (List.mem_cons_of_mem _ (List.mem_cons_of_mem _ List.mem_cons_self))) | exact (List.mem_cons_of_mem _ (List.mem_cons_of_mem _ (List.mem_cons_of_mem _ (List.mem_cons_of_mem _ List.mem_cons_self)))))) ?_); exact Off.refl
    · refine ⟨_, _, _, rfl, T'.mono (fun p q hpq => ⟨by omega, ?_⟩) (Nat.le_refl _), by omega, S'.2.1⟩
      split
      · rename_i e; rw [e.1, e.2]; exact RD_col x y _ (by omega)
      · rfl
  rintro m₁ nx h tk hoff ⟨ks, o, n, rfl, T, hn, hk⟩ F N
  rw [hoff.one] at F
  clear hoff
  k_steps
  unfold RangeLoop
  rename News _ _ _ _ => N
  rename Fr _ _ _ _ => F
  rename IsRange _ _ _ _ _ _ _ _ => hr
  refine iterRangeO (y.length + 2) [Str.ofString "j"]
    (fun i m nx => ∃ ks o n, nx = ks ++ (d, o) :: ((self, instObj 230 dx) :: (dx, dlDict w t1 t2 t3 t4 true) :: news) ∧ Tab PySem.Challenge.rw_br0039_01.row.prog w ks o (RD x y) (fun p q => (q = -1 ∧ -1 ≤ p ∧ p < (x.length : Int) + 1) ∨ (p = -1 ∧ -1 ≤ q ∧ q < (i : Int) - 1)) n ∧ n ≤ 7 + i ∧ Keys ks ((self, instObj 230 dx) :: (dx, dlDict w t1 t2 t3 t4 true) :: news) d)
    rfl hr (small_one (by omega) (by omega) (by omega) (by omega)) (sizeOne (by omega)) F N ?_ ?_ ?_
  · exact ⟨ks, o, n, rfl, T.mono (fun p q h => ⟨by omega, rfl⟩) (Nat.le_refl _), by omega, hk⟩
  · clear T hn hk N F
    rintro i t m₁ nx h tk own hi hoff ⟨ks, o, n, rfl, T, hn, hk⟩ hsep F N
    rw [hoff.one] at F
    have S := Apart.of hsep hk (fun p hp => Nat.ne_of_lt (l1 p hp))
    clear hsep
    k_steps
    rename_i a' q' hq' la _ _ tk' o' h' F' N' T' S'
    refine TurnEnd.mk_next _ F' N' S'.sep ⟨?_, ?_⟩
    · (repeat refine Off.ite (by with_reducible (first | exact List.mem_cons_self | exact (List.mem_cons_of_mem _ List.mem_cons_self) | exact (List.mem_cons_of_mem _ (List.mem_cons_of_mem _ List.mem_cons_self)) | exact (List.mem_cons_of_mem _ (List.mem_cons_of_mem _ (List.mem_cons_of_mem _ List.mem_cons_self))) | exact (List.mem_cons_of_mem _ (List.mem_cons_of_mem _ (List.mem_cons_of_mem _ (List.mem_cons_of_mem _ List.mem_cons_self)))))) ?_); exact Off.refl
    · refine ⟨_, _, _, rfl, T'.mono (fun p q hpq => ⟨by omega, ?_⟩) (Nat.le_refl _), by omega, S'.2.1⟩
      split
      · rename_i e; rw [e.1, e.2]; exact RD_row x y _ (by omega)
      · rfl
  clear T hn hk N F
  rintro m₁ nx h tk hoff ⟨ks, o, n, rfl, T, hn, hk⟩ F N
  rw [hoff.one] at F
  clear hoff
  k_steps
  unfold PairLoop
  rename News _ _ _ _ => N
  rename Fr _ _ _ _ => F
  rename EnumStr _ _ _ _ _ _ _ => he
  refine enumGoO [Str.ofString "i", Str.ofString "cs1", Str.ofString "j", Str.ofString "cs2", Str.ofString "cost"]
    (fun i m nx => ∃ ks o n, nx = ks ++ (d, o) :: ((self, instObj 230 dx) :: (dx, dlDict w t1 t2 t3 t4 true) :: news) ∧ Tab PySem.Challenge.rw_br0039_01.row.prog w ks o (RD x y)
      (domR x.length y.length i 0) n ∧ n ≤ 14 + 10 * i ∧ Keys ks ((self, instObj 230 dx) :: (dx, dlDict w t1 t2 t3 t4 true) :: news) d)
    rfl he F N (by passes_own) rfl rfl rfl ?_ ?_ ?_
  · exact ⟨ks, o, n, rfl, T.mono (fun p q h => ⟨by unfold domR at h; omega, rfl⟩) (Nat.le_refl _), by omega, hk⟩
  · clear T hn hk N F he
    rintro i c t u m₁ nx h tk own hc hoff ⟨ks, o, n, rfl, T, hn, hk⟩ hsep F N
    rw [hoff.five] at F
    have S := Apart.of hsep hk (fun p hp => Nat.ne_of_lt (l1 p hp))
    clear hsep
    have hi : i < x.length := (Array.getElem?_eq_some_iff.mp hc).1
    rw [Nat.add_zero, lt_of hc] at F
    clear hc
    k_steps
    unfold PairLoop
    rename News _ _ _ _ => N
    rename Fr _ _ _ _ => F
    rename EnumStr _ _ _ _ _ _ _ => he
    replace N : News L' _ _ (ks ++ (d, o) :: (own ++ ((self, instObj 230 dx) :: (dx, dlDict w t1 t2 t3 t4 true) :: news))) := fun p hp => N p (memSwap hp)
    replace he : EnumStr L' _ (ks ++ (d, o) :: (own ++ ((self, instObj 230 dx) :: (dx, dlDict w t1 t2 t3 t4 true) :: news))) y 0 _ _ := he.mono fun p hp => memSwap hp
    refine enumGoO [Str.ofString "j", Str.ofString "cs2", Str.ofString "cost"]
      (fun j m nx => ∃ ks o n, nx = ks ++ (d, o) :: (own ++ ((self, instObj 230 dx) :: (dx, dlDict w t1 t2 t3 t4 true) :: news)) ∧ Tab PySem.Challenge.rw_br0039_01.row.prog w ks o (RD x y)
        (domR x.length y.length i j) n ∧ n ≤ 14 + 10 * i + 2 * j ∧ Keys ks (own ++ ((self, instObj 230 dx) :: (dx, dlDict w t1 t2 t3 t4 true) :: news)) d)
      rfl he F N (by passes_own) rfl rfl rfl ?_ ?_ ?_
    · exact ⟨ks, o, n, rfl, T, by omega, fun p hp => ⟨(hk p hp).1, fun q hq => (List.mem_append.mp hq).elim (S.2.2.2.1 p hp q) ((hk p hp).2 q)⟩⟩
    · have h13 := S.1
      clear T hn hk N F he S
      rintro j c' t' u' m₂ nx h tk own' hc' hoff' ⟨ks, o, n, rfl, T, hn, hk⟩ hsep F N
      rw [hoff'.three] at F
      have S := Apart.of hsep hk (fun p hp => (List.mem_append.mp hp).elim (h13 p) fun hp => Nat.ne_of_lt (l1 p hp))
      clear hsep
      have hj : j < y.length := (Array.getElem?_eq_some_iff.mp hc').1
      rw [Nat.add_zero, lt_of hc'] at F
      clear hc'
      k_steps
      all_goals (rename Fr _ _ _ _ => F')
      all_goals (rename News _ _ _ _ => N')
      all_goals (rename Apart _ _ _ _ => S')
      all_goals (rename Tab _ _ _ _ _ _ _ => T')
      all_goals (try dsimp only)
      · refine TurnEnd.mk_next _ F' N' S'.sep ⟨by (repeat refine Off.ite (by with_reducible (first | exact List.mem_cons_self | exact (List.mem_cons_of_mem _ List.mem_cons_self) | exact (List.mem_cons_of_mem _ (List.mem_cons_of_mem _ List.mem_cons_self)) | exact (List.mem_cons_of_mem _ (List.mem_cons_of_mem _ (List.mem_cons_of_mem _ List.mem_cons_self))) | exact (List.mem_cons_of_mem _ (List.mem_cons_of_mem _ (List.mem_cons_of_mem _ (List.mem_cons_of_mem _ List.mem_cons_self)))))) ?_); exact Off.refl, _, _, _, rfl, (T'.cell2 ?_).mono (fun p q h => ⟨domR_next h, rfl⟩) (Nat.le_refl _), by omega, S'.2.1⟩
        have hi0 : (i : Int) ≠ 0 := by assumption
        have hj0 : (j : Int) ≠ 0 := by assumption
        have e1 : (⟨#[lt x i]⟩ : Str) = Txt.item y ((j : Int) - 1) := by assumption
        have e2 : Txt.item x ((i : Int) - 1) = ⟨#[lt y j]⟩ := by assumption
        rw [item_before hj0 hj] at e1
        rw [item_before hi0 hi] at e2
        have e : ¬ ((i : Int) - 2 = i ∧ (j : Int) - 2 = j) := by omega
        simp only [cost_is, and_self, if_true, e, if_false]
        exact RD_swap ⟨by omega, by omega, by simpa using e1, by simpa using e2⟩
      all_goals (refine TurnEnd.mk_cont _ F' N' S'.sep ⟨by (repeat refine Off.ite (by with_reducible (first | exact List.mem_cons_self | exact (List.mem_cons_of_mem _ List.mem_cons_self) | exact (List.mem_cons_of_mem _ (List.mem_cons_of_mem _ List.mem_cons_self)) | exact (List.mem_cons_of_mem _ (List.mem_cons_of_mem _ (List.mem_cons_of_mem _ List.mem_cons_self))) | exact (List.mem_cons_of_mem _ (List.mem_cons_of_mem _ (List.mem_cons_of_mem _ (List.mem_cons_of_mem _ List.mem_cons_self)))))) ?_); exact Off.refl, _, _, _, rfl, (T'.cell ?_).mono (fun p q h => ⟨domR_next h, rfl⟩) (Nat.le_refl _), by omega, S'.2.1⟩; rw [cost_is]; refine RD_plain fun hc => ?_)
      · have e1 : ¬ Txt.item x ((i : Int) - 1) = ⟨#[lt y j]⟩ := by assumption
        rw [item_before (by omega) hi] at e1
        exact e1 (by rw [hc.2.2.2])
      · have e1 : ¬ (⟨#[lt x i]⟩ : Str) = Txt.item y ((j : Int) - 1) := by assumption
        rw [item_before (by omega) hj] at e1
        exact e1 (by rw [hc.2.2.1])
      · omega
      · omega
    · have h13 := S.1
      have h14 := S.2.2.2.2
      clear T hn hk N F he S
      rintro m₂ nx h tk hoff' ⟨ks, o, n, rfl, T, hn, hk⟩ F N
      rw [hoff'.three] at F
      k_steps
      try dsimp only
      rename Fr _ _ _ _ => F'
      rename News _ _ _ _ => N'
      refine TurnEnd.mk_next (ks ++ (d, o) :: ((self, instObj 230 dx) :: (dx, dlDict w t1 t2 t3 t4 true) :: news)) F' (fun p hp => N' p (memBack hp)) (Apart.sep ⟨h13, fun p hp => ⟨(hk p hp).1, fun q hq => (hk p hp).2 q (List.mem_append_right _ hq)⟩, fun p hp => Nat.ne_of_lt (l1 p hp), fun p hp q hq => (hk p hp).2 q (List.mem_append_left _ hq), h14⟩) ⟨?_, _, _, _, rfl, T.mono (fun p q h => ⟨domR_row h, rfl⟩) (Nat.le_refl _), ?_, fun p hp => ⟨(hk p hp).1, fun q hq => (hk p hp).2 q (List.mem_append_right _ hq)⟩⟩
      · repeat (first | with_reducible exact Off.refl | refine Off.ite (by with_reducible (first | exact List.mem_cons_self | exact (List.mem_cons_of_mem _ List.mem_cons_self) | exact (List.mem_cons_of_mem _ (List.mem_cons_of_mem _ List.mem_cons_self)) | exact (List.mem_cons_of_mem _ (List.mem_cons_of_mem _ (List.mem_cons_of_mem _ List.mem_cons_self))) | exact (List.mem_cons_of_mem _ (List.mem_cons_of_mem _ (List.mem_cons_of_mem _ (List.mem_cons_of_mem _ List.mem_cons_self)))))) ?_)
      · have : y.cps.size ≤ 5 := hy
        omega
  clear T hn hk N F he
  rintro m₁ nx h tk hoff ⟨ks, o, n, rfl, T, hn, hk⟩ F N
  rw [hoff.five] at F
  clear hoff
  replace N : News L' _ _ ([] ++ (ks ++ (d, o) :: ((self, instObj 230 dx) :: (dx, dlDict w t1 t2 t3 t4 true) :: news))) := N
  k_steps
  rename Fr _ _ _ _ => F'
  rename News _ _ _ _ => N'
  have e0 : RD x y ((x.length : Int) - 1) ((y.length : Int) - 1) = (osa (lt x) (lt y) x.length y.length : Nat) := by
    have e1 : ((x.length : Int) - 1 + 1).toNat = x.length := by omega
    have e2 : ((y.length : Int) - 1 + 1).toNat = y.length := by omega
    unfold RD
    rw [e1, e2]
  exact hret _ _ _ ⟨_, congrArg (fun v => Value.int v _) e0⟩ F' fun p hp => N' p (by simp [hp])
end
end Mine
end
section
open PySem PySem.W PySem.Spec PySem.Calls PyProof.Rows
set_option maxRecDepth 100000
set_option maxHeartbeats 8000000
namespace Mine
theorem memRot {α : Type} {own ks base : List α} {x y p : α} (h : p ∈ x :: (own ++ (ks ++ y :: base))) : p ∈ ks ++ y :: (own ++ x :: base) := by
  simp only [List.mem_append, List.mem_cons] at h ⊢
  rcases h with h | h | h | h | h <;> simp [h]
theorem memRot2 {α : Type} {own ks base : List α} {x y p : α} (h : p ∈ own ++ (ks ++ y :: x :: base)) : p ∈ x :: (own ++ (ks ++ y :: base)) := by
  simp only [List.mem_append, List.mem_cons] at h ⊢
  rcases h with h | h | h | h | h <;> simp [h]
theorem IsLast.same {prog : Program} {w : World} {o : Obj} {g g' : Nat → Int} {n : Nat} (h : IsLast prog w o g n) (e : ∀ c, g' c = g c) : IsLast prog w o g' n := (funext e : g' = g) ▸ h

section
local macro_rules | `(tactic| k_room) => `(tactic| ktr_room)
local macro_rules | `(tactic| walk_at "exec For Name Call cons nil") => `(tactic| (k_here; (rename Fr _ _ _ _ => lF'); (with_unfolding_all refine' For_range lF' ?k1 ?k2 ?_; (case k1 => exact rfl); (case k2 => exact rfl); k_whole)))
local macro_rules | `(tactic| walk_at "eval Dict nil nil") => `(tactic| (k_here; k_dflt (refine' dictNewLo ?k1 ?k2 (Top.nolimit (by k_asm)) ?_; (case k1 => k_asm); (case k2 => k_asm); k_whole); intro h' d' F' N' l1 lo'; (try k_sweep)))
local macro_rules | `(tactic| walk_at "newTuple") => `(tactic| (k_here; (with_reducible show wpAny _ _ (newTuple [Value.int _ _, Value.int _ _]) _ _ _); k_dflt (refine' pairNew ?k1 ?k2 ?_; (case k1 => k_asm); (case k2 => k_asm); k_whole); intro h' a' q' F' N' hq' l1; (try k_sweep)))
local macro_rules | `(tactic| walk_at "setItem ref ref int") => `(tactic| (k_here; (rename (∀ p ∈ _, Prod.fst p < _) => l9); k_dflt (refine' tabStore ?F ?N ?q ?T ?u ?n ?S l9 ?_; (case F => k_asm); (case N => k_asm); (case q => assumption); (case T => assumption); (case u => ktr_units); (case n => (rw [sizeLine_eq]; omega)); (case S => assumption); k_whole); intro h' o' tk' F' N' T' S'; (try k_sweep)))
local macro_rules | `(tactic| walk_at "exec For Tuple Call cons nil") => `(tactic| (k_here; with_unfolding_all refine' For_pair ?_))
local macro_rules | `(tactic| walk_at "call type:enumerate") => `(tactic| (k_here; (with_reducible show wpAny _ _ (call (Value.type "enumerate") [Value.str _ _] _) _ _ _); k_dflt (refine' callEnum1 ?k1 ?k2 ?_; (case k1 => k_asm); (case k2 => k_asm); k_whole); intro h' e' F' N' he'; (try k_sweep)))
local macro_rules | `(tactic| k_mem) => `(tactic| (refine' List.mem_append_right _ ?_; k_mem))
local macro_rules | `(tactic| walk_at "call ref") => `(tactic| (k_here; k_dflt (refine' Does.use (ident_does _ _ _ _ _) ?k1 ?k2 ?k3 ?k4 ?k5 ?k6 ?k7 ?k8 ?k9 ?_; (case k1 => k_asm); (case k2 => k_asm); (case k3 => k_asm); (case k4 => k_asm); (case k5 => k_asm); (case k6 => first | exact rfl | assumption); (case k7 => ktr_room); (case k8 => ktr_units); (case k9 => trivial); k_whole); intro v' h' tk' hv' F' N'; subst hv'; (try k_sweep)))
local macro_rules | `(tactic| walk_at "subscriptTail") => `(tactic| (k_here; (with_reducible show wpAny _ _ (subscriptTail _ _ (Value.ref _) (Value.ref _)) _ _ _); (rename News _ _ _ _ => Nold); k_dflt (refine' tabItem Nold ?q ?T ?ij ?u ?hs ?_; (case q => assumption); (case T => assumption); (case ij => first | exact domU_diag (by assumption) (by assumption) | exact domU_left (by assumption) (by assumption) | exact domU_up (by assumption) (by assumption) | exact domU_far (by assumption) (by assumption) (by assumption) (by assumption) | (unfold domU Str.length; omega)); (case u => ktr_units); (case hs => with_unfolding_all rfl); k_whole); intro t' tk' N'; (try dsimp only at N'); clear Nold))
local macro_rules | `(tactic| walk_at "call builtin:min") => `(tactic| (k_here; k_dflt (first | (refine' min4 ?hh ?k1 ?k2 ?_; (case hh => exact rfl); (case k1 => k_asm); (case k2 => k_asm); k_whole) | (refine' min3 ?hh ?k1 ?k2 ?_; (case hh => exact rfl); (case k1 => k_asm); (case k2 => k_asm); k_whole) | (refine' min2 ?hh ?k1 ?k2 ?_; (case hh => exact rfl); (case k1 => k_asm); (case k2 => k_asm); k_whole)); intro h' tk' t' F' N'; (try k_sweep)))
local macro_rules | `(tactic| walk_at "getMethod ref") => `(tactic| (k_here; (with_reducible show wpAny _ _ (getMethod (Value.ref _) (PySem.Str.ofString "test_func") _) _ _ _); k_dflt (refine' kmu_own ?k1 ?k2 ?k3 ?k4 ?k5 ?_; (case k1 => k_asm); (case k2 => k_asm); (case k3 => k_inst); (case k4 => k_is); (case k5 => k_is); k_whole)))
local macro_rules | `(tactic| walk_at "callWith type:enumerate") => `(tactic| (k_here; (with_reducible show wpAny _ _ (callWith _ (Value.type _) [] _ (backToKw _ (keywordEach (_ :: _) _))) _ _ _); k_dflt (refine callWith_typeKw ?_)))
local macro_rules | `(tactic| walk_at "getMethod ref") => `(tactic| (k_here; (with_reducible show wpAny _ _ (getMethod (Value.ref _) (PySem.Str.ofString "get") _) _ _ _); k_dflt (refine' lastMethod ?k1 ?k2 ?k3 ?_; (case k1 => k_asm); (case k2 => k_mem); (case k3 => assumption); k_whole)))
local macro_rules | `(tactic| walk_at "call builtin:dict.get") => `(tactic| (k_here; k_dflt (refine' lastGet ?k1 ?k2 ?k3 ?k4 ?_; (case k1 => k_asm); (case k2 => k_mem); (case k3 => assumption); (case k4 => assumption); k_whole); intro t'))
local macro_rules | `(tactic| walk_at "setItem ref str int") => `(tactic| (k_here; k_dflt (refine' lastSet ?k1 ?k2 ?k3 ?k4 ?k5 ?_; (case k1 => k_asm); (case k2 => k_asm); (case k3 => assumption); (case k4 => assumption); (case k5 => omega); k_whole); intro h' o' tk' F' N' H'; (try k_sweep)))
theorem free_does (w : World) (self : Addr) (x y : Str) (tx ty : Tok) (hx : x.length ≤ 5) (hy : y.length ≤ 5) :
    Does w 213 [.ref self, .str x tx, .str y ty] 12 30 (IsDL w self false) (fun v => ∃ t, v = .int (dist pAny (rp (lt x) x.length) (rp (lt y) y.length) : Nat) t) := by
  unfold Does
  w_top off
  k_fill
  intro mean mg mb dp un gd cn cs a ccd cl outer A₀ base h₀ L m s Q E news hB hF hK hN hT hcs hdp hun hneed hret
  obtain ⟨dx, t1, t2, t3, t4, hself, hdx⟩ := hneed
  replace hN : News h₀ L s.heap ((self, instObj 230 dx) :: (dx, dlDict w t1 t2 t3 t4 false) :: news) := fun p hp => by
    rcases List.mem_cons.mp hp with rfl | hp
    · exact hN _ hself
    · rcases List.mem_cons.mp hp with rfl | hp
      · exact hN _ hdx
      · exact hN _ hp
  refine wpAny_call ?_
  k_dflt cell_enter
  k_steps
  rename_i d l1 _ _ _ da l2 lo _ _ _ _ _ _ a q F N hq l3
  have hd : d < da := l2 (d, dictOf [] 0) List.mem_cons_self
  have T0 : Tab PySem.Challenge.rw_br0039_01.row.prog w [] (dictOf [] 0) (UD x y) (fun _ _ => False) 0 := Tab.start _ _ _ (fun _ _ h => h)
  have S0 : Apart [] [] ((da, dictOf [] 0) :: ((self, instObj 230 dx) :: (dx, dlDict w t1 t2 t3 t4 false) :: news)) d := ⟨fun _ h => (List.not_mem_nil h).elim, fun _ h => (List.not_mem_nil h).elim, fun p hp => (List.mem_cons.mp hp).elim (fun e => by rw [e]; exact Nat.ne_of_gt hd) (fun hp => Nat.ne_of_lt (l1 p hp)), fun _ h => (List.not_mem_nil h).elim, fun _ _ _ h => (List.not_mem_nil h).elim⟩
  have hsw : ∀ p, p ∈ [] ++ ([] ++ (d, dictOf [] 0) :: ((da, dictOf [] 0) :: ((self, instObj 230 dx) :: (dx, dlDict w t1 t2 t3 t4 false) :: news))) → p ∈ (da, dictOf [] 0) :: (d, dictOf [] 0) :: ((self, instObj 230 dx) :: (dx, dlDict w t1 t2 t3 t4 false) :: news) := fun p hp => by
    simp only [List.nil_append, List.mem_cons] at hp ⊢
    rcases hp with h | h | h | h | h <;> simp [h]
  replace N : News _ _ _ ((a, q) :: ([] ++ ([] ++ (d, dictOf [] 0) :: ((da, dictOf [] 0) :: ((self, instObj 230 dx) :: (dx, dlDict w t1 t2 t3 t4 false) :: news))))) := fun p hp => N p ((List.mem_cons.mp hp).elim (fun e => e ▸ List.mem_cons_self) fun hp => List.mem_cons_of_mem _ (hsw p hp))
  replace l3 : ∀ p ∈ [] ++ ([] ++ (d, dictOf [] 0) :: ((da, dictOf [] 0) :: ((self, instObj 230 dx) :: (dx, dlDict w t1 t2 t3 t4 false) :: news))), p.1 < a := fun p hp => l3 p (hsw p hp)
  clear hsw
  k_steps
  unfold RangeLoop
  rename Tab _ _ _ _ _ _ _ => T
  rename Apart _ _ _ _ => S
  rename IsRange _ _ _ _ _ _ _ _ => hr
  rename Fr _ _ _ _ => F
  rename News _ _ _ _ => N
  clear T0 S0
  refine iterRangeO (x.length + 1) [Str.ofString "i"]
    (fun i m nx => ∃ ks o n, nx = ks ++ (d, o) :: ((da, dictOf [] 0) :: ((self, instObj 230 dx) :: (dx, dlDict w t1 t2 t3 t4 false) :: news)) ∧ Tab PySem.Challenge.rw_br0039_01.row.prog w ks o (UD x y) (fun p q => (p = -1 ∧ q = -1) ∨ (0 ≤ p ∧ p < (i : Int) ∧ (q = -1 ∨ q = 0))) n ∧ n ≤ 1 + 2 * i ∧ Keys ks ((da, dictOf [] 0) :: ((self, instObj 230 dx) :: (dx, dlDict w t1 t2 t3 t4 false) :: news)) d)
    rfl hr (small_one (by omega) (by omega) (by omega) (by omega)) (sizeOne (by omega)) F N ?_ ?_ ?_
  · refine ⟨[(a, q)], _, _, rfl, (T.cell (UD_low x y (.inl rfl)).symm).mono (fun p q h => ⟨by omega, rfl⟩) (Nat.le_refl _), by omega, S.2.1⟩
  · clear T S N F hr
    rintro i t m₁ nx h tk own hi hoff ⟨ks, o, n, rfl, T, hn, hk⟩ hsep F N
    rw [hoff.one] at F
    have S := Apart.of hsep hk (fun p hp => (List.mem_cons.mp hp).elim (fun e => by rw [e]; exact Nat.ne_of_gt hd) (fun hp => Nat.ne_of_lt (l1 p hp)))
    clear hsep
    k_steps
    rename Fr _ _ _ _ => F'
    rename News _ _ _ _ => N'
    rename Apart _ _ _ _ => S'
    rename Tab _ _ _ _ _ _ _ => T'
    try dsimp only
    refine TurnEnd.mk_next _ F' N' S'.sep ⟨by (repeat (first | with_reducible exact Off.refl | refine Off.ite (by with_reducible (first | exact List.mem_cons_self | exact (List.mem_cons_of_mem _ List.mem_cons_self) | exact (List.mem_cons_of_mem _ (List.mem_cons_of_mem _ List.mem_cons_self)) | exact (List.mem_cons_of_mem _ (List.mem_cons_of_mem _ (List.mem_cons_of_mem _ List.mem_cons_self))) | exact (List.mem_cons_of_mem _ (List.mem_cons_of_mem _ (List.mem_cons_of_mem _ (List.mem_cons_of_mem _ List.mem_cons_self)))) | exact (List.mem_cons_of_mem _ (List.mem_cons_of_mem _ (List.mem_cons_of_mem _ (List.mem_cons_of_mem _ (List.mem_cons_of_mem _ List.mem_cons_self))))) | exact (List.mem_cons_of_mem _ (List.mem_cons_of_mem _ (List.mem_cons_of_mem _ (List.mem_cons_of_mem _ (List.mem_cons_of_mem _ (List.mem_cons_of_mem _ List.mem_cons_self)))))) | exact (List.mem_cons_of_mem _ (List.mem_cons_of_mem _ (List.mem_cons_of_mem _ (List.mem_cons_of_mem _ (List.mem_cons_of_mem _ (List.mem_cons_of_mem _ (List.mem_cons_of_mem _ List.mem_cons_self)))))))) ) ?_)), ?_⟩
    refine ⟨_, _, _, rfl, T'.mono (fun p q hpq => ⟨by omega, ?_⟩) (Nat.le_refl _), by omega, S'.2.1⟩
    split
    · rename_i e; rw [e.1, e.2]; exact UD_col x y (by omega)
    · split
      · rename_i e; rw [e.1, e.2]; exact UD_low x y (.inr rfl)
      · rfl
  rintro m₁ nx h tk hoff ⟨ks, o, n, rfl, T, hn, hk⟩ F N
  rw [hoff.one] at F
  clear hoff
  k_steps
  unfold RangeLoop
  rename News _ _ _ _ => N
  rename Fr _ _ _ _ => F
  rename IsRange _ _ _ _ _ _ _ _ => hr
  refine iterRangeO (y.length + 1) [Str.ofString "j"]
    (fun j m nx => ∃ ks o n, nx = ks ++ (d, o) :: ((da, dictOf [] 0) :: ((self, instObj 230 dx) :: (dx, dlDict w t1 t2 t3 t4 false) :: news)) ∧ Tab PySem.Challenge.rw_br0039_01.row.prog w ks o (UD x y) (fun p q => (p = -1 ∧ q = -1) ∨ (0 ≤ p ∧ p < (x.length : Int) + 1 ∧ (q = -1 ∨ q = 0)) ∨ (0 ≤ q ∧ q < (j : Int) ∧ (p = -1 ∨ p = 0))) n ∧ n ≤ 13 + 2 * j ∧ Keys ks ((da, dictOf [] 0) :: ((self, instObj 230 dx) :: (dx, dlDict w t1 t2 t3 t4 false) :: news)) d)
    rfl hr (small_one (by omega) (by omega) (by omega) (by omega)) (sizeOne (by omega)) F N ?_ ?_ ?_
  · exact ⟨ks, o, n, rfl, T.mono (fun p q h => ⟨by omega, rfl⟩) (Nat.le_refl _), by omega, hk⟩
  · clear T hn hk N F
    rintro j t m₁ nx h tk own hj hoff ⟨ks, o, n, rfl, T, hn, hk⟩ hsep F N
    rw [hoff.one] at F
    have S := Apart.of hsep hk (fun p hp => (List.mem_cons.mp hp).elim (fun e => by rw [e]; exact Nat.ne_of_gt hd) (fun hp => Nat.ne_of_lt (l1 p hp)))
    clear hsep
    k_steps
    rename Fr _ _ _ _ => F'
    rename News _ _ _ _ => N'
    rename Apart _ _ _ _ => S'
    rename Tab _ _ _ _ _ _ _ => T'
    try dsimp only
    refine TurnEnd.mk_next _ F' N' S'.sep ⟨by (repeat (first | with_reducible exact Off.refl | refine Off.ite (by with_reducible (first | exact List.mem_cons_self | exact (List.mem_cons_of_mem _ List.mem_cons_self) | exact (List.mem_cons_of_mem _ (List.mem_cons_of_mem _ List.mem_cons_self)) | exact (List.mem_cons_of_mem _ (List.mem_cons_of_mem _ (List.mem_cons_of_mem _ List.mem_cons_self))) | exact (List.mem_cons_of_mem _ (List.mem_cons_of_mem _ (List.mem_cons_of_mem _ (List.mem_cons_of_mem _ List.mem_cons_self)))) | exact (List.mem_cons_of_mem _ (List.mem_cons_of_mem _ (List.mem_cons_of_mem _ (List.mem_cons_of_mem _ (List.mem_cons_of_mem _ List.mem_cons_self))))) | exact (List.mem_cons_of_mem _ (List.mem_cons_of_mem _ (List.mem_cons_of_mem _ (List.mem_cons_of_mem _ (List.mem_cons_of_mem _ (List.mem_cons_of_mem _ List.mem_cons_self)))))) | exact (List.mem_cons_of_mem _ (List.mem_cons_of_mem _ (List.mem_cons_of_mem _ (List.mem_cons_of_mem _ (List.mem_cons_of_mem _ (List.mem_cons_of_mem _ (List.mem_cons_of_mem _ List.mem_cons_self)))))))) ) ?_)), ?_⟩
    refine ⟨_, _, _, rfl, T'.mono (fun p q hpq => ⟨by omega, ?_⟩) (Nat.le_refl _), by omega, S'.2.1⟩
    split
    · rename_i e; rw [e.1, e.2]; exact UD_row x y (by omega)
    · split
      · rename_i e; rw [e.1, e.2]; exact UD_low x y (.inl rfl)
      · rfl
  clear T hn hk N F
  rintro m₁ nx h tk hoff ⟨ks, o, n, rfl, T, hn, hk⟩ F N
  rw [hoff.one] at F
  clear hoff
  k_steps
  unfold PairLoop
  rename News _ _ _ _ => N
  rename Fr _ _ _ _ => F
  rename EnumStr _ _ _ _ _ _ _ => he
  have hbd : ∀ p ∈ ((self, instObj 230 dx) :: (dx, dlDict w t1 t2 t3 t4 false) :: news), p.1 ≠ da := fun p hp => Nat.ne_of_lt (l2 p (List.mem_cons_of_mem _ hp))
  have hrd : ∀ oa, ∀ p ∈ (da, oa) :: ((self, instObj 230 dx) :: (dx, dlDict w t1 t2 t3 t4 false) :: news), p.1 ≠ d := fun oa p hp => (List.mem_cons.mp hp).elim (fun e => by rw [e]; exact Nat.ne_of_gt hd) (fun hp => Nat.ne_of_lt (l1 p hp))
  refine enumGoO [Str.ofString "i", Str.ofString "cs1", Str.ofString "j", Str.ofString "cs2", Str.ofString "i1", Str.ofString "j1", Str.ofString "cost", Str.ofString "db"]
    (fun i m nx => ∃ ks o n oa, nx = ks ++ (d, o) :: ((da, oa) :: ((self, instObj 230 dx) :: (dx, dlDict w t1 t2 t3 t4 false) :: news)) ∧ Tab PySem.Challenge.rw_br0039_01.row.prog w ks o (UD x y) (domU x.length y.length i 0) n ∧ n ≤ 30 + 5 * i ∧ Keys ks ((da, oa) :: ((self, instObj 230 dx) :: (dx, dlDict w t1 t2 t3 t4 false) :: news)) d ∧ IsLast PySem.Challenge.rw_br0039_01.row.prog w oa (fun c => (lastM (lt x) c i : Nat)) i)
    rfl he F N (by passes_own) rfl rfl rfl ?_ ?_ ?_
  · exact ⟨ks, o, n, _, rfl, T.mono (fun p q h => ⟨by unfold domU at h; omega, rfl⟩) (Nat.le_refl _), by omega, hk, IsLast.start _ _⟩
  · clear T hn hk N F he
    rintro i c t u m₁ nx h tk own hc hoff ⟨ks, o, n, oa, rfl, T, hn, hk, hl⟩ hsep F N
    rw [hoff.all] at F
    dsimp only [offMap] at F
    have S := Apart.of hsep hk (hrd oa)
    clear hsep
    have hi : i < x.length := (Array.getElem?_eq_some_iff.mp hc).1
    rw [lt_of hc] at F
    clear hc
    k_steps
    unfold PairLoop
    rename News _ _ _ _ => N
    rename Fr _ _ _ _ => F
    rename EnumStr _ _ _ _ _ _ _ => he
    replace N : News _ _ _ (ks ++ (d, o) :: (own ++ ((da, oa) :: ((self, instObj 230 dx) :: (dx, dlDict w t1 t2 t3 t4 false) :: news)))) := fun p hp => N p (memSwap hp)
    replace he : EnumStr _ _ (ks ++ (d, o) :: (own ++ ((da, oa) :: ((self, instObj 230 dx) :: (dx, dlDict w t1 t2 t3 t4 false) :: news)))) y 1 _ _ := he.mono fun p hp => memSwap hp
    refine enumGoO [Str.ofString "db", Str.ofString "j", Str.ofString "cs2", Str.ofString "i1", Str.ofString "j1", Str.ofString "cost"]
      (fun j m nx => ∃ ks o n, nx = ks ++ (d, o) :: (own ++ ((da, oa) :: ((self, instObj 230 dx) :: (dx, dlDict w t1 t2 t3 t4 false) :: news))) ∧ Tab PySem.Challenge.rw_br0039_01.row.prog w ks o (UD x y) (domU x.length y.length i j) n ∧ n ≤ 30 + 5 * i + j ∧ Keys ks (own ++ ((da, oa) :: ((self, instObj 230 dx) :: (dx, dlDict w t1 t2 t3 t4 false) :: news))) d ∧ ∃ v t, m (Str.ofString "db") = some (.int v t) ∧ v = (lastM (lt y) (lt x i) j : Nat))
      rfl he F N (by passes_own) rfl rfl rfl ?_ ?_ ?_
    · exact ⟨ks, o, n, rfl, T, by omega, fun p hp => ⟨(hk p hp).1, fun q hq => (List.mem_append.mp hq).elim (S.2.2.2.1 p hp q) ((hk p hp).2 q)⟩, _, _, rfl, rfl⟩
    · have h13 := S.1
      clear T hn hk N F he S
      rintro j c' t' u' m₂ nx h tk own' hc' hoff' ⟨ks, o, n, rfl, T, hn, hk, v, tv, hdb, hv⟩ hsep F N
      obtain ⟨mm, ho1, ho2⟩ := hoff'.val hdb
      rw [ho2, ho1.all] at F
      dsimp only [offMap] at F
      subst hv
      have S := Apart.of hsep hk (fun p hp => (List.mem_append.mp hp).elim (h13 p) (hrd oa p))
      clear hsep ho2 hdb
      have hj : j < y.length := (Array.getElem?_eq_some_iff.mp hc').1
      rw [lt_of hc'] at F
      clear hc'
      have hk1 := lastM_le (lt x) (lt y j) i
      have hm1 := lastM_le (lt y) (lt x i) j
      k_steps
      all_goals (rename Fr _ _ _ _ => F')
      all_goals (rename News _ _ _ _ => N')
      all_goals (rename Apart _ _ _ _ => S')
      all_goals (rename Tab _ _ _ _ _ _ _ => T')
      all_goals (try dsimp only)
      · have e0 : (⟨#[lt x i]⟩ : Str) = ⟨#[lt y j]⟩ := by assumption
        have e : lt x i = lt y j := by simpa using e0
        refine TurnEnd.mk_next _ F' N' S'.sep ⟨by (repeat (first | with_reducible exact Off.refl | refine Off.ite (by with_reducible (first | exact List.mem_cons_self | exact (List.mem_cons_of_mem _ List.mem_cons_self) | exact (List.mem_cons_of_mem _ (List.mem_cons_of_mem _ List.mem_cons_self)) | exact (List.mem_cons_of_mem _ (List.mem_cons_of_mem _ (List.mem_cons_of_mem _ List.mem_cons_self))) | exact (List.mem_cons_of_mem _ (List.mem_cons_of_mem _ (List.mem_cons_of_mem _ (List.mem_cons_of_mem _ List.mem_cons_self)))) | exact (List.mem_cons_of_mem _ (List.mem_cons_of_mem _ (List.mem_cons_of_mem _ (List.mem_cons_of_mem _ (List.mem_cons_of_mem _ List.mem_cons_self))))) | exact (List.mem_cons_of_mem _ (List.mem_cons_of_mem _ (List.mem_cons_of_mem _ (List.mem_cons_of_mem _ (List.mem_cons_of_mem _ (List.mem_cons_of_mem _ List.mem_cons_self)))))) | exact (List.mem_cons_of_mem _ (List.mem_cons_of_mem _ (List.mem_cons_of_mem _ (List.mem_cons_of_mem _ (List.mem_cons_of_mem _ (List.mem_cons_of_mem _ (List.mem_cons_of_mem _ List.mem_cons_self)))))))) ) ?_)), _, _, _, rfl, (T'.cell (UD_cell x y 0 hi hj (by simp [e]))).mono (fun p q h => ⟨domU_next h, rfl⟩) (Nat.le_refl _), by omega, S'.2.1, _, _, rfl, ?_⟩
        rw [lastM, if_pos e.symm]
      · have e0 : ¬ (⟨#[lt x i]⟩ : Str) = ⟨#[lt y j]⟩ := by assumption
        have e : ¬ lt x i = lt y j := by simpa using e0
        refine TurnEnd.mk_next _ F' N' S'.sep ⟨by (repeat (first | with_reducible exact Off.refl | refine Off.ite (by with_reducible (first | exact List.mem_cons_self | exact (List.mem_cons_of_mem _ List.mem_cons_self) | exact (List.mem_cons_of_mem _ (List.mem_cons_of_mem _ List.mem_cons_self)) | exact (List.mem_cons_of_mem _ (List.mem_cons_of_mem _ (List.mem_cons_of_mem _ List.mem_cons_self))) | exact (List.mem_cons_of_mem _ (List.mem_cons_of_mem _ (List.mem_cons_of_mem _ (List.mem_cons_of_mem _ List.mem_cons_self)))) | exact (List.mem_cons_of_mem _ (List.mem_cons_of_mem _ (List.mem_cons_of_mem _ (List.mem_cons_of_mem _ (List.mem_cons_of_mem _ List.mem_cons_self))))) | exact (List.mem_cons_of_mem _ (List.mem_cons_of_mem _ (List.mem_cons_of_mem _ (List.mem_cons_of_mem _ (List.mem_cons_of_mem _ (List.mem_cons_of_mem _ List.mem_cons_self)))))) | exact (List.mem_cons_of_mem _ (List.mem_cons_of_mem _ (List.mem_cons_of_mem _ (List.mem_cons_of_mem _ (List.mem_cons_of_mem _ (List.mem_cons_of_mem _ (List.mem_cons_of_mem _ List.mem_cons_self)))))))) ) ?_)), _, _, _, rfl, (T'.cell (UD_cell x y 1 hi hj (by simp [e]))).mono (fun p q h => ⟨domU_next h, rfl⟩) (Nat.le_refl _), by omega, S'.2.1, _, _, rfl, ?_⟩
        rw [lastM, if_neg (fun q => e q.symm)]
    · have h13 := S.1
      have h14 := S.2.2.2.2
      clear T hn hk N F he S
      rintro m₂ nx h tk hoff' ⟨ks, o, n, rfl, T, hn, hk, v, tv, hdb, hv⟩ F N
      rw [hoff'.all] at F
      dsimp only [offMap] at F
      clear hdb
      have hsep : ∀ p ∈ own ++ (ks ++ (d, o) :: ((self, instObj 230 dx) :: (dx, dlDict w t1 t2 t3 t4 false) :: news)), p.1 ≠ da := fun p hp => by
        rcases List.mem_append.mp hp with hp | hp
        · exact (h14 (da, oa) List.mem_cons_self p hp).symm
        · rcases List.mem_append.mp hp with hp | hp
          · exact (hk p hp).2 (da, oa) (List.mem_append_right _ List.mem_cons_self)
          · rcases List.mem_cons.mp hp with rfl | hp
            · exact Nat.ne_of_lt hd
            · exact hbd p hp
      replace N : News _ _ _ ((da, oa) :: (own ++ (ks ++ (d, o) :: ((self, instObj 230 dx) :: (dx, dlDict w t1 t2 t3 t4 false) :: news)))) := fun p hp => N p (memRot hp)
      have hnl : i ≤ 1000 := by omega
      k_steps
      try dsimp only
      rename Fr _ _ _ _ => F'
      rename News _ _ _ _ => N'
      rename IsLast _ _ _ _ _ => H'
      refine TurnEnd.mk_next (ks ++ (d, o) :: ((da, _) :: ((self, instObj 230 dx) :: (dx, dlDict w t1 t2 t3 t4 false) :: news))) F' (fun p hp => N' p (memRot2 hp))
        (Apart.sep ⟨h13, fun p hp => ⟨(hk p hp).1, fun q hq => (List.mem_cons.mp hq).elim (fun e => by rw [e]; exact hsep p (List.mem_append_right _ (List.mem_append_left _ hp))) fun hq => (hk p hp).2 q (List.mem_append_right _ (List.mem_cons_of_mem _ hq))⟩, hrd _, fun p hp q hq => (hk p hp).2 q (List.mem_append_left _ hq),
          fun p hp q hq => (List.mem_cons.mp hp).elim (fun e => by rw [e]; exact h14 (da, oa) List.mem_cons_self q hq) fun hp => h14 p (List.mem_cons_of_mem _ hp) q hq⟩)
        ⟨by (repeat (first | with_reducible exact Off.refl | refine Off.ite (by with_reducible (first | exact List.mem_cons_self | exact (List.mem_cons_of_mem _ List.mem_cons_self) | exact (List.mem_cons_of_mem _ (List.mem_cons_of_mem _ List.mem_cons_self)) | exact (List.mem_cons_of_mem _ (List.mem_cons_of_mem _ (List.mem_cons_of_mem _ List.mem_cons_self))) | exact (List.mem_cons_of_mem _ (List.mem_cons_of_mem _ (List.mem_cons_of_mem _ (List.mem_cons_of_mem _ List.mem_cons_self)))) | exact (List.mem_cons_of_mem _ (List.mem_cons_of_mem _ (List.mem_cons_of_mem _ (List.mem_cons_of_mem _ (List.mem_cons_of_mem _ List.mem_cons_self))))) | exact (List.mem_cons_of_mem _ (List.mem_cons_of_mem _ (List.mem_cons_of_mem _ (List.mem_cons_of_mem _ (List.mem_cons_of_mem _ (List.mem_cons_of_mem _ List.mem_cons_self)))))) | exact (List.mem_cons_of_mem _ (List.mem_cons_of_mem _ (List.mem_cons_of_mem _ (List.mem_cons_of_mem _ (List.mem_cons_of_mem _ (List.mem_cons_of_mem _ (List.mem_cons_of_mem _ List.mem_cons_self)))))))) ) ?_)), _, _, _, _, rfl, T.mono (fun p q h => ⟨domU_row h, rfl⟩) (Nat.le_refl _), ?_, fun p hp => ⟨(hk p hp).1, fun q hq => (List.mem_cons.mp hq).elim (fun e => by rw [e]; exact hsep p (List.mem_append_right _ (List.mem_append_left _ hp))) fun hq => (hk p hp).2 q (List.mem_append_right _ (List.mem_cons_of_mem _ hq))⟩, H'.same fun c => ?_⟩
      · have : y.cps.size ≤ 5 := hy
        omega
      · rw [lastM]
        by_cases e : lt x i = c
        · rw [if_pos e, if_pos e.symm]
        · rw [if_neg e, if_neg fun q => e q.symm]
  clear T hn hk N F he
  rintro m₁ nx h tk hoff ⟨ks, o, n, oa, rfl, T, hn, hk, hl⟩ F N
  rw [hoff.all] at F
  dsimp only [offMap] at F
  clear hoff
  replace N : News _ _ _ ([] ++ (ks ++ (d, o) :: ((da, oa) :: ((self, instObj 230 dx) :: (dx, dlDict w t1 t2 t3 t4 false) :: news)))) := N
  k_steps
  run_tac Lean.Elab.Tactic.withMainContext do Lean.logInfo m!"{← Lean.Elab.Tactic.getMainTarget}"
  rename Fr _ _ _ _ => F'
  rename News _ _ _ _ => N'
  exact hret _ _ _ ⟨_, congrArg (fun v => Value.int v _) (UD_nat x y x.length y.length)⟩ F' fun p hp => N' p (by simp [hp])
end
end Mine
end
section
open PySem PySem.W PySem.Spec PySem.Calls PyProof.Rows
set_option maxRecDepth 100000
set_option maxHeartbeats 8000000
namespace Mine
/-- the attributes of a Levenshtein(external=False) -/
abbrev levDict (w : World) (t1 t2 t3 : Tok) : Obj :=
  dictOf [⟨PyData.keyHash w.params (Str.ofString "qval"), .str (Str.ofString "qval") t1, .int 1 384⟩, ⟨PyData.keyHash w.params (Str.ofString "test_func"), .str (Str.ofString "test_func") t2, .ref 100⟩,
    ⟨PyData.keyHash w.params (Str.ofString "external"), .str (Str.ofString "external") t3, .bool false⟩] 3
def IsLev (w : World) (self : Addr) (news : List (Addr × Obj)) : Prop := ∃ dx t1 t2 t3, (self, instObj 189 dx) ∈ news ∧ (dx, levDict w t1 t2 t3) ∈ news
theorem memIn3 {α : Type} {own base : List α} {x a b c p : α} (h : p ∈ x :: (own ++ base)) : p ∈ a :: b :: c :: (own ++ x :: base) := by
  simp only [List.mem_append, List.mem_cons] at h ⊢
  rcases h with h | h | h <;> simp [h]
theorem memIn5 {α : Type} {own base : List α} {x y a b c d p : α} (h : p ∈ y :: x :: (own ++ base)) : p ∈ d :: y :: a :: b :: c :: (own ++ x :: base) := by
  simp only [List.mem_append, List.mem_cons] at h ⊢
  rcases h with h | h | h | h <;> simp [h]
theorem memOut {α : Type} {own base : List α} {x y p : α} (h : p ∈ own ++ (x :: base)) : p ∈ x :: y :: (own ++ base) := by
  simp only [List.mem_append, List.mem_cons] at h ⊢
  rcases h with h | h | h <;> simp [h]
section
local macro_rules | `(tactic| k_room) => `(tactic| ktr_room)
local macro_rules | `(tactic| walk_at "exec For Name Call cons nil") => `(tactic| (k_here; (rename Fr _ _ _ _ => lF'); (with_unfolding_all refine' For_range lF' ?k1 ?k2 ?_; (case k1 => exact rfl); (case k2 => exact rfl); k_whole)))
local macro_rules | `(tactic| walk_at "eval Dict nil nil") => `(tactic| (k_here; k_dflt (refine' dictNew ?k1 ?k2 ?_; (case k1 => k_asm); (case k2 => k_asm); k_whole); intro h' d' F' N' l1; (try k_sweep)))
local macro_rules | `(tactic| k_mem) => `(tactic| (refine' List.mem_append_right _ ?_; k_mem))
local macro_rules | `(tactic| walk_at "call ref") => `(tactic| (k_here; k_dflt (refine' Does.use (ident_does _ _ _ _ _) ?k1 ?k2 ?k3 ?k4 ?k5 ?k6 ?k7 ?k8 ?k9 ?_; (case k1 => k_asm); (case k2 => k_asm); (case k3 => k_asm); (case k4 => k_asm); (case k5 => k_asm); (case k6 => first | exact rfl | assumption); (case k7 => ktr_room); (case k8 => ktr_units); (case k9 => trivial); k_whole); intro v' h' tk' hv' F' N'; subst hv'; (try k_sweep)))
local macro_rules | `(tactic| walk_at "call builtin:min") => `(tactic| (k_here; k_dflt (first | (refine' min3 ?hh ?k1 ?k2 ?_; (case hh => exact rfl); (case k1 => k_asm); (case k2 => k_asm); k_whole) | (refine' min2 ?hh ?k1 ?k2 ?_; (case hh => exact rfl); (case k1 => k_asm); (case k2 => k_asm); k_whole)); intro h' tk' t' F' N'; (try k_sweep)))
local macro_rules | `(tactic| walk_at "getMethod ref") => `(tactic| (k_here; (with_reducible show wpAny _ _ (getMethod (Value.ref _) (PySem.Str.ofString "test_func") _) _ _ _); k_dflt (refine' kmu_own ?k1 ?k2 ?k3 ?k4 ?k5 ?_; (case k1 => k_asm); (case k2 => k_asm); (case k3 => k_inst); (case k4 => k_is); (case k5 => k_is); k_whole)))
local macro_rules | `(tactic| walk_at "binaryOp Mult ref int") => `(tactic| (k_here; k_dflt (refine' rowMul ?k1 ?k2 ?k3 ?k4 ?k5 ?k6 ?_; (case k1 => k_asm); (case k2 => k_asm); (case k3 => k_mem); (case k4 => first | assumption | exact IsRow.one _ _ _); (case k5 => omega); (case k6 => omega); k_whole); intro h' D' o' F' N' l1 R'; (try k_sweep)))
local macro_rules | `(tactic| walk_at "binaryOp Add ref ref") => `(tactic| (k_here; k_dflt (refine' rowAdd ?k1 ?k2 ?k3 ?k4 ?k5 ?k6 ?k7 ?k8 ?_; (case k1 => k_asm); (case k2 => k_asm); (case k3 => k_mem); (case k4 => k_mem); (case k5 => first | assumption | exact IsRow.one _ _ _); (case k6 => first | assumption | exact IsRow.one _ _ _); (case k7 => omega); (case k8 => omega); k_whole); intro h' D' o' F' N' l1 R'; (try k_sweep)))
local macro_rules | `(tactic| walk_at "subscriptTail") => `(tactic| (k_here; (with_reducible show wpAny _ _ (subscriptTail _ _ (Value.ref _) (Value.int _ _)) _ _ _); k_dflt (first | (refine' rowItem ?k1 ?k2 ?k3 ?k4 ?k5 ?k6 ?k7 ?_; (case k1 => k_asm); (case k2 => k_mem); (case k3 => assumption); (case k4 => omega); (case k5 => omega); (case k6 => omega); (case k7 => with_unfolding_all rfl); k_whole) | ((with_reducible show wpAny _ _ (subscriptTail _ _ (Value.ref _) (Value.int (-1) _)) _ _ _); refine' rowLast ?k1 ?k2 ?k3 ?k4 ?_; (case k1 => k_asm); (case k2 => k_mem); (case k3 => assumption); (case k4 => with_unfolding_all rfl); k_whole)); intro t'))
local macro_rules | `(tactic| walk_at "setItem ref int int") => `(tactic| (k_here; k_dflt (refine' rowSet ?k1 ?k2 ?k3 ?k4 ?k5 ?k6 ?k7 ?k8 ?_; (case k1 => k_asm); (case k2 => k_asm); (case k3 => assumption); (case k4 => assumption); (case k5 => assumption); (case k6 => omega); (case k7 => omega); (case k8 => omega); k_whole); intro h' o' F' N' R'; (try k_sweep)))
theorem lev_does (w : World) (self : Addr) (x y : Str) (tx ty : Tok) (hx : x.length ≤ 5) (hy : y.length ≤ 5) :
    Does w 179 [.ref self, .str x tx, .str y ty] 12 30 (IsLev w self) (fun v => ∃ t, v = .int (dist pNone (rp (lt x) x.length) (rp (lt y) y.length) : Nat) t) := by
  unfold Does
  w_top off
  k_fill
  intro mean mg mb dp un gd cn cs a ccd cl outer A₀ base h₀ L m s Q E news hB hF hK hN hT hcs hdp hun hneed hret
  obtain ⟨dx, t1, t2, t3, hself, hdx⟩ := hneed
  replace hN : News h₀ L s.heap ((self, instObj 189 dx) :: (dx, levDict w t1 t2 t3) :: news) := fun p hp => by
    rcases List.mem_cons.mp hp with rfl | hp
    · exact hN _ hself
    · rcases List.mem_cons.mp hp with rfl | hp
      · exact hN _ hdx
      · exact hN _ hp
  refine wpAny_call ?_
  k_dflt cell_enter
  k_steps
  unfold RangeLoop
  rename News _ _ _ _ => N
  rename Fr _ _ _ _ => F
  rename IsRange _ _ _ _ _ _ _ _ => hr
  rename IntsAre _ _ => hI
  refine iterRangeO x.length [Str.ofString "cur", Str.ofString "r", Str.ofString "prev", Str.ofString "c", Str.ofString "deletion", Str.ofString "insertion", Str.ofString "dist", Str.ofString "edit"]
    (fun i m nx => ∃ ca co, nx = (ca, co) :: ((self, instObj 189 dx) :: (dx, levDict w t1 t2 t3) :: news) ∧ IsRow co (fun j => (dist pNone (rp (lt x) i) (rp (lt y) j) : Nat)) (y.length + 1) ∧ m (Str.ofString "cur") = some (.ref ca))
    rfl hr (small_one (by omega) (by omega) (by omega) (by omega)) (sizeOne (by omega)) F N ?_ ?_ ?_
  · have hI2 : IntsAre _ (rangeKs 0 (y.length + 1)) := hI
    refine ⟨_, _, rfl, (IsRow.range hI2).mono fun j hj => ?_, rfl⟩
    rw [show rp (lt x) 0 = [] from rfl, dist_nil_left, rp_length]; omega
  · clear hI N F hr
    rintro i t m₁ nx h tk own hi hoff ⟨ca, co, rfl, R, hcur⟩ hsep F N
    obtain ⟨mm, ho1, ho2⟩ := hoff.val hcur
    rw [ho2, ho1.all] at F
    dsimp only [offMap] at F
    clear ho1 ho2 hcur
    k_steps
    unfold RangeLoop
    rename_i cb ob lcb R2 _ _ _ _ _ _ _ _ _ _ _ _ _ _ _ hr F N _
    have hcb : ∀ p ∈ (ca, co) :: (own ++ ((self, instObj 189 dx) :: (dx, levDict w t1 t2 t3) :: news)), p.1 ≠ cb := fun p hp => Nat.ne_of_lt (lcb p (memIn3 hp))
    replace N : News _ _ _ ((cb, ob) :: (ca, co) :: (own ++ ((self, instObj 189 dx) :: (dx, levDict w t1 t2 t3) :: news))) := fun p hp => N p (memIn5 hp)
    refine iterRangeO y.length [Str.ofString "c", Str.ofString "deletion", Str.ofString "insertion", Str.ofString "dist", Str.ofString "edit"]
      (fun j m nx => ∃ o', nx = (cb, o') :: ((ca, co) :: (own ++ ((self, instObj 189 dx) :: (dx, levDict w t1 t2 t3) :: news))) ∧ IsRow o' (fun k => if k ≤ j then (dist pNone (rp (lt x) (i + 1)) (rp (lt y) k) : Nat) else 0) (y.length + 1))
      rfl hr (small_one (by omega) (by omega) (by omega) (by omega)) (sizeOne (by omega)) F N ?_ ?_ ?_
    · have e : 1 + ((y.length : Int) + 1 - 1).toNat = y.length + 1 := by omega
      rw [e] at R2
      refine ⟨_, rfl, R2.mono fun k hk => ?_⟩
      by_cases h0 : k = 0
      · subst h0
        rw [if_pos (Nat.le_refl _), if_pos (by omega), show rp (lt y) 0 = [] from rfl, dist_nil_right, rp_length]; omega
      · rw [if_neg (by omega), if_neg (by omega)]
    · clear R2 lcb N F hr
      rintro j t m₂ nx h tk own' hj hoff' ⟨o', rfl, R2⟩ hsep' F N
      rw [hoff'.all] at F
      dsimp only [offMap] at F
      have hs1 : ∀ p ∈ own', p.1 ≠ cb := fun p hp => (hsep' (cb, o') List.mem_cons_self p hp).symm
      k_steps
      try dsimp only
      rename Fr _ _ _ _ => F'
      rename News _ _ _ _ => N'
      rename IsRow _ _ _ => R'
      refine TurnEnd.mk_next _ F' N' (fun p hp q hq => (List.mem_cons.mp hp).elim (fun e => by rw [e]; exact (hs1 q hq).symm) (fun hp => hsep' p (List.mem_cons_of_mem _ hp) q hq)) ⟨by (repeat (first | with_reducible exact Off.refl | refine Off.ite (by with_reducible (first | exact List.mem_cons_self | exact (List.mem_cons_of_mem _ List.mem_cons_self) | exact (List.mem_cons_of_mem _ (List.mem_cons_of_mem _ List.mem_cons_self)) | exact (List.mem_cons_of_mem _ (List.mem_cons_of_mem _ (List.mem_cons_of_mem _ List.mem_cons_self))) | exact (List.mem_cons_of_mem _ (List.mem_cons_of_mem _ (List.mem_cons_of_mem _ (List.mem_cons_of_mem _ List.mem_cons_self)))) | exact (List.mem_cons_of_mem _ (List.mem_cons_of_mem _ (List.mem_cons_of_mem _ (List.mem_cons_of_mem _ (List.mem_cons_of_mem _ List.mem_cons_self))))) | exact (List.mem_cons_of_mem _ (List.mem_cons_of_mem _ (List.mem_cons_of_mem _ (List.mem_cons_of_mem _ (List.mem_cons_of_mem _ (List.mem_cons_of_mem _ List.mem_cons_self)))))) | exact (List.mem_cons_of_mem _ (List.mem_cons_of_mem _ (List.mem_cons_of_mem _ (List.mem_cons_of_mem _ (List.mem_cons_of_mem _ (List.mem_cons_of_mem _ (List.mem_cons_of_mem _ List.mem_cons_self)))))))) ) ?_)), _, rfl, R'.mono fun k hk => ?_⟩
      exact lev_cell x y hi hj k
    · clear R2 lcb N F hr
      rintro m₂ nx h tk hoff' ⟨o', rfl, R2⟩ F N
      rw [hoff'.all] at F
      dsimp only [offMap] at F
      k_steps
      try dsimp only
      rename Fr _ _ _ _ => F'
      rename News _ _ _ _ => N'
      refine TurnEnd.mk_next ((cb, o') :: ((self, instObj 189 dx) :: (dx, levDict w t1 t2 t3) :: news)) F' (fun p hp => N' p (memOut hp)) (fun p hp q hq => (List.mem_cons.mp hp).elim (fun e => by rw [e]; exact (hcb q (List.mem_cons_of_mem _ (List.mem_append_left _ hq))).symm) fun hp => hsep p (List.mem_cons_of_mem _ hp) q hq)
        ⟨by (repeat (first | with_reducible exact Off.refl | refine Off.ite (by with_reducible (first | exact List.mem_cons_self | exact (List.mem_cons_of_mem _ List.mem_cons_self) | exact (List.mem_cons_of_mem _ (List.mem_cons_of_mem _ List.mem_cons_self)) | exact (List.mem_cons_of_mem _ (List.mem_cons_of_mem _ (List.mem_cons_of_mem _ List.mem_cons_self))) | exact (List.mem_cons_of_mem _ (List.mem_cons_of_mem _ (List.mem_cons_of_mem _ (List.mem_cons_of_mem _ List.mem_cons_self)))) | exact (List.mem_cons_of_mem _ (List.mem_cons_of_mem _ (List.mem_cons_of_mem _ (List.mem_cons_of_mem _ (List.mem_cons_of_mem _ List.mem_cons_self))))) | exact (List.mem_cons_of_mem _ (List.mem_cons_of_mem _ (List.mem_cons_of_mem _ (List.mem_cons_of_mem _ (List.mem_cons_of_mem _ (List.mem_cons_of_mem _ List.mem_cons_self)))))) | exact (List.mem_cons_of_mem _ (List.mem_cons_of_mem _ (List.mem_cons_of_mem _ (List.mem_cons_of_mem _ (List.mem_cons_of_mem _ (List.mem_cons_of_mem _ (List.mem_cons_of_mem _ List.mem_cons_self)))))))) ) ?_)), cb, o', rfl, R2.mono fun k hk => ?_, rfl⟩
      rw [if_pos (by omega)]
  clear hI N F hr
  rintro m₁ nx h tk hoff ⟨ca, co, rfl, R, hcur⟩ F N
  obtain ⟨mm, ho1, ho2⟩ := hoff.val hcur
  rw [ho2, ho1.all] at F
  dsimp only [offMap] at F
  clear ho1 ho2 hcur
  k_steps
  run_tac Lean.Elab.Tactic.withMainContext do Lean.logInfo m!"{← Lean.Elab.Tactic.getMainTarget}"
  rename Fr _ _ _ _ => F'
  rename News _ _ _ _ => N'
  exact hret _ _ _ ⟨_, rfl⟩ F' fun p hp => N' p (by simp [hp])
end
end Mine
end
section
open PySem PySem.W PySem.Spec PySem.Calls PyProof.Rows
set_option maxRecDepth 100000
set_option maxHeartbeats 8000000
namespace Mine
section
local macro_rules | `(tactic| k_room) => `(tactic| ktr_room)
local macro_rules | `(tactic| k_mem) => `(tactic| (refine' List.mem_append_right _ ?_; k_mem))
local macro_rules | `(tactic| k_enter) => `(tactic| (kp_kind "rest"; (fail_if_success k_inElt); (refine' restCells ?k1 ?k2 ?k3 ?k4 ?k5 ?kA ?kF ?kK ?k6 ?k7 ?k8 ?kV ?kP ?kG ?kB ?kD ?_ ?c2 ?c3 ?c4; (case kA => exact rfl); (case kF => exact rfl); (case kK => first | exact rfl | assumption); (case k1 => k_asm); (case k2 => k_asm); (case k3 => k_asm); (case k4 => k_asm); (case k5 => k_asm); (case k6 => k_is); (case k7 => k_is); (case k8 => k_room); (case kV => kl_lit); (case kP => exact rfl); (case kG => exact fun _ => rfl); (case kB => exact fun _ => rfl); (case kD => decide +kernel); (case c2 => exact rfl); (case c3 => exact rfl); (case c4 => exact rfl); k_whole; intro D' g' L' h' tk' cells' l0' FG' F' N' Y' B' X' T' l1; (try k_lt l1); k_cells Y'; (try simp only [List.cons_append, List.nil_append] at N'); (try dsimp only); (try k_lift B'); (try k_fold))))
local macro_rules | `(tactic| k_enter) => `(tactic| (kp_kind "rest"; (fail_if_success k_inElt); (refine' kp_rest ?k1 ?k2 ?k3 ?k4 ?k5 ?kA ?kF ?kK ?k6 ?k7 ?k8 ?kV ?kP ?kG ?kB ?_ ?c2 ?c3 ?c4 ?c5; (case kA => exact rfl); (case kF => exact rfl); (case kK => first | exact rfl | assumption); (case k1 => k_asm); (case k2 => k_asm); (case k3 => k_asm); (case k4 => k_asm); (case k5 => k_asm); (case k6 => k_is); (case k7 => k_is); (case k8 => k_room); (case kV => kl_lit); (case kP => exact rfl); (case kG => exact fun _ => rfl); (case kB => exact fun _ => locs rfl); (case c5 => decide); (case c2 => exact rfl); (case c3 => exact rfl); (case c4 => exact rfl); k_whole; intro D' g' L' h' l1 FG' F' N' B' X' T'; (try dsimp only); (try k_lift B'); (try k_fold))))
local macro_rules | `(tactic| walk_at "getAttr ref") => `(tactic| (k_here; k_dflt (refine' getStatic ?k1 ?k2 ?k3 ?k4 ?k5 ?k6 ?k7 ?k8 ?k9 ?k10 ?k11 ?k12 ?_; (case k1 => k_asm); (case k2 => k_asm); (case k3 => k_inst); (case k4 => k_is); (case k5 => k_is); (case k6 => k_is); (case k7 => k_is); (case k8 => k_is); (case k9 => decide +kernel); (case k10 => k_get); (case k11 => k_is); (case k12 => k_handed); k_whole)))
local macro_rules | `(tactic| walk_at "eval Call Attribute") => `(tactic| (k_here; (with_reducible show wpAny _ _ (eval (Expr.Call (Expr.Attribute _ _ _) [Expr.Starred _ _] [] _) _) _ _ _); k_dflt (refine methodCallStar ?_)))
local macro_rules | `(tactic| walk_at "call ref") => `(tactic| (k_here; k_dflt (first
  | (refine' Does.use (ident_does _ _ _ _ _) ?k1 ?k2 ?k3 ?k4 ?k5 ?k6 ?k7 ?k8 ?k9 ?_; (case k1 => k_asm); (case k2 => k_asm); (case k3 => k_asm); (case k4 => k_asm); (case k5 => k_asm); (case k6 => first | exact rfl | assumption); (case k7 => ktr_room); (case k8 => ktr_units); (case k9 => trivial); k_whole; intro v' h' tk' hv' F' N'; subst hv')
  | (refine' Does.use (restr_does _ _ _ _ _ _ (by assumption) (by assumption)) ?k1 ?k2 ?k3 ?k4 ?k5 ?k6 ?k7 ?k8 ?k9 ?_; (case k1 => k_asm); (case k2 => k_asm); (case k3 => k_asm); (case k4 => k_asm); (case k5 => k_asm); (case k6 => first | exact rfl | assumption); (case k7 => ktr_room); (case k8 => ktr_units); (case k9 => exact ⟨_, _, _, _, _, by k_mem, by k_mem⟩); k_whole; rintro v' h' tk' ⟨t', hv'⟩ F' N'; subst hv')
  | (refine' Does.use (free_does _ _ _ _ _ _ (by assumption) (by assumption)) ?k1 ?k2 ?k3 ?k4 ?k5 ?k6 ?k7 ?k8 ?k9 ?_; (case k1 => k_asm); (case k2 => k_asm); (case k3 => k_asm); (case k4 => k_asm); (case k5 => k_asm); (case k6 => first | exact rfl | assumption); (case k7 => ktr_room); (case k8 => ktr_units); (case k9 => exact ⟨_, _, _, _, _, by k_mem, by k_mem⟩); k_whole; rintro v' h' tk' ⟨t', hv'⟩ F' N'; subst hv')
  | (refine' Does.use (lev_does _ _ _ _ _ _ (by assumption) (by assumption)) ?k1 ?k2 ?k3 ?k4 ?k5 ?k6 ?k7 ?k8 ?k9 ?_; (case k1 => k_asm); (case k2 => k_asm); (case k3 => k_asm); (case k4 => k_asm); (case k5 => k_asm); (case k6 => first | exact rfl | assumption); (case k7 => ktr_room); (case k8 => ktr_units); (case k9 => exact ⟨_, _, _, _, by k_mem, by k_mem⟩); k_whole; rintro v' h' tk' ⟨t', hv'⟩ F' N'; subst hv')); (try k_sweep)))
local macro_rules | `(tactic| walk_at "call builtin:all") => `(tactic| (k_here; (with_reducible show wpAny _ _ (call (Value.builtin "all") [Value.ref _]) _ _ _); k_dflt (refine' allTwo ?k0 ?k1 ?k2 ?k3 ?k4 ?k5 ?_; (case k0 => exact rfl); (case k1 => k_asm); (case k2 => k_asm); (case k3 => k_mem); (case k4 => omega); (case k5 => omega); k_whole); intro h' tk' F' N'; (try k_sweep)))
local macro_rules | `(tactic| walk_at "call type:map") => `(tactic| (k_here; k_dflt (refine' callMapLen ?k1 ?k2 ?k3 ?_; (case k1 => k_asm); (case k2 => k_asm); (case k3 => k_mem); k_whole); intro h' I' F' N' H'; (try k_sweep)))
local macro_rules | `(tactic| walk_at "call builtin:max") => `(tactic| (k_here; (with_reducible show wpAny _ _ (call (Value.builtin "max") [Value.ref _]) _ _ _); k_dflt (refine' maxTwoLens ?k0 ?k1 ?k2 ?k3 ?k4 ?k5 ?_; (case k0 => exact rfl); (case k1 => k_asm); (case k2 => k_asm); (case k3 => assumption); (case k4 => omega); (case k5 => omega); k_whole); intro h' tk' t' F' N'; (try k_sweep)))
theorem near_does (w : World) (self : Addr) (x y : Str) (tx ty : Tok) (hx : x.length ≤ 5) (hy : y.length ≤ 5) :
    DoesC w 227 [.ref self, .str x tx, .str y ty] 40 60 (IsDL w self true) (fun v => ∃ t, v = .int (dist pNext (wd x) (wd y) : Nat) t) := by
  unfold DoesC
  w_top off
  k_fill
  intro mean mg mb dp un gd cn cs a ccd cl outer A₀ base h₀ L m s R news hB hF hK hN hT hcs hdp hun hneed hret
  obtain ⟨dx, t1, t2, t3, t4, hself, hdx⟩ := hneed
  replace hN : News h₀ L s.heap ((self, instObj 230 dx) :: (dx, dlDict w t1 t2 t3 t4 true) :: news) := fun p hp => by
    rcases List.mem_cons.mp hp with rfl | hp
    · exact hN _ hself
    · rcases List.mem_cons.mp hp with rfl | hp
      · exact hN _ hdx
      · exact hN _ hp
  k_dflt cell_enter
  k_steps
  all_goals (rename Fr _ _ _ _ => F')
  all_goals (rename News _ _ _ _ => N')
  · have e : x = y := by assumption
    exact hret _ _ _ ⟨_, congrArg (fun n : Nat => Value.int (n : Int) _) (show 0 = dist pNext (wd x) (wd y) by rw [e, dist_self])⟩ F' fun p hp => N' p (by simp [hp])
  · exact hret _ _ _ ⟨_, congrArg (fun n : Nat => Value.int (n : Int) _) (osa_dist (lt x) (lt y) _ _ _ (Nat.le_refl _))⟩ F' fun p hp => N' p (by simp [hp])
  · exact hret _ _ _ ⟨_, congrArg (fun n : Nat => Value.int (n : Int) _) (dist_empty pNext (by assumption))⟩ F' fun p hp => N' p (by simp [hp])
theorem far_does (w : World) (self : Addr) (x y : Str) (tx ty : Tok) (hx : x.length ≤ 5) (hy : y.length ≤ 5) :
    DoesC w 227 [.ref self, .str x tx, .str y ty] 40 60 (IsDL w self false) (fun v => ∃ t, v = .int (dist pAny (wd x) (wd y) : Nat) t) := by
  unfold DoesC
  w_top off
  k_fill
  intro mean mg mb dp un gd cn cs a ccd cl outer A₀ base h₀ L m s R news hB hF hK hN hT hcs hdp hun hneed hret
  obtain ⟨dx, t1, t2, t3, t4, hself, hdx⟩ := hneed
  replace hN : News h₀ L s.heap ((self, instObj 230 dx) :: (dx, dlDict w t1 t2 t3 t4 false) :: news) := fun p hp => by
    rcases List.mem_cons.mp hp with rfl | hp
    · exact hN _ hself
    · rcases List.mem_cons.mp hp with rfl | hp
      · exact hN _ hdx
      · exact hN _ hp
  k_dflt cell_enter
  k_steps
  all_goals (rename Fr _ _ _ _ => F')
  all_goals (rename News _ _ _ _ => N')
  · have e : x = y := by assumption
    exact hret _ _ _ ⟨_, congrArg (fun n : Nat => Value.int (n : Int) _) (show 0 = dist pAny (wd x) (wd y) by rw [e, dist_self])⟩ F' fun p hp => N' p (by simp [hp])
  · exact hret _ _ _ ⟨_, rfl⟩ F' fun p hp => N' p (by simp [hp])
  · exact hret _ _ _ ⟨_, congrArg (fun n : Nat => Value.int (n : Int) _) (dist_empty pAny (by assumption))⟩ F' fun p hp => N' p (by simp [hp])
theorem most_does (w : World) (self : Addr) (x y : Str) (tx ty : Tok) (hx : x.length ≤ 5) (hy : y.length ≤ 5) :
    DoesC w 186 [.ref self, .str x tx, .str y ty] 40 60 (IsLev w self) (fun v => ∃ t, v = .int (dist pNone (wd x) (wd y) : Nat) t) := by
  unfold DoesC
  w_top off
  k_fill
  intro mean mg mb dp un gd cn cs a ccd cl outer A₀ base h₀ L m s R news hB hF hK hN hT hcs hdp hun hneed hret
  obtain ⟨dx, t1, t2, t3, hself, hdx⟩ := hneed
  replace hN : News h₀ L s.heap ((self, instObj 189 dx) :: (dx, levDict w t1 t2 t3) :: news) := fun p hp => by
    rcases List.mem_cons.mp hp with rfl | hp
    · exact hN _ hself
    · rcases List.mem_cons.mp hp with rfl | hp
      · exact hN _ hdx
      · exact hN _ hp
  k_dflt cell_enter
  k_steps
  all_goals (rename Fr _ _ _ _ => F')
  all_goals (rename News _ _ _ _ => N')
  · have e : x = y := by assumption
    exact hret _ _ _ ⟨_, congrArg (fun n : Nat => Value.int (n : Int) _) (show 0 = dist pNone (wd x) (wd y) by rw [e, dist_self])⟩ F' fun p hp => N' p (by simp [hp])
  · exact hret _ _ _ ⟨_, rfl⟩ F' fun p hp => N' p (by simp [hp])
  · exact hret _ _ _ ⟨_, congrArg (fun n : Nat => Value.int (n : Int) _) (dist_empty pNone (by assumption))⟩ F' fun p hp => N' p (by simp [hp])
end
end Mine
end
section
open PySem PySem.W PySem.Spec PySem.Calls PyProof.Rows
set_option maxRecDepth 100000
set_option maxHeartbeats 8000000
namespace Mine
section
local macro_rules | `(tactic| k_room) => `(tactic| ktr_room)
local macro_rules | `(tactic| k_mem) => `(tactic| (refine' List.mem_append_right _ ?_; k_mem))
local macro_rules | `(tactic| k_enter) => `(tactic| (kp_kind "rest"; (fail_if_success k_inElt); (refine' restCells ?k1 ?k2 ?k3 ?k4 ?k5 ?kA ?kF ?kK ?k6 ?k7 ?k8 ?kV ?kP ?kG ?kB ?kD ?_ ?c2 ?c3 ?c4; (case kA => exact rfl); (case kF => exact rfl); (case kK => first | exact rfl | assumption); (case k1 => k_asm); (case k2 => k_asm); (case k3 => k_asm); (case k4 => k_asm); (case k5 => k_asm); (case k6 => k_is); (case k7 => k_is); (case k8 => k_room); (case kV => kl_lit); (case kP => exact rfl); (case kG => exact fun _ => rfl); (case kB => exact fun _ => rfl); (case kD => decide +kernel); (case c2 => exact rfl); (case c3 => exact rfl); (case c4 => exact rfl); k_whole; intro D' g' L' h' tk' cells' l0' FG' F' N' Y' B' X' T' l1; (try k_lt l1); k_cells Y'; (try simp only [List.cons_append, List.nil_append] at N'); (try dsimp only); (try k_lift B'); (try k_fold))))
local macro_rules | `(tactic| k_enter) => `(tactic| (kp_kind "rest"; (fail_if_success k_inElt); (refine' kp_rest ?k1 ?k2 ?k3 ?k4 ?k5 ?kA ?kF ?kK ?k6 ?k7 ?k8 ?kV ?kP ?kG ?kB ?_ ?c2 ?c3 ?c4 ?c5; (case kA => exact rfl); (case kF => exact rfl); (case kK => first | exact rfl | assumption); (case k1 => k_asm); (case k2 => k_asm); (case k3 => k_asm); (case k4 => k_asm); (case k5 => k_asm); (case k6 => k_is); (case k7 => k_is); (case k8 => k_room); (case kV => kl_lit); (case kP => exact rfl); (case kG => exact fun _ => rfl); (case kB => exact fun _ => locs rfl); (case c5 => decide); (case c2 => exact rfl); (case c3 => exact rfl); (case c4 => exact rfl); k_whole; intro D' g' L' h' l1 FG' F' N' B' X' T'; (try dsimp only); (try k_lift B'); (try k_fold))))
local macro_rules | `(tactic| walk_at "getAttr ref") => `(tactic| (k_here; k_dflt (refine' getStatic ?k1 ?k2 ?k3 ?k4 ?k5 ?k6 ?k7 ?k8 ?k9 ?k10 ?k11 ?k12 ?_; (case k1 => k_asm); (case k2 => k_asm); (case k3 => k_inst); (case k4 => k_is); (case k5 => k_is); (case k6 => k_is); (case k7 => k_is); (case k8 => k_is); (case k9 => decide +kernel); (case k10 => k_get); (case k11 => k_is); (case k12 => k_handed); k_whole)))
local macro_rules | `(tactic| walk_at "eval Call Attribute") => `(tactic| (k_here; (with_reducible show wpAny _ _ (eval (Expr.Call (Expr.Attribute _ _ _) [Expr.Starred _ _] [] _) _) _ _ _); k_dflt (refine methodCallStar ?_)))
local macro_rules | `(tactic| walk_at "callWith ref") => `(tactic| (k_here; (with_reducible show wpAny _ _ (callWith _ (Value.ref _) _ (backTo _ (starEach [Expr.Starred _ _] _)) []) _ _ _); kco_here; k_dflt (refine' callStarOwn ?k1 ?k2 ?k3 ?_; (case k1 => k_in); (case k2 => k_inst); (case k3 => rfl); k_whole)))
local macro_rules | `(tactic| walk_at "call ref") => `(tactic| (k_here; kco_here; k_dflt (refine wpAny_call ?_; refine' kco_code ?c1 ?c2 ?c3 ?c4 ?c5 ?c6 ?_; (case c1 => k_in); (case c2 => k_inst); (case c3 => rfl); (case c4 => k_is); (case c5 => k_is); (case c6 => k_is); (try dsimp only); (first
  | (refine' DoesC.use (near_does _ _ _ _ _ _ (by assumption) (by assumption)) ?k1 ?k2 ?k3 ?k4 ?k5 ?k6 ?k7 ?k8 ?k9 ?_; (case k1 => k_asm); (case k2 => k_asm); (case k3 => k_asm); (case k4 => k_asm); (case k5 => k_asm); (case k6 => first | exact rfl | assumption); (case k7 => ktr_room); (case k8 => ktr_units); (case k9 => exact ⟨_, _, _, _, _, by k_mem, by k_mem⟩); k_whole; rintro v' h' tk' ⟨t', hv'⟩ F' N'; subst hv')
  | (refine' DoesC.use (far_does _ _ _ _ _ _ (by assumption) (by assumption)) ?k1 ?k2 ?k3 ?k4 ?k5 ?k6 ?k7 ?k8 ?k9 ?_; (case k1 => k_asm); (case k2 => k_asm); (case k3 => k_asm); (case k4 => k_asm); (case k5 => k_asm); (case k6 => first | exact rfl | assumption); (case k7 => ktr_room); (case k8 => ktr_units); (case k9 => exact ⟨_, _, _, _, _, by k_mem, by k_mem⟩); k_whole; rintro v' h' tk' ⟨t', hv'⟩ F' N'; subst hv')
  | (refine' DoesC.use (most_does _ _ _ _ _ _ (by assumption) (by assumption)) ?k1 ?k2 ?k3 ?k4 ?k5 ?k6 ?k7 ?k8 ?k9 ?_; (case k1 => k_asm); (case k2 => k_asm); (case k3 => k_asm); (case k4 => k_asm); (case k5 => k_asm); (case k6 => first | exact rfl | assumption); (case k7 => ktr_room); (case k8 => ktr_units); (case k9 => exact ⟨_, _, _, _, by k_mem, by k_mem⟩); k_whole; rintro v' h' tk' ⟨t', hv'⟩ F' N'; subst hv'))); (try k_sweep)))
theorem nearD_does (w : World) (self : Addr) (x y : Str) (tx ty : Tok) (hx : x.length ≤ 5) (hy : y.length ≤ 5) :
    DoesC w 65 [.ref self, .str x tx, .str y ty] 60 90 (IsDL w self true) (fun v => ∃ t, v = .int (dist pNext (wd x) (wd y) : Nat) t) := by
  unfold DoesC
  w_top off
  k_fill
  intro mean mg mb dp un gd cn cs a ccd cl outer A₀ base h₀ L m s R news hB hF hK hN hT hcs hdp hun hneed hret
  obtain ⟨dx, t1, t2, t3, t4, hself, hdx⟩ := hneed
  replace hN : News h₀ L s.heap ((self, instObj 230 dx) :: (dx, dlDict w t1 t2 t3 t4 true) :: news) := fun p hp => by
    rcases List.mem_cons.mp hp with rfl | hp
    · exact hN _ hself
    · rcases List.mem_cons.mp hp with rfl | hp
      · exact hN _ hdx
      · exact hN _ hp
  k_dflt k_enter
  k_steps
  rename Fr _ _ _ _ => F'
  rename News _ _ _ _ => N'
  exact hret _ _ _ ⟨_, rfl⟩ F' fun p hp => N' p (by simp [hp])
theorem farD_does (w : World) (self : Addr) (x y : Str) (tx ty : Tok) (hx : x.length ≤ 5) (hy : y.length ≤ 5) :
    DoesC w 65 [.ref self, .str x tx, .str y ty] 60 90 (IsDL w self false) (fun v => ∃ t, v = .int (dist pAny (wd x) (wd y) : Nat) t) := by
  unfold DoesC
  w_top off
  k_fill
  intro mean mg mb dp un gd cn cs a ccd cl outer A₀ base h₀ L m s R news hB hF hK hN hT hcs hdp hun hneed hret
  obtain ⟨dx, t1, t2, t3, t4, hself, hdx⟩ := hneed
  replace hN : News h₀ L s.heap ((self, instObj 230 dx) :: (dx, dlDict w t1 t2 t3 t4 false) :: news) := fun p hp => by
    rcases List.mem_cons.mp hp with rfl | hp
    · exact hN _ hself
    · rcases List.mem_cons.mp hp with rfl | hp
      · exact hN _ hdx
      · exact hN _ hp
  k_dflt k_enter
  k_steps
  rename Fr _ _ _ _ => F'
  rename News _ _ _ _ => N'
  exact hret _ _ _ ⟨_, rfl⟩ F' fun p hp => N' p (by simp [hp])
theorem mostD_does (w : World) (self : Addr) (x y : Str) (tx ty : Tok) (hx : x.length ≤ 5) (hy : y.length ≤ 5) :
    DoesC w 65 [.ref self, .str x tx, .str y ty] 60 90 (IsLev w self) (fun v => ∃ t, v = .int (dist pNone (wd x) (wd y) : Nat) t) := by
  unfold DoesC
  w_top off
  k_fill
  intro mean mg mb dp un gd cn cs a ccd cl outer A₀ base h₀ L m s R news hB hF hK hN hT hcs hdp hun hneed hret
  obtain ⟨dx, t1, t2, t3, hself, hdx⟩ := hneed
  replace hN : News h₀ L s.heap ((self, instObj 189 dx) :: (dx, levDict w t1 t2 t3) :: news) := fun p hp => by
    rcases List.mem_cons.mp hp with rfl | hp
    · exact hN _ hself
    · rcases List.mem_cons.mp hp with rfl | hp
      · exact hN _ hdx
      · exact hN _ hp
  k_dflt k_enter
  k_steps
  rename Fr _ _ _ _ => F'
  rename News _ _ _ _ => N'
  exact hret _ _ _ ⟨_, rfl⟩ F' fun p hp => N' p (by simp [hp])
end
end Mine
end
section
open PySem PySem.W PySem.Spec PySem.Calls PyProof.Rows
set_option maxRecDepth 100000
set_option maxHeartbeats 8000000
namespace Mine
section
local macro_rules | `(tactic| k_room) => `(tactic| ktr_room)
local macro_rules | `(tactic| k_mem) => `(tactic| (refine' List.mem_append_right _ ?_; k_mem))
local macro_rules | `(tactic| k_enter) => `(tactic| (kp_kind "rest"; (fail_if_success k_inElt); (refine' restCells ?k1 ?k2 ?k3 ?k4 ?k5 ?kA ?kF ?kK ?k6 ?k7 ?k8 ?kV ?kP ?kG ?kB ?kD ?_ ?c2 ?c3 ?c4; (case kA => exact rfl); (case kF => exact rfl); (case kK => first | exact rfl | assumption); (case k1 => k_asm); (case k2 => k_asm); (case k3 => k_asm); (case k4 => k_asm); (case k5 => k_asm); (case k6 => k_is); (case k7 => k_is); (case k8 => k_room); (case kV => kl_lit); (case kP => exact rfl); (case kG => exact fun _ => rfl); (case kB => exact fun _ => rfl); (case kD => decide +kernel); (case c2 => exact rfl); (case c3 => exact rfl); (case c4 => exact rfl); k_whole; intro D' g' L' h' tk' cells' l0' FG' F' N' Y' B' X' T' l1; (try k_lt l1); k_cells Y'; (try simp only [List.cons_append, List.nil_append] at N'); (try dsimp only); (try k_lift B'); (try k_fold))))
local macro_rules | `(tactic| k_enter) => `(tactic| (kp_kind "rest"; (fail_if_success k_inElt); (refine' kp_rest ?k1 ?k2 ?k3 ?k4 ?k5 ?kA ?kF ?kK ?k6 ?k7 ?k8 ?kV ?kP ?kG ?kB ?_ ?c2 ?c3 ?c4 ?c5; (case kA => exact rfl); (case kF => exact rfl); (case kK => first | exact rfl | assumption); (case k1 => k_asm); (case k2 => k_asm); (case k3 => k_asm); (case k4 => k_asm); (case k5 => k_asm); (case k6 => k_is); (case k7 => k_is); (case k8 => k_room); (case kV => kl_lit); (case kP => exact rfl); (case kG => exact fun _ => rfl); (case kB => exact fun _ => locs rfl); (case c5 => decide); (case c2 => exact rfl); (case c3 => exact rfl); (case c4 => exact rfl); k_whole; intro D' g' L' h' l1 FG' F' N' B' X' T'; (try dsimp only); (try k_lift B'); (try k_fold))))
local macro_rules | `(tactic| walk_at "getAttr ref") => `(tactic| (k_here; k_dflt (refine' getStatic ?k1 ?k2 ?k3 ?k4 ?k5 ?k6 ?k7 ?k8 ?k9 ?k10 ?k11 ?k12 ?_; (case k1 => k_asm); (case k2 => k_asm); (case k3 => k_inst); (case k4 => k_is); (case k5 => k_is); (case k6 => k_is); (case k7 => k_is); (case k8 => k_is); (case k9 => decide +kernel); (case k10 => k_get); (case k11 => k_is); (case k12 => k_handed); k_whole)))
local macro_rules | `(tactic| walk_at "eval Call Attribute") => `(tactic| (k_here; (with_reducible show wpAny _ _ (eval (Expr.Call (Expr.Attribute _ _ _) [Expr.Starred _ _] [] _) _) _ _ _); k_dflt (refine methodCallStar ?_)))
local macro_rules | `(tactic| walk_at "call builtin:all") => `(tactic| (k_here; (with_reducible show wpAny _ _ (call (Value.builtin "all") [Value.ref _]) _ _ _); k_dflt (refine' allTwo ?k0 ?k1 ?k2 ?k3 ?k4 ?k5 ?_; (case k0 => exact rfl); (case k1 => k_asm); (case k2 => k_asm); (case k3 => k_mem); (case k4 => omega); (case k5 => omega); k_whole); intro h' tk' F' N'; (try k_sweep)))
local macro_rules | `(tactic| walk_at "call type:map") => `(tactic| (k_here; k_dflt (refine' callMapLen ?k1 ?k2 ?k3 ?_; (case k1 => k_asm); (case k2 => k_asm); (case k3 => k_mem); k_whole); intro h' I' F' N' H'; (try k_sweep)))
local macro_rules | `(tactic| walk_at "call builtin:max") => `(tactic| (k_here; (with_reducible show wpAny _ _ (call (Value.builtin "max") [Value.ref _]) _ _ _); k_dflt (refine' maxTwoLens ?k0 ?k1 ?k2 ?k3 ?k4 ?k5 ?_; (case k0 => exact rfl); (case k1 => k_asm); (case k2 => k_asm); (case k3 => assumption); (case k4 => omega); (case k5 => omega); k_whole); intro h' tk' t' F' N'; (try k_sweep)))

local macro_rules | `(tactic| walk_at "callWith ref") => `(tactic| (k_here; (with_reducible show wpAny _ _ (callWith _ (Value.ref _) _ (backTo _ (starEach [Expr.Starred _ _] _)) []) _ _ _); kco_here; k_dflt (refine' callStarMeth ?k1 ?k2 ?_; (case k1 => k_asm); (case k2 => k_mem); k_whole)))
local macro_rules | `(tactic| walk_at "And") => `(tactic| ((with_reducible show MethP _ _ _ _ ∧ _); k_dflt (refine ⟨MethP.of (by k_in) (by k_asm) (by k_mem) (by k_is), ?_⟩); (try dsimp only [List.nil_append, List.cons_append])))
local macro_rules | `(tactic| walk_at "call ref") => `(tactic| (k_here; kco_here; k_dflt (refine' call_meth ?c1 ?c2 ?_; (case c1 => k_asm); (case c2 => k_mem); (refine' DoesC.use (nearD_does _ _ _ _ _ _ (by assumption) (by assumption)) ?k1 ?k2 ?k3 ?k4 ?k5 ?k6 ?k7 ?k8 ?k9 ?_; (case k1 => k_asm); (case k2 => k_asm); (case k3 => k_asm); (case k4 => k_asm); (case k5 => k_asm); (case k6 => first | exact rfl | assumption); (case k7 => ktr_room); (case k8 => ktr_units); (case k9 => exact ⟨_, _, _, _, _, by k_mem, by k_mem⟩); k_whole; rintro v' h' tk' ⟨t', hv'⟩ F' N'; subst hv')); (try k_sweep)))
theorem nearS_does (w : World) (self : Addr) (x y : Str) (tx ty : Tok) (hx : x.length ≤ 5) (hy : y.length ≤ 5) :
    DoesC w 72 [.ref self, .str x tx, .str y ty] 80 120 (IsDL w self true) (fun v => ∃ t, v = .int ((max x.length y.length : Nat) - (dist pNext (wd x) (wd y) : Nat)) t) := by
  unfold DoesC
  w_top off
  k_fill
  intro mean mg mb dp un gd cn cs a ccd cl outer A₀ base h₀ L m s R news hB hF hK hN hT hcs hdp hun hneed hret
  obtain ⟨dx, t1, t2, t3, t4, hself, hdx⟩ := hneed
  replace hN : News h₀ L s.heap ((self, instObj 230 dx) :: (dx, dlDict w t1 t2 t3 t4 true) :: news) := fun p hp => by
    rcases List.mem_cons.mp hp with rfl | hp
    · exact hN _ hself
    · rcases List.mem_cons.mp hp with rfl | hp
      · exact hN _ hdx
      · exact hN _ hp
  k_dflt k_enter
  k_steps
  rename Fr _ _ _ _ => F'
  rename News _ _ _ _ => N'
  exact hret _ _ _ ⟨_, rfl⟩ F' fun p hp => N' p (by simp [hp])
end
end Mine
end
section
open PySem PySem.W PySem.Spec PySem.Calls PyProof.Rows
set_option maxRecDepth 100000
set_option maxHeartbeats 8000000
namespace Mine
theorem sum_ones {xs : List Str} (h : ∀ x ∈ xs, x.length = 1) : (xs.map (·.length)).sum = xs.length := by
  induction xs with
  | nil => rfl
  | cons a r ih => rw [List.map_cons, List.sum_cons, ih fun x hx => h x (List.mem_cons_of_mem _ hx), h a List.mem_cons_self, List.length_cons]; omega
theorem join_ones {sep : Str} (hs : sep.length = 0) {xs : List Str} (h : ∀ x ∈ xs, x.length = 1) : (Txt.join sep xs).length = xs.length := by
  have e0 : Txt.join sep xs = Str.join sep xs := StrLaws.glued_eq_join sep xs
  rw [e0]
  cases xs with
  | nil => rfl
  | cons a r =>
    rw [len_join_cons, hs, Nat.mul_zero, Nat.add_zero]
    exact sum_ones h
/-- what a word's letters are while they are gathered -/
def Ones (i : Nat) (ys : List Value) : Prop := ∃ xs, StrsAre ys xs ∧ xs.length = i ∧ ∀ x ∈ xs, x.length = 1
theorem Ones.snoc {i : Nat} {ys : List Value} {y : Str} {t : Tok} (h : Ones i ys) (hy : y.length = 1) : Ones (i + 1) (ys ++ [.str y t]) := by
  obtain ⟨xs, h1, h2, h3⟩ := h
  refine ⟨xs ++ [y], strs_snoc h1, by simp [h2], fun x hx => ?_⟩
  rcases List.mem_append.mp hx with hx | hx
  · exact h3 x hx
  · rw [List.mem_singleton.mp hx]; exact hy

theorem item_len {x : Str} {k : Int} (h0 : 0 ≤ k) (h1 : k < x.length) : (Txt.item x k).length = 1 := by
  rw [item_at (y := x) (k := k.toNat) (p := k) (by omega) (by omega)]; rfl
theorem joinOnes {prog : Program} {w : World} {A : Around} {E : Value → Shared → Prop} {s : Shared} {h₀ : Heap} {L D : Addr} {ys : List Value} {n : Nat} {news : List (Addr × Obj)} {sep : Str} {t : Tok} {Q : Value → Shared → Prop} (N : News h₀ L s.heap news) (hm : (D, LCg.lst ys) ∈ news) (hy : Ones n ys) (hn : n ≤ 5) (hs : sep.length = 0)
    (h : ∀ x t' k, x.length ≤ 5 → Q (.str x t') { s with toks := k }) : wpAny (model prog w) A (call (.builtin "str.join") [.str sep t, .ref D]) Q E s := by
  obtain ⟨xs, h1, h2, h3⟩ := hy
  refine join_list (items := ys.toArray) ⟨_, (N _ hm).1, rfl, _, rfl⟩ h1 ?_ fun t' k => h _ t' k ?_
  · rw [sum_ones h3, hs]; omega
  · rw [join_ones hs h3]; omega

section
local macro_rules | `(tactic| k_room) => `(tactic| ktr_room)
local macro_rules | `(tactic| cell_enter) => `(tactic| (refine' code_defC ?k1 ?k2 ?k3 ?k4 ?k5 ?kA ?kF ?kK ?k6 ?k7 ?k8 ?k9 ?kB ?kD ?_ ?c2 ?c3 ?c4; (case kA => exact rfl); (case kF => exact rfl); (case kK => assumption); (case k1 => k_asm); (case k2 => k_asm); (case k3 => k_asm); (case k4 => k_asm); (case k5 => k_asm); (case k6 => k_is); (case k7 => k_is); (case k8 => ktr_room); (case k9 => exact BindsTo.of_eq rfl); (case kB => exact rfl); (case kD => decide +kernel); (case c2 => exact rfl); (case c3 => exact rfl); (case c4 => exact rfl); k_whole; intro g' L' h' tk' cells' FG' F' N' Y' B' X' T' l1; (try k_lt l1); k_cells Y'; (try simp only [List.cons_append, List.nil_append] at N'); (try dsimp only); (try k_lift B'); (try k_fold)))
local macro_rules | `(tactic| walk_at "CompSrc") => `(tactic| (refine compStop ?_))
local macro_rules | `(tactic| walk_at "CompEnd") => `(tactic| ((rename Fr _ _ _ _ => F'); (rename News _ _ _ _ => N'); (refine LCg.CompEnd.intro F' N' _ (fun p hp => hp) (by assumption) trivial ⟨Ones.snoc (by assumption) (item_len (fmod_bounds _ (by decide)).1 (by exact (fmod_bounds _ (by decide)).2)), rfl⟩)))
local macro_rules | `(tactic| walk_at "call builtin:str.join") => `(tactic| (k_here; k_dflt (refine' joinOnes ?k1 ?k2 ?k3 ?k4 ?k5 ?_; (case k1 => k_asm); (case k2 => k_mem); (case k3 => assumption); (case k4 => omega); (case k5 => rfl); k_whole); intro x' t' k' hx'))
theorem word_does (w : World) (script : Addr) (vs : List Value) (ns : List Int) (start other : Int) (t1 t2 t3 t4 : Tok) (hI : IntsAre vs ns) (hlen : ns.length ≤ 63) (hs : 0 ≤ start) (hs2 : start ≤ 20) :
  ∀ (mean : ExcName → Option Value) (mg mb : Str → Option Value) (dp un : Nat) (gd : Option (List Code)) (cn : Str) (cs : Scope) (a : Addr) (ccd : Value) (cl : List (Str × Addr)) (outer : List Env) (A₀ : Around) (base h₀ : Heap) (L : Addr) (m : Str → Option Value) (s : Shared) (Q E : Value → Shared → Prop) (news : List (Addr × Obj)),
    Below A₀ base outer h₀ → Fr h₀ L s.heap m → (hd.heap_39 w.params).In h₀ → News h₀ L s.heap news → TopB mean mg mb h₀ → cs.kind = .function → dp + 20 < recursionLimit → un + 40 < cLine → base.IsList script vs.toArray →
    (∀ x t (h' : Heap) (tk' : Nat), x.length ≤ 5 → Fr h₀ L h' m → News h₀ L h' news → Q (.str x t) { s with heap := h', toks := tk' }) →
    wpAny (model PySem.Challenge.rw_br0039_01.row.prog w) (ktrTop dp un gd cn cs L a ccd cl outer) (call (.ref 244) [.ref script, .int start t1, .int 5 t2, .str (Str.ofString "abcB") t3, .int other t4]) Q E s := by
  w_top off
  k_fill
  intro mean mg mb dp un gd cn cs a ccd cl outer A₀ base h₀ L m s Q E news hB hF hK hN hT hcs hdp hun hL hret
  refine wpAny_call ?_
  k_dflt cell_enter
  k_steps
  all_goals unfold CompStop
  all_goals (rename Fr _ _ _ _ => F)
  all_goals (rename News _ _ _ _ => N)
  all_goals (rename IsRange _ _ _ _ _ _ _ _ => hr)
  · have hb := fmod_bounds (ns.getD start.toNat 0) (n := 5 + 1) (by omega)
    generalize (ns.getD start.toNat 0).fmod (5 + 1) = z at hr hb F
    refine LCg.CompSrc.range rfl F N hr (small_one (by omega) (by omega) (by omega) (by omega)) (sizeOne (n := z.toNat) (by omega)) (by rw [sizeLine_eq]; omega) ?_
    intro g'
    refine compJ (fun i ys nw => Ones i ys ∧ nw = _) ?_ ?_ ⟨⟨[], .nil, rfl, fun _ h => (List.not_mem_nil h).elim⟩, rfl⟩
    · rintro i v ys nw I oI C oC D m₂ h tk E' hi ⟨t, rfl⟩ ⟨hys, rfl⟩ hC hx F N off ne
      have off2 := off
      simp only [LCg.Off3] at off
      k_steps
    · rintro ys nw ⟨hys, rfl⟩
      k_steps
      rename Fr _ _ _ _ => F'
      rename News _ _ _ _ => N'
      exact hret _ _ _ _ (by assumption) F' fun p hp => N' p (by simp [hp])
  · have hb := fmod_bounds other (n := 5 + 1) (by omega)
    generalize other.fmod (5 + 1) = z at hr hb F
    refine LCg.CompSrc.range rfl F N hr (small_one (by omega) (by omega) (by omega) (by omega)) (sizeOne (n := z.toNat) (by omega)) (by rw [sizeLine_eq]; omega) ?_
    intro g'
    refine compJ (fun i ys nw => Ones i ys ∧ nw = _) ?_ ?_ ⟨⟨[], .nil, rfl, fun _ h => (List.not_mem_nil h).elim⟩, rfl⟩
    · rintro i v ys nw I oI C oC D m₂ h tk E' hi ⟨t, rfl⟩ ⟨hys, rfl⟩ hC hx F N off ne
      have off2 := off
      simp only [LCg.Off3] at off
      k_steps
    · rintro ys nw ⟨hys, rfl⟩
      k_steps
      rename Fr _ _ _ _ => F'
      rename News _ _ _ _ => N'
      exact hret _ _ _ _ (by assumption) F' fun p hp => N' p (by simp [hp])
end
end Mine
end
section
open PySem PySem.W PySem.Spec PySem.Calls PyProof.Rows
set_option maxRecDepth 100000
set_option maxHeartbeats 8000000
namespace Mine
theorem memA {α : Type} {own base ls : List α} {r p : α} (h : p ∈ r :: (ls ++ (own ++ base))) : p ∈ own ++ (r :: (ls ++ base)) := by
  simp only [List.mem_append, List.mem_cons] at h ⊢
  rcases h with h | h | h | h <;> simp [h]
theorem memB {α : Type} {own base ls : List α} {r p : α} (h : p ∈ own ++ (r :: (ls ++ base))) : p ∈ r :: (ls ++ (own ++ base)) := by
  simp only [List.mem_append, List.mem_cons] at h ⊢
  rcases h with h | h | h | h <;> simp [h]
theorem it_eq {x y : Str} {i j : Nat} (hi : i < x.length) (hj : j < y.length) : (Txt.item x (1 + (i : Int) - 1) == Txt.item y (1 + (j : Int) - 1)) = decide (lt x i = lt y j) := by
  rw [item_at hi (by omega), item_at hj (by omega)]
  by_cases e : lt x i = lt y j
  · simp [e]
  · simp [e]
theorem it_yes {x y : Str} {i j : Nat} (hi : i < x.length) (hj : j < y.length) (h : (Txt.item x (1 + (i : Int) - 1) == Txt.item y (1 + (j : Int) - 1)) = true) : lt x i = lt y j := by
  rw [it_eq hi hj] at h; exact of_decide_eq_true h
theorem it_no {x y : Str} {i j : Nat} (hi : i < x.length) (hj : j < y.length) (h : (Txt.item x (1 + (i : Int) - 1) == Txt.item y (1 + (j : Int) - 1)) = false) : ¬ lt x i = lt y j := by
  rw [it_eq hi hj] at h; exact of_decide_eq_false h
section
local macro_rules | `(tactic| walk_at "no step X1 0") => `(tactic| fail)
local macro_rules | `(tactic| k_room) => `(tactic| ktr_room)
local macro_rules | `(tactic| k_mem) => `(tactic| (refine' List.mem_append_right _ ?_; k_mem))
local macro_rules | `(tactic| walk_at "exec For Name Call cons nil") => `(tactic| (k_here; (rename Fr _ _ _ _ => lF'); (with_unfolding_all refine' For_range lF' ?k1 ?k2 ?_; (case k1 => exact rfl); (case k2 => exact rfl); k_whole)))
local macro_rules | `(tactic| walk_at "CompSrc") => `(tactic| (refine compStop ?_))
local macro_rules | `(tactic| cell_enter) => `(tactic| (refine' code_defC ?k1 ?k2 ?k3 ?k4 ?k5 ?kA ?kF ?kK ?k6 ?k7 ?k8 ?k9 ?kB ?kD ?_ ?c2 ?c3 ?c4; (case kA => exact rfl); (case kF => exact rfl); (case kK => assumption); (case k1 => k_asm); (case k2 => k_asm); (case k3 => k_asm); (case k4 => k_asm); (case k5 => k_asm); (case k6 => k_is); (case k7 => k_is); (case k8 => ktr_room); (case k9 => exact BindsTo.of_eq rfl); (case kB => exact rfl); (case kD => decide +kernel); (case c2 => exact rfl); (case c3 => exact rfl); (case c4 => exact rfl); k_whole; intro g' L' h' tk' cells' FG' F' N' Y' B' X' T' l1; (try k_lt l1); k_cells Y'; (try simp only [List.cons_append, List.nil_append] at N'); (try dsimp only); (try k_lift B'); (try k_fold)))
local macro_rules | `(tactic| walk_at "eval ListComp") => `(tactic| (k_here; k_dflt (refine LCg.ListComp_U (F₀ := by k_asm) (by with_unfolding_all rfl) (by decide) (by rfl) (by decide) (by rfl) ?_)))
local macro_rules | `(tactic| walk_at "exec Assign cons ListComp") => `(tactic| (k_here; k_dflt (refine Assign_CompCell (by k_asm) (by rfl) (by with_unfolding_all rfl) (by with_unfolding_all rfl) (fun _ => rfl) (fun _ => rfl) (by rfl) (by decide) (fun _ _ => rfl) (by rfl) (by rfl) ?_)))
local macro_rules | `(tactic| walk_at "CompEnd") => `(tactic| ((rename Fr _ _ _ _ => F'); (rename News _ _ _ _ => N'); (refine LCg.CompEnd.intro F' N' _ (fun p hp => hp) (by assumption) trivial ?_)))
local macro_rules | `(tactic| k_mem) => `(tactic| exact List.mem_append_left _ (List.mem_of_getElem? (by assumption)))
local macro_rules | `(tactic| walk_at "subscriptTail") => `(tactic| (k_here; (with_reducible show wpAny _ _ (subscriptTail _ _ (Value.ref _) (Value.int _ _)) _ _ _); k_dflt (first | (refine' gridRow ?k1 ?k2 ?k3 ?k4 ?k5 ?k6 ?k7 ?k8 ?_; (case k1 => k_asm); (case k2 => k_mem); (case k3 => assumption); (case k4 => assumption); (case k5 => omega); (case k6 => omega); (case k7 => omega); (case k8 => with_unfolding_all rfl); k_whole; intro a' o' hk' hR') | (refine' rowItem ?k1 ?k2 ?k3 ?k4 ?k5 ?k6 ?k7 ?_; (case k1 => k_asm); (case k2 => k_mem); (case k3 => assumption); (case k4 => omega); (case k5 => omega); (case k6 => omega); (case k7 => with_unfolding_all rfl); k_whole; intro t'))))
local macro_rules | `(tactic| walk_at "call builtin:min") => `(tactic| (k_here; k_dflt (first | (refine' min3 ?hh ?k1 ?k2 ?_; (case hh => exact rfl); (case k1 => k_asm); (case k2 => k_asm); k_whole) | (refine' min2 ?hh ?k1 ?k2 ?_; (case hh => exact rfl); (case k1 => k_asm); (case k2 => k_asm); k_whole)); intro h' tk' t' F' N'; (try k_sweep)))
local macro_rules | `(tactic| walk_at "setItem ref int int") => `(tactic| (k_here; k_dflt (refine' gridSet ?k1 ?k2 ?k3 ?k4 ?k5 ?k6 ?k7 ?k8 ?k9 ?k10 ?_; (case k1 => k_asm); (case k2 => k_asm); (case k3 => assumption); (case k4 => assumption); (case k5 => assumption); (case k6 => omega); (case k7 => omega); (case k8 => omega); (case k9 => assumption); (case k10 => assumption); k_whole); intro h' ls' F' N' hys' hfst' G' S' S2'; (try k_sweep)))
local macro_rules | `(tactic| walk_at "execs cons Assign nil") => `(tactic| (with_reducible refine wpAny_execs_cons ?_))
local macro_rules | `(tactic| walk_at "execs nil") => `(tactic| (with_reducible refine wpAny_execs_nil ?_))
theorem table_does (w : World) (x y : Str) (free : Bool) (tx ty : Tok) (hx : x.length ≤ 5) (hy : y.length ≤ 5) :
    Does w 249 [.str x tx, .str y ty, .bool free] 20 40 (fun _ => True) (fun v => ∃ t, v = .int (dist (pOf free) (rp (lt x) x.length) (rp (lt y) y.length) : Nat) t) := by
  unfold Does
  w_top off
  k_fill
  intro mean mg mb dp un gd cn cs a ccd cl outer A₀ base h₀ L m s Q E news hB hF hK hN hT hcs hdp hun _ hret
  refine wpAny_call ?_
  k_dflt cell_enter
  k_steps
  rename_i g1 L1 h1 tk1 FG F1 B1 X1 T1 l1 co hco N1 h2 tk2 t2 u2 v2 hr F N keep
  refine ⟨_, _, _, _, _, _, x.length + 1, _, (fun i ys nw => ∃ ls, nw = ls ++ ((L1 + 1, co) :: news) ∧ ys = ls.map (fun p => Value.ref p.1) ∧ Grid ls (fun k q => (k : Int) + q) i (y.length + 1) ∧ ∀ p ∈ ls, ∀ q ∈ (L1 + 1, co) :: news, p.1 ≠ q.1), rfl, rfl, F, N, hr, small_one (by omega) (by omega) (by omega) (by omega), sizeOne (by omega), by rw [sizeLine_eq]; omega, ⟨[], rfl, rfl, Grid.nil _ _, fun _ h => (List.not_mem_nil h).elim⟩, ?_, ?_⟩
  · clear hr F N keep N1
    rintro i v ys nw I oI C c oc D h tk E' hi ⟨t, rfl⟩ ⟨ls, rfl, hys, G, hap⟩ hoc F N off hIC hIc hID hCc hCD hcD
    k_steps
    unfold CompStop
    rename Fr _ _ _ _ => F
    rename News _ _ _ _ => N
    rename IsRange _ _ _ _ _ _ _ _ => hr
    refine LCg.CompSrc.range rfl F N hr (small_one (by omega) (by omega) (by omega) (by omega)) (sizeOne (n := y.length + 1) (by omega)) (by rw [sizeLine_eq]; omega) ?_
    intro g2
    refine compJ (fun j zs nw => RowJ i _ j zs nw) ?_ ?_ ⟨rfl, rfl, fun q h => absurd h (Nat.not_lt_zero q)⟩
    · clear hr F N
      rintro j v zs nw I2 oI2 C2 oC2 D2 m2 h tk E2 hj ⟨t2, rfl⟩ H hC2 hx2 F N off2 ne2
      obtain rfl := H.1
      have off3 := off2
      simp only [LCg.Off3] at off2
      k_steps
      exact H.snoc (by omega)
    · rintro zs nw ⟨rfl, hz, hv⟩ D2 h tk F N off1
      have off1' : ∀ p ∈ (I, oI) :: (C, blockDict) :: (c, oc) :: (D, LCg.lst ys) :: (ls ++ ((L1 + 1, co) :: news)), p.1 ≠ D2 := by
        have key : ∀ (l : List (Addr × Obj)), LCg.Off1 D2 l → ∀ p ∈ l, p.1 ≠ D2 := by
          intro l
          induction l with
          | nil => intro _ p hp; exact (List.not_mem_nil hp).elim
          | cons a r ih =>
            intro hl p hp
            rcases List.mem_cons.mp hp with rfl | hp
            · exact hl.1
            · exact ih hl.2 p hp
        exact key _ off1
      refine ⟨h, tk, (ls ++ [(D2, LCg.lst zs)]) ++ ((L1 + 1, co) :: news), rfl, F, fun p hp => N p ?_, fun p hp => ?_, ls ++ [(D2, LCg.lst zs)], rfl, by rw [hys]; simp, G.snoc (rowOfLst hz fun q hq => ?_) fun p hp => off1' p (by simp [hp]), fun p hp q hq => ?_⟩
      · simp only [List.mem_cons, List.mem_append, List.not_mem_nil, or_false] at hp ⊢
        rcases hp with h | h | h | h | (h | h) | h | h <;> simp [h]
      · simp only [List.mem_cons, List.mem_append, List.not_mem_nil, or_false] at hp
        rcases hp with (h | h) | h
        · exact off p (by simp [h])
        · rw [h]; exact ⟨(off1' (I, oI) (by simp)).symm, (off1' (C, blockDict) (by simp)).symm, (off1' (c, oc) (by simp)).symm, (off1' (D, LCg.lst ys) (by simp)).symm⟩
        · exact off p (by rcases h with h | h <;> simp [h])
      · exact hv q hq
      · rcases List.mem_append.mp hp with hp | hp
        · exact hap p hp q hq
        · rw [List.mem_singleton.mp hp]
          exact (off1' q (by rcases List.mem_cons.mp hq with h | h <;> simp [h])).symm
  clear hr F N keep N1
  rintro ys nw R h tk ⟨ls, rfl, hys, G, hap⟩ F N hR
  k_steps
  unfold RangeLoop
  rename Fr _ _ _ _ => F
  rename News _ _ _ _ => N
  rename IsRange _ _ _ _ _ _ _ _ => hr
  refine iterRangeO x.length [Str.ofString "i", Str.ofString "j", Str.ofString "least", Str.ofString "k", Str.ofString "m"]
    (fun i m nx => ∃ ls, nx = (R, LCg.lst ys) :: (ls ++ ((L1 + 1, co) :: news)) ∧ (ys = ls.map fun p => Value.ref p.1) ∧ Grid ls (gridT (pOf free) (lt x) (lt y) i 0) (x.length + 1) (y.length + 1) ∧ RowsApart ls ((L1 + 1, co) :: news) R)
    rfl hr (small_one (by omega) (by omega) (by omega) (by omega)) (sizeOne (by omega)) F N ?_ ?_ ?_
  · exact ⟨ls, rfl, hys, G.mono fun p q _ _ => gridT_start _ _ _ p q, fun p hp => ⟨hR p (List.mem_append_left _ hp), hap p hp⟩⟩
  · clear hr F N G hys hap
    rintro i t m₁ nx h tk own hi hoff ⟨ls, rfl, hys, G, S⟩ hsep F N
    rw [hoff.all] at F
    dsimp only [offMap] at F
    k_steps
    unfold RangeLoop
    rename Fr _ _ _ _ => F
    rename News _ _ _ _ => N
    rename IsRange _ _ _ _ _ _ _ _ => hr
    have Si : RowsApart ls (own ++ ((L1 + 1, co) :: news)) R := fun p hp => ⟨(S p hp).1, fun q hq => (List.mem_append.mp hq).elim (hsep p (List.mem_cons_of_mem _ (List.mem_append_left _ hp)) q) ((S p hp).2 q)⟩
    replace N : News _ _ _ ((R, LCg.lst ys) :: (ls ++ (own ++ ((L1 + 1, co) :: news)))) := fun p hp => N p (memA hp)
    refine iterRangeO y.length [Str.ofString "j", Str.ofString "least", Str.ofString "k", Str.ofString "m"]
      (fun j m nx => ∃ ls, nx = (R, LCg.lst ys) :: (ls ++ (own ++ ((L1 + 1, co) :: news))) ∧ (ys = ls.map fun p => Value.ref p.1) ∧ Grid ls (gridT (pOf free) (lt x) (lt y) i j) (x.length + 1) (y.length + 1) ∧ RowsApart ls (own ++ ((L1 + 1, co) :: news)) R)
      rfl hr (small_one (by omega) (by omega) (by omega) (by omega)) (sizeOne (by omega)) F N ?_ ?_ ?_
    · exact ⟨ls, rfl, hys, G, Si⟩
    · clear hr F N G hys S Si
      rintro j t m₂ nx h tk own2 hj hoff2 ⟨ls, rfl, hys, G, S⟩ hsep2 F N
      rw [hoff2.all] at F
      dsimp only [offMap] at F
      k_steps
      all_goals unfold RangeLoop
      all_goals (rename Fr _ _ _ _ => F)
      all_goals (rename News _ _ _ _ => N)
      all_goals (rename IsRange _ _ _ _ _ _ _ _ => hr)
      all_goals (have hS2 : ∀ p ∈ ls, ∀ q ∈ own2, p.1 ≠ q.1 := fun p hp q hq => hsep2 p (List.mem_cons_of_mem _ (List.mem_append_left _ hp)) q hq)
      · refine iterRangeO i [Str.ofString "least", Str.ofString "k", Str.ofString "m"] (fun k m nx => nx = own2 ++ ((R, LCg.lst ys) :: (ls ++ (own ++ ((L1 + 1, co) :: news)))) ∧ ∃ v t, m (Str.ofString "least") = some (.int v t) ∧ Part free (lt x) (lt y) i j v k 0) rfl hr (small_one (by omega) (by omega) (by omega) (by omega)) (sizeOne (by omega)) F N ?_ ?_ ?_
        · have e0 : (Txt.item x (1 + (i : Int) - 1) == Txt.item y (1 + (j : Int) - 1)) = true := by assumption
          rw [it_eq hi hj] at e0
          have e : lt x i = lt y j := of_decide_eq_true e0
          exact ⟨rfl, _, _, rfl, Part.start (table_base (by simp [e]))⟩
        · clear hr F N
          rintro k t m₃ nx h tk own3 hk hoff3 ⟨rfl, v, tv, hv, HP⟩ hsep3 F N
          obtain ⟨mm, ho1, ho2⟩ := hoff3.val hv
          rw [ho2, ho1.all] at F
          dsimp only [offMap] at F
          clear ho2 hv
          k_steps
          unfold RangeLoop
          rename Fr _ _ _ _ => F
          rename News _ _ _ _ => N
          rename IsRange _ _ _ _ _ _ _ _ => hr
          refine iterRangeO j [Str.ofString "least", Str.ofString "m"]
            (fun mi m nx => nx = own3 ++ (own2 ++ ((R, LCg.lst ys) :: (ls ++ (own ++ ((L1 + 1, co) :: news))))) ∧ ∃ v t, m (Str.ofString "least") = some (.int v t) ∧ Part free (lt x) (lt y) i j v k mi)
            rfl hr (small_one (by omega) (by omega) (by omega) (by omega)) (sizeOne (by omega)) F N ⟨rfl, v, tv, rfl, HP⟩ ?_ ?_
          · clear hr F N HP
            rintro mi t m₄ nx h tk own4 hmi hoff4 ⟨rfl, v, tv, hv, HP⟩ hsep4 F N
            obtain ⟨mm, ho1, ho2⟩ := hoff4.val hv
            rw [ho2, ho1.all] at F
            dsimp only [offMap] at F
            clear ho2 hv
            k_steps
            all_goals (try dsimp only)
            all_goals (rename Fr _ _ _ _ => F')
            all_goals (rename News _ _ _ _ => N')
            · exact TurnEnd.mk_next _ F' N' hsep4 ⟨(by repeat (first | with_reducible exact Off.refl | refine Off.ite (by with_reducible (first | exact List.mem_cons_self | exact (List.mem_cons_of_mem _ List.mem_cons_self) | exact (List.mem_cons_of_mem _ (List.mem_cons_of_mem _ List.mem_cons_self)) | exact (List.mem_cons_of_mem _ (List.mem_cons_of_mem _ (List.mem_cons_of_mem _ List.mem_cons_self))) | exact (List.mem_cons_of_mem _ (List.mem_cons_of_mem _ (List.mem_cons_of_mem _ (List.mem_cons_of_mem _ List.mem_cons_self)))) | exact (List.mem_cons_of_mem _ (List.mem_cons_of_mem _ (List.mem_cons_of_mem _ (List.mem_cons_of_mem _ (List.mem_cons_of_mem _ List.mem_cons_self))))))) ?_)), rfl, _, _, rfl, HP.take hk hmi ⟨it_yes (by omega) hj (by assumption), it_yes hi (by omega) (by assumption), .inl (by assumption)⟩ (by rw [table_cand hk])⟩
            · exact TurnEnd.mk_next _ F' N' hsep4 ⟨(by repeat (first | with_reducible exact Off.refl | refine Off.ite (by with_reducible (first | exact List.mem_cons_self | exact (List.mem_cons_of_mem _ List.mem_cons_self) | exact (List.mem_cons_of_mem _ (List.mem_cons_of_mem _ List.mem_cons_self)) | exact (List.mem_cons_of_mem _ (List.mem_cons_of_mem _ (List.mem_cons_of_mem _ List.mem_cons_self))) | exact (List.mem_cons_of_mem _ (List.mem_cons_of_mem _ (List.mem_cons_of_mem _ (List.mem_cons_of_mem _ List.mem_cons_self)))) | exact (List.mem_cons_of_mem _ (List.mem_cons_of_mem _ (List.mem_cons_of_mem _ (List.mem_cons_of_mem _ (List.mem_cons_of_mem _ List.mem_cons_self))))))) ?_)), rfl, _, _, rfl, HP.take hk hmi ⟨it_yes (by omega) hj (by assumption), it_yes hi (by omega) (by assumption), .inr ⟨by omega, by omega⟩⟩ (by rw [table_cand hk])⟩
            · refine TurnEnd.mk_next _ F' N' hsep4 ⟨(by repeat (first | with_reducible exact Off.refl | refine Off.ite (by with_reducible (first | exact List.mem_cons_self | exact (List.mem_cons_of_mem _ List.mem_cons_self) | exact (List.mem_cons_of_mem _ (List.mem_cons_of_mem _ List.mem_cons_self)) | exact (List.mem_cons_of_mem _ (List.mem_cons_of_mem _ (List.mem_cons_of_mem _ List.mem_cons_self))) | exact (List.mem_cons_of_mem _ (List.mem_cons_of_mem _ (List.mem_cons_of_mem _ (List.mem_cons_of_mem _ List.mem_cons_self)))) | exact (List.mem_cons_of_mem _ (List.mem_cons_of_mem _ (List.mem_cons_of_mem _ (List.mem_cons_of_mem _ (List.mem_cons_of_mem _ List.mem_cons_self))))))) ?_)), rfl, _, _, rfl, HP.skip ?_⟩
              have hf : free = false := by assumption
              rintro ⟨_, _, h | h⟩
              · rw [hf] at h; cases h
              · omega
            · refine TurnEnd.mk_next _ F' N' hsep4 ⟨(by repeat (first | with_reducible exact Off.refl | refine Off.ite (by with_reducible (first | exact List.mem_cons_self | exact (List.mem_cons_of_mem _ List.mem_cons_self) | exact (List.mem_cons_of_mem _ (List.mem_cons_of_mem _ List.mem_cons_self)) | exact (List.mem_cons_of_mem _ (List.mem_cons_of_mem _ (List.mem_cons_of_mem _ List.mem_cons_self))) | exact (List.mem_cons_of_mem _ (List.mem_cons_of_mem _ (List.mem_cons_of_mem _ (List.mem_cons_of_mem _ List.mem_cons_self)))) | exact (List.mem_cons_of_mem _ (List.mem_cons_of_mem _ (List.mem_cons_of_mem _ (List.mem_cons_of_mem _ (List.mem_cons_of_mem _ List.mem_cons_self))))))) ?_)), rfl, _, _, rfl, HP.skip ?_⟩
              have hf : free = false := by assumption
              rintro ⟨_, _, h | h⟩
              · rw [hf] at h; cases h
              · omega
            · refine TurnEnd.mk_next _ F' N' hsep4 ⟨(by repeat (first | with_reducible exact Off.refl | refine Off.ite (by with_reducible (first | exact List.mem_cons_self | exact (List.mem_cons_of_mem _ List.mem_cons_self) | exact (List.mem_cons_of_mem _ (List.mem_cons_of_mem _ List.mem_cons_self)) | exact (List.mem_cons_of_mem _ (List.mem_cons_of_mem _ (List.mem_cons_of_mem _ List.mem_cons_self))) | exact (List.mem_cons_of_mem _ (List.mem_cons_of_mem _ (List.mem_cons_of_mem _ (List.mem_cons_of_mem _ List.mem_cons_self)))) | exact (List.mem_cons_of_mem _ (List.mem_cons_of_mem _ (List.mem_cons_of_mem _ (List.mem_cons_of_mem _ (List.mem_cons_of_mem _ List.mem_cons_self))))))) ?_)), rfl, _, _, rfl, HP.skip ?_⟩
              rintro ⟨_, h, _⟩
              exact it_no hi (j := mi) (by omega) (by assumption) h
            · refine TurnEnd.mk_next _ F' N' hsep4 ⟨(by repeat (first | with_reducible exact Off.refl | refine Off.ite (by with_reducible (first | exact List.mem_cons_self | exact (List.mem_cons_of_mem _ List.mem_cons_self) | exact (List.mem_cons_of_mem _ (List.mem_cons_of_mem _ List.mem_cons_self)) | exact (List.mem_cons_of_mem _ (List.mem_cons_of_mem _ (List.mem_cons_of_mem _ List.mem_cons_self))) | exact (List.mem_cons_of_mem _ (List.mem_cons_of_mem _ (List.mem_cons_of_mem _ (List.mem_cons_of_mem _ List.mem_cons_self)))) | exact (List.mem_cons_of_mem _ (List.mem_cons_of_mem _ (List.mem_cons_of_mem _ (List.mem_cons_of_mem _ (List.mem_cons_of_mem _ List.mem_cons_self))))))) ?_)), rfl, _, _, rfl, HP.skip ?_⟩
              rintro ⟨h, _, _⟩
              exact it_no (i := k) (by omega) hj (by assumption) h
          · clear hr F N HP
            rintro m₅ nx h tk hoff5 ⟨rfl, v, tv, hv, HP⟩ F N
            obtain ⟨mm, ho1, ho2⟩ := hoff5.val hv
            rw [ho2, ho1.all] at F
            dsimp only [offMap] at F
            clear ho2 hv
            k_steps
            try dsimp only
            rename Fr _ _ _ _ => F'
            rename News _ _ _ _ => N'
            exact TurnEnd.mk_next _ F' N' hsep3 ⟨(by repeat (first | with_reducible exact Off.refl | refine Off.ite (by with_reducible (first | exact List.mem_cons_self | exact (List.mem_cons_of_mem _ List.mem_cons_self) | exact (List.mem_cons_of_mem _ (List.mem_cons_of_mem _ List.mem_cons_self)) | exact (List.mem_cons_of_mem _ (List.mem_cons_of_mem _ (List.mem_cons_of_mem _ List.mem_cons_self))) | exact (List.mem_cons_of_mem _ (List.mem_cons_of_mem _ (List.mem_cons_of_mem _ (List.mem_cons_of_mem _ List.mem_cons_self)))) | exact (List.mem_cons_of_mem _ (List.mem_cons_of_mem _ (List.mem_cons_of_mem _ (List.mem_cons_of_mem _ (List.mem_cons_of_mem _ List.mem_cons_self))))))) ?_)), rfl, _, _, rfl, HP.row (Nat.le_refl _)⟩
        · clear hr F N
          rintro m₅ nx h tk hoff5 ⟨rfl, v, tv, hv, HP⟩ F N
          obtain ⟨mm, ho1, ho2⟩ := hoff5.val hv
          rw [ho2, ho1.all] at F
          dsimp only [offMap] at F
          clear ho2 hv
          k_steps
          try dsimp only
          rename Fr _ _ _ _ => F'
          rename News _ _ _ _ => N'
          rename Grid _ _ _ _ => G'
          rename RowsApart _ _ _ => S'
          rename List (Addr × Obj) => ls9
          have hS3 : ∀ p ∈ ls9, ∀ q ∈ own2, p.1 ≠ q.1 := by assumption
          refine TurnEnd.mk_next _ F' N' (fun p hp => ?_) ⟨(by repeat (first | with_reducible exact Off.refl | refine Off.ite (by with_reducible (first | exact List.mem_cons_self | exact (List.mem_cons_of_mem _ List.mem_cons_self) | exact (List.mem_cons_of_mem _ (List.mem_cons_of_mem _ List.mem_cons_self)) | exact (List.mem_cons_of_mem _ (List.mem_cons_of_mem _ (List.mem_cons_of_mem _ List.mem_cons_self))) | exact (List.mem_cons_of_mem _ (List.mem_cons_of_mem _ (List.mem_cons_of_mem _ (List.mem_cons_of_mem _ List.mem_cons_self)))) | exact (List.mem_cons_of_mem _ (List.mem_cons_of_mem _ (List.mem_cons_of_mem _ (List.mem_cons_of_mem _ (List.mem_cons_of_mem _ List.mem_cons_self))))))) ?_)), _, rfl, by assumption, G'.mono fun p q _ _ => ?_, S'⟩
          · rcases List.mem_cons.mp hp with rfl | hp
            · exact hsep2 _ List.mem_cons_self
            rcases List.mem_append.mp hp with hp | hp
            · exact hS3 p hp
            · exact hsep2 p (List.mem_cons_of_mem _ (List.mem_append_right _ hp))
          · rw [gridT_next HP.done]
            have e : (p = (1 + (i : Int)).toNat ∧ (q : Int) = 1 + (j : Int)) ↔ (p = i + 1 ∧ q = j + 1) := by omega
            simp only [e]
      · refine iterRangeO i [Str.ofString "least", Str.ofString "k", Str.ofString "m"] (fun k m nx => nx = own2 ++ ((R, LCg.lst ys) :: (ls ++ (own ++ ((L1 + 1, co) :: news)))) ∧ ∃ v t, m (Str.ofString "least") = some (.int v t) ∧ Part free (lt x) (lt y) i j v k 0) rfl hr (small_one (by omega) (by omega) (by omega) (by omega)) (sizeOne (by omega)) F N ?_ ?_ ?_
        · have e0 : (Txt.item x (1 + (i : Int) - 1) == Txt.item y (1 + (j : Int) - 1)) = false := by assumption
          rw [it_eq hi hj] at e0
          have e : ¬ lt x i = lt y j := of_decide_eq_false e0
          exact ⟨rfl, _, _, rfl, Part.start (table_base (by simp [e]))⟩
        · clear hr F N
          rintro k t m₃ nx h tk own3 hk hoff3 ⟨rfl, v, tv, hv, HP⟩ hsep3 F N
          obtain ⟨mm, ho1, ho2⟩ := hoff3.val hv
          rw [ho2, ho1.all] at F
          dsimp only [offMap] at F
          clear ho2 hv
          k_steps
          unfold RangeLoop
          rename Fr _ _ _ _ => F
          rename News _ _ _ _ => N
          rename IsRange _ _ _ _ _ _ _ _ => hr
          refine iterRangeO j [Str.ofString "least", Str.ofString "m"]
            (fun mi m nx => nx = own3 ++ (own2 ++ ((R, LCg.lst ys) :: (ls ++ (own ++ ((L1 + 1, co) :: news))))) ∧ ∃ v t, m (Str.ofString "least") = some (.int v t) ∧ Part free (lt x) (lt y) i j v k mi)
            rfl hr (small_one (by omega) (by omega) (by omega) (by omega)) (sizeOne (by omega)) F N ⟨rfl, v, tv, rfl, HP⟩ ?_ ?_
          · clear hr F N HP
            rintro mi t m₄ nx h tk own4 hmi hoff4 ⟨rfl, v, tv, hv, HP⟩ hsep4 F N
            obtain ⟨mm, ho1, ho2⟩ := hoff4.val hv
            rw [ho2, ho1.all] at F
            dsimp only [offMap] at F
            clear ho2 hv
            k_steps
            all_goals (try dsimp only)
            all_goals (rename Fr _ _ _ _ => F')
            all_goals (rename News _ _ _ _ => N')
            · exact TurnEnd.mk_next _ F' N' hsep4 ⟨(by repeat (first | with_reducible exact Off.refl | refine Off.ite (by with_reducible (first | exact List.mem_cons_self | exact (List.mem_cons_of_mem _ List.mem_cons_self) | exact (List.mem_cons_of_mem _ (List.mem_cons_of_mem _ List.mem_cons_self)) | exact (List.mem_cons_of_mem _ (List.mem_cons_of_mem _ (List.mem_cons_of_mem _ List.mem_cons_self))) | exact (List.mem_cons_of_mem _ (List.mem_cons_of_mem _ (List.mem_cons_of_mem _ (List.mem_cons_of_mem _ List.mem_cons_self)))) | exact (List.mem_cons_of_mem _ (List.mem_cons_of_mem _ (List.mem_cons_of_mem _ (List.mem_cons_of_mem _ (List.mem_cons_of_mem _ List.mem_cons_self))))))) ?_)), rfl, _, _, rfl, HP.take hk hmi ⟨it_yes (by omega) hj (by assumption), it_yes hi (by omega) (by assumption), .inl (by assumption)⟩ (by rw [table_cand hk])⟩
            · exact TurnEnd.mk_next _ F' N' hsep4 ⟨(by repeat (first | with_reducible exact Off.refl | refine Off.ite (by with_reducible (first | exact List.mem_cons_self | exact (List.mem_cons_of_mem _ List.mem_cons_self) | exact (List.mem_cons_of_mem _ (List.mem_cons_of_mem _ List.mem_cons_self)) | exact (List.mem_cons_of_mem _ (List.mem_cons_of_mem _ (List.mem_cons_of_mem _ List.mem_cons_self))) | exact (List.mem_cons_of_mem _ (List.mem_cons_of_mem _ (List.mem_cons_of_mem _ (List.mem_cons_of_mem _ List.mem_cons_self)))) | exact (List.mem_cons_of_mem _ (List.mem_cons_of_mem _ (List.mem_cons_of_mem _ (List.mem_cons_of_mem _ (List.mem_cons_of_mem _ List.mem_cons_self))))))) ?_)), rfl, _, _, rfl, HP.take hk hmi ⟨it_yes (by omega) hj (by assumption), it_yes hi (by omega) (by assumption), .inr ⟨by omega, by omega⟩⟩ (by rw [table_cand hk])⟩
            · refine TurnEnd.mk_next _ F' N' hsep4 ⟨(by repeat (first | with_reducible exact Off.refl | refine Off.ite (by with_reducible (first | exact List.mem_cons_self | exact (List.mem_cons_of_mem _ List.mem_cons_self) | exact (List.mem_cons_of_mem _ (List.mem_cons_of_mem _ List.mem_cons_self)) | exact (List.mem_cons_of_mem _ (List.mem_cons_of_mem _ (List.mem_cons_of_mem _ List.mem_cons_self))) | exact (List.mem_cons_of_mem _ (List.mem_cons_of_mem _ (List.mem_cons_of_mem _ (List.mem_cons_of_mem _ List.mem_cons_self)))) | exact (List.mem_cons_of_mem _ (List.mem_cons_of_mem _ (List.mem_cons_of_mem _ (List.mem_cons_of_mem _ (List.mem_cons_of_mem _ List.mem_cons_self))))))) ?_)), rfl, _, _, rfl, HP.skip ?_⟩
              have hf : free = false := by assumption
              rintro ⟨_, _, h | h⟩
              · rw [hf] at h; cases h
              · omega
            · refine TurnEnd.mk_next _ F' N' hsep4 ⟨(by repeat (first | with_reducible exact Off.refl | refine Off.ite (by with_reducible (first | exact List.mem_cons_self | exact (List.mem_cons_of_mem _ List.mem_cons_self) | exact (List.mem_cons_of_mem _ (List.mem_cons_of_mem _ List.mem_cons_self)) | exact (List.mem_cons_of_mem _ (List.mem_cons_of_mem _ (List.mem_cons_of_mem _ List.mem_cons_self))) | exact (List.mem_cons_of_mem _ (List.mem_cons_of_mem _ (List.mem_cons_of_mem _ (List.mem_cons_of_mem _ List.mem_cons_self)))) | exact (List.mem_cons_of_mem _ (List.mem_cons_of_mem _ (List.mem_cons_of_mem _ (List.mem_cons_of_mem _ (List.mem_cons_of_mem _ List.mem_cons_self))))))) ?_)), rfl, _, _, rfl, HP.skip ?_⟩
              have hf : free = false := by assumption
              rintro ⟨_, _, h | h⟩
              · rw [hf] at h; cases h
              · omega
            · refine TurnEnd.mk_next _ F' N' hsep4 ⟨(by repeat (first | with_reducible exact Off.refl | refine Off.ite (by with_reducible (first | exact List.mem_cons_self | exact (List.mem_cons_of_mem _ List.mem_cons_self) | exact (List.mem_cons_of_mem _ (List.mem_cons_of_mem _ List.mem_cons_self)) | exact (List.mem_cons_of_mem _ (List.mem_cons_of_mem _ (List.mem_cons_of_mem _ List.mem_cons_self))) | exact (List.mem_cons_of_mem _ (List.mem_cons_of_mem _ (List.mem_cons_of_mem _ (List.mem_cons_of_mem _ List.mem_cons_self)))) | exact (List.mem_cons_of_mem _ (List.mem_cons_of_mem _ (List.mem_cons_of_mem _ (List.mem_cons_of_mem _ (List.mem_cons_of_mem _ List.mem_cons_self))))))) ?_)), rfl, _, _, rfl, HP.skip ?_⟩
              rintro ⟨_, h, _⟩
              exact it_no hi (j := mi) (by omega) (by assumption) h
            · refine TurnEnd.mk_next _ F' N' hsep4 ⟨(by repeat (first | with_reducible exact Off.refl | refine Off.ite (by with_reducible (first | exact List.mem_cons_self | exact (List.mem_cons_of_mem _ List.mem_cons_self) | exact (List.mem_cons_of_mem _ (List.mem_cons_of_mem _ List.mem_cons_self)) | exact (List.mem_cons_of_mem _ (List.mem_cons_of_mem _ (List.mem_cons_of_mem _ List.mem_cons_self))) | exact (List.mem_cons_of_mem _ (List.mem_cons_of_mem _ (List.mem_cons_of_mem _ (List.mem_cons_of_mem _ List.mem_cons_self)))) | exact (List.mem_cons_of_mem _ (List.mem_cons_of_mem _ (List.mem_cons_of_mem _ (List.mem_cons_of_mem _ (List.mem_cons_of_mem _ List.mem_cons_self))))))) ?_)), rfl, _, _, rfl, HP.skip ?_⟩
              rintro ⟨h, _, _⟩
              exact it_no (i := k) (by omega) hj (by assumption) h
          · clear hr F N HP
            rintro m₅ nx h tk hoff5 ⟨rfl, v, tv, hv, HP⟩ F N
            obtain ⟨mm, ho1, ho2⟩ := hoff5.val hv
            rw [ho2, ho1.all] at F
            dsimp only [offMap] at F
            clear ho2 hv
            k_steps
            try dsimp only
            rename Fr _ _ _ _ => F'
            rename News _ _ _ _ => N'
            exact TurnEnd.mk_next _ F' N' hsep3 ⟨(by repeat (first | with_reducible exact Off.refl | refine Off.ite (by with_reducible (first | exact List.mem_cons_self | exact (List.mem_cons_of_mem _ List.mem_cons_self) | exact (List.mem_cons_of_mem _ (List.mem_cons_of_mem _ List.mem_cons_self)) | exact (List.mem_cons_of_mem _ (List.mem_cons_of_mem _ (List.mem_cons_of_mem _ List.mem_cons_self))) | exact (List.mem_cons_of_mem _ (List.mem_cons_of_mem _ (List.mem_cons_of_mem _ (List.mem_cons_of_mem _ List.mem_cons_self)))) | exact (List.mem_cons_of_mem _ (List.mem_cons_of_mem _ (List.mem_cons_of_mem _ (List.mem_cons_of_mem _ (List.mem_cons_of_mem _ List.mem_cons_self))))))) ?_)), rfl, _, _, rfl, HP.row (Nat.le_refl _)⟩
        · clear hr F N
          rintro m₅ nx h tk hoff5 ⟨rfl, v, tv, hv, HP⟩ F N
          obtain ⟨mm, ho1, ho2⟩ := hoff5.val hv
          rw [ho2, ho1.all] at F
          dsimp only [offMap] at F
          clear ho2 hv
          k_steps
          try dsimp only
          rename Fr _ _ _ _ => F'
          rename News _ _ _ _ => N'
          rename Grid _ _ _ _ => G'
          rename RowsApart _ _ _ => S'
          rename List (Addr × Obj) => ls9
          have hS3 : ∀ p ∈ ls9, ∀ q ∈ own2, p.1 ≠ q.1 := by assumption
          refine TurnEnd.mk_next _ F' N' (fun p hp => ?_) ⟨(by repeat (first | with_reducible exact Off.refl | refine Off.ite (by with_reducible (first | exact List.mem_cons_self | exact (List.mem_cons_of_mem _ List.mem_cons_self) | exact (List.mem_cons_of_mem _ (List.mem_cons_of_mem _ List.mem_cons_self)) | exact (List.mem_cons_of_mem _ (List.mem_cons_of_mem _ (List.mem_cons_of_mem _ List.mem_cons_self))) | exact (List.mem_cons_of_mem _ (List.mem_cons_of_mem _ (List.mem_cons_of_mem _ (List.mem_cons_of_mem _ List.mem_cons_self)))) | exact (List.mem_cons_of_mem _ (List.mem_cons_of_mem _ (List.mem_cons_of_mem _ (List.mem_cons_of_mem _ (List.mem_cons_of_mem _ List.mem_cons_self))))))) ?_)), _, rfl, by assumption, G'.mono fun p q _ _ => ?_, S'⟩
          · rcases List.mem_cons.mp hp with rfl | hp
            · exact hsep2 _ List.mem_cons_self
            rcases List.mem_append.mp hp with hp | hp
            · exact hS3 p hp
            · exact hsep2 p (List.mem_cons_of_mem _ (List.mem_append_right _ hp))
          · rw [gridT_next HP.done]
            have e : (p = (1 + (i : Int)).toNat ∧ (q : Int) = 1 + (j : Int)) ↔ (p = i + 1 ∧ q = j + 1) := by omega
            simp only [e]
    · clear hr F N G hys S
      rintro m₅ nx h tk hoff5 ⟨ls, rfl, hys, G, S⟩ F N
      rw [hoff5.all] at F
      dsimp only [offMap] at F
      k_steps
      try dsimp only
      rename Fr _ _ _ _ => F'
      rename News _ _ _ _ => N'
      refine TurnEnd.mk_next ((R, LCg.lst ys) :: (ls ++ ((L1 + 1, co) :: news))) F' (fun p hp => N' p (memB hp)) (fun p hp => ?_) ⟨(by repeat (first | with_reducible exact Off.refl | refine Off.ite (by with_reducible (first | exact List.mem_cons_self | exact (List.mem_cons_of_mem _ List.mem_cons_self) | exact (List.mem_cons_of_mem _ (List.mem_cons_of_mem _ List.mem_cons_self)) | exact (List.mem_cons_of_mem _ (List.mem_cons_of_mem _ (List.mem_cons_of_mem _ List.mem_cons_self))) | exact (List.mem_cons_of_mem _ (List.mem_cons_of_mem _ (List.mem_cons_of_mem _ (List.mem_cons_of_mem _ List.mem_cons_self)))) | exact (List.mem_cons_of_mem _ (List.mem_cons_of_mem _ (List.mem_cons_of_mem _ (List.mem_cons_of_mem _ (List.mem_cons_of_mem _ List.mem_cons_self))))))) ?_)), ls, rfl, hys, G.mono fun p q _ hq => gridT_row hq, fun p hp => ⟨(S p hp).1, fun q hq => (S p hp).2 q (List.mem_append_right _ hq)⟩⟩
      rcases List.mem_cons.mp hp with rfl | hp
      · exact hsep _ List.mem_cons_self
      rcases List.mem_append.mp hp with hp | hp
      · exact fun q hq => (S p hp).2 q (List.mem_append_left _ hq)
      · exact hsep p (List.mem_cons_of_mem _ (List.mem_append_right _ hp))
  · clear hr F N G hys hap
    rintro m₅ nx h tk hoff5 ⟨ls, rfl, hys, G, S⟩ F N
    rw [hoff5.all] at F
    dsimp only [offMap] at F
    k_steps
    rename Fr _ _ _ _ => F'
    rename News _ _ _ _ => N'
    refine hret _ _ _ ⟨_, congrArg (fun v => Value.int v _) ?_⟩ F' fun p hp => N' p (by simp [hp])
    rw [gridT_done (by omega), Int.toNat_natCast, Int.toNat_natCast]
end
end Mine
end
section
open PySem PySem.W PySem.Spec PySem.Calls PyProof.Rows
set_option maxRecDepth 100000
set_option maxHeartbeats 8000000
namespace Mine
theorem tableN_does (w : World) (x y : Str) (tx ty : Tok) (hx : x.length ≤ 5) (hy : y.length ≤ 5) :
    Does w 249 [.str x tx, .str y ty, .bool false] 20 40 (fun _ => True) (fun v => ∃ t, v = .int (dist pNext (wd x) (wd y) : Nat) t) := table_does w x y false tx ty hx hy
theorem tableA_does (w : World) (x y : Str) (tx ty : Tok) (hx : x.length ≤ 5) (hy : y.length ≤ 5) :
    Does w 249 [.str x tx, .str y ty, .bool true] 20 40 (fun _ => True) (fun v => ∃ t, v = .int (dist pAny (wd x) (wd y) : Nat) t) := table_does w x y true tx ty hx hy
/-- the distance by the object's kind -/
noncomputable def dR (r : Bool) (a b : List Nat) : Nat := match r with | true => dist pNext a b | false => dist pAny a b
theorem dlD_does (w : World) (self : Addr) (x y : Str) (tx ty : Tok) (r : Bool) (hx : x.length ≤ 5) (hy : y.length ≤ 5) :
    DoesC w 65 [.ref self, .str x tx, .str y ty] 60 90 (IsDL w self r) (fun v => ∃ t, v = .int (dR r (wd x) (wd y) : Nat) t) := by
  cases r with
  | true => exact nearD_does w self x y tx ty hx hy
  | false => exact farD_does w self x y tx ty hx hy
section
local macro_rules | `(tactic| k_enter) => `(tactic| (refine' code_def ?k1 ?k2 ?k3 ?k4 ?k5 ?kA ?kF ?kK ?k6 ?k7 ?k8 ?k9 ?kB ?_ ?c2 ?c3 ?c4 ?c5; (case kA => exact rfl); (case kF => exact rfl); (case kK => first | exact rfl | assumption); (case k1 => k_asm); (case k2 => k_asm); (case k3 => k_asm); (case k4 => k_asm); (case k5 => k_asm); (case k6 => k_is); (case k7 => k_is); (case k8 => k_room); (case k9 => first | exact BindsTo.of_eq rfl | exact binds_K (by k_in) rfl (by k_is) rfl rfl rfl | fail "k_enter: no rule for these arguments"); (case c5 => decide); (case kB => exact locs rfl); (case c2 => exact rfl); (case c3 => exact rfl); (case c4 => exact rfl); k_whole; intro g' L' h' FG' F' N' B' X' T'; (try dsimp only); (try k_lift B'); (try k_fold)))
local macro_rules | `(tactic| walk_at "getAttr ref") => `(tactic| (k_here; k_dflt (refine' getStatic ?k1 ?k2 ?k3 ?k4 ?k5 ?k6 ?k7 ?k8 ?k9 ?k10 ?k11 ?k12 ?_; (case k1 => k_asm); (case k2 => k_asm); (case k3 => k_inst); (case k4 => k_is); (case k5 => k_is); (case k6 => k_is); (case k7 => k_is); (case k8 => k_is); (case k9 => decide +kernel); (case k10 => k_get); (case k11 => k_is); (case k12 => k_handed); k_whole)))
local macro_rules | `(tactic| walk_at "binaryOp Mod int int") => `(tactic| (k_here; k_dflt (refine' modPlace ?k1 ?_; (case k1 => omega); k_whole); intro p' hp'))
local macro_rules | `(tactic| walk_at "binaryOp Add str str") => `(tactic| (k_here; (with_reducible refine' turnAdd ?k1 ?k2 ?_; (case k1 => omega); (case k2 => assumption); k_whole); intro z' t' k' hz' f1' f2'))
local macro_rules | `(tactic| walk_at "call ref") => `(tactic| (k_here; (with_reducible show wpAny _ _ (call (Value.ref 244) _) _ _ _); k_dflt (refine' word_does _ _ _ _ _ _ _ _ _ _ (by with_reducible assumption) (by omega) (by omega) (by omega) _ _ _ _ _ _ _ _ _ _ _ _ _ _ _ _ _ _ _ _ _ ?k1 ?k2 ?k3 ?k4 ?k5 ?k6 ?k7 ?k8 ?k9 ?_; (case k1 => with_reducible assumption); (case k2 => with_reducible assumption); (case k3 => with_reducible assumption); (case k4 => with_reducible assumption); (case k9 => with_reducible assumption); (case k5 => with_reducible assumption); (case k6 => first | exact rfl | with_reducible assumption); (case k7 => (simp only [depth_deeper, depth_caller]; decide)); (case k8 => (simp only [units_deeper, units_caller, cLine_is]; decide)); k_whole; intro x' t' h' tk' hx' F' N'); (try k_sweep)))
local macro_rules | `(tactic| walk_at "call ref") => `(tactic| (k_here; (with_reducible show wpAny _ _ (call (Value.ref 249) [Value.str _ _, Value.str _ _, Value.bool false]) _ _ _); k_dflt (refine' Does.use (tableN_does _ _ _ _ _ (by with_reducible assumption) (by with_reducible assumption)) ?k1 ?k2 ?k3 ?k4 ?k5 ?k6 ?k7 ?k8 ?k9 ?_; (case k1 => with_reducible assumption); (case k2 => with_reducible assumption); (case k3 => with_reducible assumption); (case k4 => with_reducible assumption); (case k9 => trivial); (case k5 => with_reducible assumption); (case k6 => first | exact rfl | with_reducible assumption); (case k7 => (simp only [depth_deeper, depth_caller]; decide)); (case k8 => (simp only [units_deeper, units_caller, cLine_is]; decide)); k_whole; rintro v' h' tk' ⟨t', hv'⟩ F' N'; subst hv'); (try k_sweep)))
local macro_rules | `(tactic| walk_at "call ref") => `(tactic| (k_here; (with_reducible show wpAny _ _ (call (Value.ref 249) [Value.str _ _, Value.str _ _, Value.bool true]) _ _ _); k_dflt (refine' Does.use (tableA_does _ _ _ _ _ (by with_reducible assumption) (by with_reducible assumption)) ?k1 ?k2 ?k3 ?k4 ?k5 ?k6 ?k7 ?k8 ?k9 ?_; (case k1 => with_reducible assumption); (case k2 => with_reducible assumption); (case k3 => with_reducible assumption); (case k4 => with_reducible assumption); (case k9 => trivial); (case k5 => with_reducible assumption); (case k6 => first | exact rfl | with_reducible assumption); (case k7 => (simp only [depth_deeper, depth_caller]; decide)); (case k8 => (simp only [units_deeper, units_caller, cLine_is]; decide)); k_whole; rintro v' h' tk' ⟨t', hv'⟩ F' N'; subst hv'); (try k_sweep)))
local macro_rules | `(tactic| walk_at "call ref") => `(tactic| (k_here; (with_reducible show wpAny _ _ (call (Value.ref 65) _) _ _ _); k_dflt (refine' Does.use (DoesC.does (mostD_does _ _ _ _ _ _ (by with_reducible assumption) (by with_reducible assumption))) ?k1 ?k2 ?k3 ?k4 ?k5 ?k6 ?k7 ?k8 ?k9 ?_; (case k1 => with_reducible assumption); (case k2 => with_reducible assumption); (case k3 => with_reducible assumption); (case k4 => with_reducible assumption); (case k9 => exact ⟨_, _, _, _, by with_reducible repeat (first | exact List.mem_cons_self | refine List.mem_cons_of_mem _ ?_), by repeat (first | exact List.mem_cons_self | refine List.mem_cons_of_mem _ ?_)⟩); (case k5 => with_reducible assumption); (case k6 => first | exact rfl | with_reducible assumption); (case k7 => (simp only [depth_deeper, depth_caller]; decide)); (case k8 => (simp only [units_deeper, units_caller, cLine_is]; decide)); k_whole; rintro v' h' tk' ⟨t', hv'⟩ F' N'; subst hv'); (try k_sweep)))
local macro_rules | `(tactic| walk_at "call ref") => `(tactic| (k_here; (with_reducible show wpAny _ _ (call (Value.ref 65) _) _ _ _); k_dflt (refine' Does.use (DoesC.does (dlD_does _ _ _ _ _ _ _ (by with_reducible assumption) (by with_reducible assumption))) ?k1 ?k2 ?k3 ?k4 ?k5 ?k6 ?k7 ?k8 ?k9 ?_; (case k1 => with_reducible assumption); (case k2 => with_reducible assumption); (case k3 => with_reducible assumption); (case k4 => with_reducible assumption); (case k9 => exact ⟨_, _, _, _, _, by with_reducible repeat (first | exact List.mem_cons_self | refine List.mem_cons_of_mem _ ?_), by repeat (first | exact List.mem_cons_self | refine List.mem_cons_of_mem _ ?_)⟩); (case k5 => with_reducible assumption); (case k6 => first | exact rfl | with_reducible assumption); (case k7 => (simp only [depth_deeper, depth_caller]; decide)); (case k8 => (simp only [units_deeper, units_caller, cLine_is]; decide)); k_whole; rintro v' h' tk' ⟨t', hv'⟩ F' N'; (dsimp only [dR] at hv'); subst hv'); (try k_sweep)))
local macro_rules | `(tactic| walk_at "call ref") => `(tactic| (k_here; (with_reducible show wpAny _ _ (call (Value.ref 72) _) _ _ _); k_dflt (refine' Does.use (DoesC.does (nearS_does _ _ _ _ _ _ (by with_reducible assumption) (by with_reducible assumption))) ?k1 ?k2 ?k3 ?k4 ?k5 ?k6 ?k7 ?k8 ?k9 ?_; (case k1 => with_reducible assumption); (case k2 => with_reducible assumption); (case k3 => with_reducible assumption); (case k4 => with_reducible assumption); (case k9 => exact ⟨_, _, _, _, _, by with_reducible repeat (first | exact List.mem_cons_self | refine List.mem_cons_of_mem _ ?_), by repeat (first | exact List.mem_cons_self | refine List.mem_cons_of_mem _ ?_)⟩); (case k5 => with_reducible assumption); (case k6 => first | exact rfl | with_reducible assumption); (case k7 => (simp only [depth_deeper, depth_caller]; decide)); (case k8 => (simp only [units_deeper, units_caller, cLine_is]; decide)); k_whole; rintro v' h' tk' ⟨t', hv'⟩ F' N'; subst hv'); (try k_sweep)))
local macro_rules | `(tactic| walk_at "ite") => `(tactic| (with_reducible refine ite_zero ?_))
local macro_rules | `(tactic| walk_at "ite") => `(tactic| (with_reducible refine ite_via ?_))
local macro_rules | `(tactic| walk_at "ite") => `(tactic| (with_reducible refine ite_le1 ?_))
local macro_rules | `(tactic| walk_at "ite") => `(tactic| (with_reducible refine ite_le2 ?_))
local macro_rules | `(tactic| walk_at "ite") => `(tactic| (with_reducible refine ite_back1 ?_))
local macro_rules | `(tactic| walk_at "ite") => `(tactic| (with_reducible refine ite_back2 ?_))
local macro_rules | `(tactic| walk_at "ite") => `(tactic| (with_reducible refine ite_self ?_))
local macro_rules | `(tactic| walk_at "ite") => `(tactic| (with_reducible refine ite_empty ?_ ?_ <;> intro _))
local macro_rules | `(tactic| walk_at "ite") => `(tactic| (with_reducible refine ite_due (by assumption) (by assumption) ?_ ?_ <;> intro _ _))
theorem lawx : PySem.Challenge.rw_br0039_01.Holds := hd (by
  w_top off
  k_go0
  all_goals try k_fold
  k_steps)
end
end Mine
end
theorem PySem.Challenge.cw_br0039_01_holds : PySem.Challenge.rw_br0039_01.Holds :=
  Mine.lawx
