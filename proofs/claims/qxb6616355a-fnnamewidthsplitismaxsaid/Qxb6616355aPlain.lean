/-
  THE PLAIN LAWS of the name widths: trees of depth at most d as nested lists (kind, length of the name, children). No Go in sight.
-/
import Derived.KernelRfl
namespace Go.Proofs.Qxb6616355a.Plain

/-- Lists of nodes of depth at most d. -/
def T : Nat → Type
  | 0 => Unit
  | d + 1 => List (Int × Nat × T d)

/-- zzTreeBytes over one list, f for the children. -/
def tbl {α : Type} (f : α → Int → Int) : List (Int × Nat × α) → Int → Int
  | [], acc => acc
  | e :: r, acc =>
    if 1048576 < (e.2.1 : Int) then 1048577
    else if 1048576 < acc + (48 + (e.2.1 : Int)) then acc + (48 + (e.2.1 : Int))
    else if 1048576 < f e.2.2 (acc + (48 + (e.2.1 : Int))) then f e.2.2 (acc + (48 + (e.2.1 : Int)))
    else tbl f r (f e.2.2 (acc + (48 + (e.2.1 : Int))))

def tb : (d : Nat) → T d → Int → Int
  | 0, _, acc => acc
  | d + 1, l, acc => tbl (tb d) l acc

/-- The bytes of a list: 48 a node plus its name, all depths. -/
def szl {α : Type} (f : α → Nat) : List (Int × Nat × α) → Nat
  | [] => 0
  | e :: r => 48 + e.2.1 + f e.2.2 + szl f r

def sz : (d : Nat) → T d → Nat
  | 0, _ => 0
  | d + 1, l => szl (sz d) l

theorem tbl_eq {α : Type} (f : α → Int → Int) (g : α → Nat) (h : ∀ x acc, 0 ≤ acc → f x acc ≤ 1048576 → f x acc = acc + g x) :
    ∀ (l : List (Int × Nat × α)) (acc : Int), 0 ≤ acc → tbl f l acc ≤ 1048576 → tbl f l acc = acc + szl g l
  | [], acc, _, _ => by simp [tbl, szl]
  | e :: r, acc, h0, hle => by
    unfold tbl at hle ⊢
    by_cases c1 : 1048576 < (e.2.1 : Int)
    · rw [if_pos c1] at hle; omega
    · rw [if_neg c1] at hle ⊢
      by_cases c2 : 1048576 < acc + (48 + (e.2.1 : Int))
      · rw [if_pos c2] at hle; omega
      · rw [if_neg c2] at hle ⊢
        by_cases c3 : 1048576 < f e.2.2 (acc + (48 + (e.2.1 : Int)))
        · rw [if_pos c3] at hle; omega
        · rw [if_neg c3] at hle ⊢
          have e1 := h e.2.2 (acc + (48 + (e.2.1 : Int))) (by omega) (by omega)
          have e2 := tbl_eq f g h r (f e.2.2 (acc + (48 + (e.2.1 : Int)))) (by omega) hle
          rw [e2, e1, show szl g (e :: r) = 48 + e.2.1 + g e.2.2 + szl g r from rfl]
          omega

theorem tb_eq : ∀ (d : Nat) (l : T d) (acc : Int), 0 ≤ acc → tb d l acc ≤ 1048576 → tb d l acc = acc + sz d l
  | 0, _, acc, _, _ => by simp [tb, sz]
  | d + 1, l, acc, h0, hle => tbl_eq (tb d) (sz d) (tb_eq d) l acc h0 hle

theorem tbl_bound {α : Type} (f : α → Int → Int) (h : ∀ x acc, 0 ≤ acc → acc ≤ 1048576 → 0 ≤ f x acc ∧ f x acc ≤ 2097200) :
    ∀ (l : List (Int × Nat × α)) (acc : Int), 0 ≤ acc → acc ≤ 1048576 → 0 ≤ tbl f l acc ∧ tbl f l acc ≤ 2097200
  | [], acc, _, _ => by unfold tbl; omega
  | e :: r, acc, h0, hle => by
    unfold tbl
    by_cases c1 : 1048576 < (e.2.1 : Int)
    · rw [if_pos c1]; omega
    · rw [if_neg c1]
      by_cases c2 : 1048576 < acc + (48 + (e.2.1 : Int))
      · rw [if_pos c2]; omega
      · rw [if_neg c2]
        have e1 := h e.2.2 (acc + (48 + (e.2.1 : Int))) (by omega) (by omega)
        by_cases c3 : 1048576 < f e.2.2 (acc + (48 + (e.2.1 : Int)))
        · rw [if_pos c3]; exact e1
        · rw [if_neg c3]
          exact tbl_bound f h r _ (by omega) (by omega)

theorem tb_bound : ∀ (d : Nat) (l : T d) (acc : Int), 0 ≤ acc → acc ≤ 1048576 → 0 ≤ tb d l acc ∧ tb d l acc ≤ 2097200
  | 0, _, acc, _, _ => by unfold tb; omega
  | d + 1, l, acc, h0, hle => tbl_bound (tb d) (tb_bound d) l acc h0 hle

/-- The greatest of m and the list's elements, each raised by 6. -/
def deep : Int → List Int → Int
  | m, [] => m
  | m, x :: r => deep (max m (x + 6)) r

/-- One round of nameWidth. -/
def stepW {α : Type} (f : α → List Int) (m : Int) (e : Int × Nat × α) : Int :=
  if e.1 = 4 then deep (max m ((e.2.1 : Int) + 1)) (f e.2.2) else max m ((e.2.1 : Int) + 1)

def foldW {α : Type} (f : α → List Int) : Int → List (Int × Nat × α) → Int
  | m, [] => m
  | m, e :: r => foldW f (stepW f m e) r

/-- The width of a list, and the widths of its nodes' children. -/
def W : (d : Nat) → T d → Int × List Int
  | 0, _ => (0, [])
  | d + 1, l => (foldW (fun x => (W d x).2) 0 l, List.map (fun e : Int × Nat × T d => (W d e.2.2).1) l)

theorem deep_max (m m' : Int) : ∀ l : List Int, deep (max m m') l = max m (deep m' l)
  | [] => rfl
  | x :: r => by
    unfold deep
    rw [show max (max m m') (x + 6) = max m (max m' (x + 6)) from by omega]
    exact deep_max m _ r

theorem step_max {α : Type} (f : α → List Int) (m m' : Int) (e : Int × Nat × α) : stepW f (max m m') e = max m (stepW f m' e) := by
  unfold stepW
  split
  · rw [show max (max m m') ((e.2.1 : Int) + 1) = max m (max m' ((e.2.1 : Int) + 1)) from by omega]
    exact deep_max m _ _
  · omega

theorem fold_max {α : Type} (f : α → List Int) (m m' : Int) : ∀ l : List (Int × Nat × α), foldW f (max m m') l = max m (foldW f m' l)
  | [] => rfl
  | e :: r => by
    unfold foldW
    rw [step_max]
    exact fold_max f m _ r

theorem fold_append {α : Type} (f : α → List Int) (m : Int) : ∀ (l r : List (Int × Nat × α)), foldW f m (l ++ r) = foldW f (foldW f m l) r
  | [], _ => rfl
  | e :: l, r => by
    show foldW f (stepW f m e) (l ++ r) = foldW f (foldW f (stepW f m e) l) r
    exact fold_append f _ l r

theorem deep_ge (m : Int) : ∀ l : List Int, m ≤ deep m l
  | [] => Int.le_refl _
  | x :: r => by
    unfold deep
    have := deep_ge (max m (x + 6)) r
    omega

theorem step_ge {α : Type} (f : α → List Int) (m : Int) (e : Int × Nat × α) : max m ((e.2.1 : Int) + 1) ≤ stepW f m e := by
  unfold stepW
  split
  · exact deep_ge _ _
  · exact Int.le_refl _

theorem fold_ge {α : Type} (f : α → List Int) (m : Int) : ∀ l : List (Int × Nat × α), m ≤ foldW f m l
  | [] => Int.le_refl _
  | e :: r => by
    unfold foldW
    have h1 := step_ge f m e
    have h2 := fold_ge f (stepW f m e) r
    omega

/-- THE LAW: cut anywhere, the whole's width is the greater of the parts'. -/
theorem fold_split {α : Type} (f : α → List Int) (l : List (Int × Nat × α)) (k : Nat) : foldW f 0 l = max (foldW f 0 (l.take k)) (foldW f 0 (l.drop k)) := by
  have h := fold_append f 0 (l.take k) (l.drop k)
  rw [List.take_append_drop] at h
  rw [h]
  have h0 := fold_ge f 0 (l.take k)
  rw [show foldW f 0 (l.take k) = max (foldW f 0 (l.take k)) 0 from by omega, fold_max]
  omega

/-- The longest top-level name plus one, over the first nodes. -/
def topl {α : Type} : Int → List (Int × Nat × α) → Int
  | m, [] => m
  | m, e :: r => topl (max m ((e.2.1 : Int) + 1)) r

theorem topl_le {α : Type} (f : α → List Int) : ∀ (l : List (Int × Nat × α)) (m m' : Int), m ≤ m' → topl m l ≤ foldW f m' l
  | [], _, _, h => h
  | e :: r, m, m', h => by
    unfold topl foldW
    have := step_ge f m' e
    exact topl_le f r _ _ (by omega)

theorem topl_eq {α : Type} (f : α → List Int) : ∀ (l : List (Int × Nat × α)) (m : Int), (∀ e ∈ l, e.1 ≠ 4) → topl m l = foldW f m l
  | [], _, _ => rfl
  | e :: r, m, h => by
    unfold topl foldW
    rw [show stepW f m e = max m ((e.2.1 : Int) + 1) from by
      unfold stepW
      rw [if_neg (h e (List.mem_cons_self ..))]]
    exact topl_eq f r _ (fun x hx => h x (List.mem_cons_of_mem _ hx))

theorem topl_append {α : Type} : ∀ (l r : List (Int × Nat × α)) (m : Int), topl m (l ++ r) = topl (topl m l) r
  | [], _, _ => rfl
  | e :: l, r, m => by
    show topl _ (l ++ r) = topl (topl _ l) r
    exact topl_append l r _

/-! ### bounds -/
theorem deep_le (m B : Int) : ∀ l : List Int, m ≤ B → (∀ x ∈ l, x + 6 ≤ B) → deep m l ≤ B
  | [], h, _ => h
  | x :: r, h, hx => by
    unfold deep
    have h1 := hx x (List.mem_cons_self ..)
    exact deep_le _ B r (by omega) (fun y hy => hx y (List.mem_cons_of_mem _ hy))

theorem fold_le {α : Type} (f : α → List Int) (g : α → Nat) (h : ∀ (x : α), ∀ y ∈ f x, y + 6 ≤ g x) :
    ∀ (l : List (Int × Nat × α)) (m B : Int), m ≤ B → (szl g l : Int) ≤ B → foldW f m l ≤ B
  | [], _, _, hm, _ => hm
  | e :: r, m, B, hm, hs => by
    unfold szl at hs
    unfold foldW
    refine fold_le f g h r _ B ?_ (by omega)
    unfold stepW
    split
    · exact deep_le _ B _ (by omega) (fun y hy => by have := h e.2.2 y hy; omega)
    · omega

theorem szl_mem {α : Type} (g : α → Nat) : ∀ (l : List (Int × Nat × α)) (e : Int × Nat × α), e ∈ l → 48 + e.2.1 + g e.2.2 ≤ szl g l
  | [], _, h => by cases h
  | x :: r, e, h => by
    unfold szl
    rcases List.mem_cons.1 h with rfl | h
    · omega
    · have := szl_mem g r e h; omega

theorem szl_length {α : Type} (g : α → Nat) : ∀ (l : List (Int × Nat × α)), 48 * l.length ≤ szl g l
  | [] => by simp
  | x :: r => by
    have := szl_length g r
    unfold szl; simp; omega

theorem W_bounds : ∀ (d : Nat) (l : T d), (W d l).1 ≤ sz d l ∧ ∀ y ∈ (W d l).2, y + 6 ≤ sz d l
  | 0, _ => by simp [W, sz]
  | d + 1, l => by
    refine ⟨fold_le _ (sz d) (fun x => (W_bounds d x).2) l 0 (szl (sz d) l) (by omega) (Int.le_refl _), fun y hy => ?_⟩
    obtain ⟨e, he, rfl⟩ := List.mem_map.1 hy
    have h1 := szl_mem (sz d) l e he
    have h2 := (W_bounds d e.2.2).1
    show (W d e.2.2).1 + 6 ≤ ((szl (sz d) l : Nat) : Int)
    omega

theorem W_pos : ∀ (d : Nat) (l : T d), 0 ≤ (W d l).1
  | 0, _ => by simp [W]
  | _ + 1, _ => fold_ge _ _ _

end Go.Proofs.Qxb6616355a.Plain
