/-
  THE PLAIN LAW of scripts of makes and forgets: under each name the map has the last hold that entered, unless that very hold was forgotten since; and how many entries it has.
-/
import Derived.Test.Qxb6616530aForget
namespace Go.Proofs.Qxb6616530a
open Go.RowKit
set_option linter.unusedVariables false

/-- A script: names, 'is a forget', 'is stale'; tg: which make a forget names (-1: none). -/
def LastReg (S : Nat → ByteArray) (F T : Nat → Bool) (k : Nat) (s : ByteArray) (r : Nat) : Prop :=
  r < k ∧ F r = false ∧ T r = false ∧ S r = s ∧ ∀ i, r < i → i < k → F i = false → T i = false → S i ≠ s

def Killed (tg : Nat → Int) (k r : Nat) : Prop := ∃ j, r < j ∧ j < k ∧ tg j = (r : Int)

def Alive (S : Nat → ByteArray) (F T : Nat → Bool) (tg : Nat → Int) (k : Nat) (s : ByteArray) (r : Nat) : Prop := LastReg S F T k s r ∧ ¬ Killed tg k r

theorem reg_uniq {S : Nat → ByteArray} {F T : Nat → Bool} {k : Nat} {s : ByteArray} {i j : Nat} (hi : LastReg S F T k s i) (hj : LastReg S F T k s j) : i = j := by
  rcases Nat.lt_trichotomy i j with h | h | h
  · exact absurd hj.2.2.2.1 (hi.2.2.2.2 j h hj.1 hj.2.1 hj.2.2.1)
  · exact h
  · exact absurd hi.2.2.2.1 (hj.2.2.2.2 i h hi.1 hi.2.1 hi.2.2.1)

/-- The keys of D are names of the script. -/
def Keyset (D : DataW Unit) (S : Nat → ByteArray) (k : Nat) : Prop := ∃ es, D = .map es ∧ ∀ q ∈ es, ∃ i, i < k ∧ q.1 = key (S i)

structure Inv (D : DataW Unit) (S : Nat → ByteArray) (F T : Nat → Bool) (tg : Nat → Int) (H : Nat → Nat) (k : Nat) : Prop where
  live : ∀ s r, Alive S F T tg k s r → Maps.has D (key s) = true ∧ D.atKey (key s) .nil = .lit (.int .i64 (H r))
  dead : ∀ s, (∀ r, ¬ Alive S F T tg k s r) → Maps.has D (key s) = false
  keys : Keyset D S k

theorem inv_start (S : Nat → ByteArray) (F T : Nat → Bool) (tg : Nat → Int) (H : Nat → Nat) : Inv (.map []) S F T tg H 0 :=
  ⟨fun _ _ h => absurd h.1.1 (Nat.not_lt_zero _), fun _ _ => rfl, [], rfl, by simp⟩

theorem mem_insert {x q : Lit × DataW Unit} : ∀ l : List (Lit × DataW Unit), q ∈ DataW.insert x l → q = x ∨ q ∈ l
  | [] => fun h => by simpa [DataW.insert] using h
  | y :: r => fun h => by
    unfold DataW.insert at h
    split at h
    · simpa using h
    · rcases List.mem_cons.1 h with h | h
      · right; rw [h]; exact List.mem_cons_self ..
      · rcases mem_insert r h with h | h
        · left; exact h
        · right; exact List.mem_cons_of_mem _ h

theorem keyset_mono {D : DataW Unit} {S : Nat → ByteArray} {k k' : Nat} (h : Keyset D S k) (hk : k ≤ k') : Keyset D S k' := by
  obtain ⟨es, rfl, he⟩ := h
  exact ⟨es, rfl, fun q hq => by obtain ⟨i, hi, e⟩ := he q hq; exact ⟨i, by omega, e⟩⟩

theorem keyset_put {D : DataW Unit} {S : Nat → ByteArray} {k : Nat} (h : Keyset D S k) (d : DataW Unit) : Keyset (D.put (key (S k)) d) S (k + 1) := by
  obtain ⟨es, rfl, he⟩ := h
  refine ⟨_, rfl, fun q hq => ?_⟩
  rcases mem_insert _ hq with h | h
  · exact ⟨k, by omega, by rw [h]⟩
  · obtain ⟨i, hi, e⟩ := he q (List.mem_filter.1 h).1
    exact ⟨i, by omega, e⟩

theorem keyset_del {D : DataW Unit} {S : Nat → ByteArray} {k : Nat} (h : Keyset D S k) (kl : Lit) : Keyset (D.del kl) S k := by
  obtain ⟨es, rfl, he⟩ := h
  exact ⟨_, rfl, fun q hq => he q (List.mem_filter.1 hq).1⟩

theorem killed_succ {tg : Nat → Int} {k r : Nat} (h : tg k ≠ (r : Int)) : Killed tg (k + 1) r ↔ Killed tg k r := by
  constructor
  · rintro ⟨j, h1, h2, h3⟩
    refine ⟨j, h1, ?_, h3⟩
    rcases Nat.lt_or_eq_of_le (Nat.le_of_lt_succ h2) with h' | h'
    · exact h'
    · subst h'; exact absurd h3 h
  · rintro ⟨j, h1, h2, h3⟩
    exact ⟨j, h1, by omega, h3⟩

theorem reg_succ {S : Nat → ByteArray} {F T : Nat → Bool} {k : Nat} {s : ByteArray} {r : Nat} (hk : F k = true ∨ T k = true ∨ S k ≠ s) : LastReg S F T (k + 1) s r ↔ LastReg S F T k s r := by
  constructor
  · rintro ⟨h1, h2, h3, h4, h5⟩
    have hrk : r < k := by
      rcases Nat.lt_or_eq_of_le (Nat.le_of_lt_succ h1) with h' | h'
      · exact h'
      · subst h'
        rcases hk with h | h | h
        · rw [h] at h2; cases h2
        · rw [h] at h3; cases h3
        · exact absurd h4 h
    exact ⟨hrk, h2, h3, h4, fun i hi hik => h5 i hi (by omega)⟩
  · rintro ⟨h1, h2, h3, h4, h5⟩
    refine ⟨by omega, h2, h3, h4, fun i hi hik hF hT => ?_⟩
    rcases Nat.lt_or_eq_of_le (Nat.le_of_lt_succ hik) with h' | h'
    · exact h5 i hi h' hF hT
    · subst h'
      rcases hk with h | h | h
      · rw [h] at hF; cases hF
      · rw [h] at hT; cases hT
      · exact h

section
variable {D : DataW Unit} {S : Nat → ByteArray} {F T : Nat → Bool} {tg : Nat → Int} {H H' : Nat → Nat} {k : Nat}

/-- A step that leaves the map alone: a stale make, a forget of a hold that never entered, a forget of a hold that is not the live one. -/
theorem inv_same (h : Inv D S F T tg H k) (hk : F k = true ∨ T k = true) (ht : ∀ s r, Alive S F T tg k s r → tg k ≠ (r : Int)) (hH : ∀ j, j < k → H' j = H j) : Inv D S F T tg H' (k + 1) := by
  have hreg : ∀ s r, LastReg S F T (k + 1) s r ↔ LastReg S F T k s r := fun s r => reg_succ (by rcases hk with h | h; exact Or.inl h; exact Or.inr (Or.inl h))
  have hal : ∀ s r, Alive S F T tg (k + 1) s r ↔ Alive S F T tg k s r := by
    intro s r
    constructor
    · rintro ⟨h1, h2⟩
      refine ⟨(hreg s r).1 h1, fun hK => h2 ?_⟩
      obtain ⟨j, a, b, c⟩ := hK
      exact ⟨j, a, by omega, c⟩
    · rintro ⟨h1, h2⟩
      exact ⟨(hreg s r).2 h1, fun hK => h2 ((killed_succ (ht s r ⟨h1, h2⟩)).1 hK)⟩
  refine ⟨fun s r ha => ?_, fun s hd => h.dead s fun r ha => hd r ((hal s r).2 ha), keyset_mono h.keys (Nat.le_succ k)⟩
  have ha' := (hal s r).1 ha
  rw [hH r ha'.1.1]
  exact h.live s r ha'

/-- A make that enters. -/
theorem inv_put (h : Inv D S F T tg H k) (hF : F k = false) (hT : T k = false) (ht : ∀ r : Nat, tg k ≠ (r : Int)) (hH : ∀ j, j < k → H' j = H j) (hs : (S k).size ≤ maxLen) :
    Inv (D.put (key (S k)) (.lit (.int .i64 (H' k)))) S F T tg H' (k + 1) := by
  have hm : Maps.IsMap D := by obtain ⟨es, e, _⟩ := h.keys; exact ⟨es, e⟩
  have hk := key_lit hs
  have hself : LastReg S F T (k + 1) (S k) k := ⟨by omega, hF, hT, rfl, fun i hi hik => by omega⟩
  have hnk : ¬ Killed tg (k + 1) k := fun ⟨j, h1, h2, _⟩ => by omega
  refine ⟨fun s r ha => ?_, fun s hd => ?_, keyset_put h.keys _⟩
  · by_cases e : S k = s
    · subst e
      have : r = k := reg_uniq ha.1 hself
      subst this
      exact ⟨Maps.has_put_same hm hk _, Maps.atKey_put_same hm hk _ _⟩
    · have hne : key s ≠ key (S k) := fun e' => e (key_inj e'.symm)
      have ha' : Alive S F T tg k s r := ⟨(reg_succ (Or.inr (Or.inr e))).1 ha.1, fun hK => ha.2 ((killed_succ (ht r)).2 hK)⟩
      rw [Maps.has_put_other hne, Maps.atKey_put_other hne, hH r ha'.1.1]
      exact h.live s r ha'
  · by_cases e : S k = s
    · subst e
      exact absurd ⟨hself, hnk⟩ (hd k)
    · have hne : key s ≠ key (S k) := fun e' => e (key_inj e'.symm)
      rw [Maps.has_put_other hne]
      exact h.dead s fun r ha => hd r ⟨(reg_succ (Or.inr (Or.inr e))).2 ha.1, fun hK => ha.2 ((killed_succ (ht r)).1 hK)⟩

/-- A forget of the live hold m of its name. -/
theorem inv_del {m : Nat} (h : Inv D S F T tg H k) (hF : F k = true) (ht : tg k = (m : Int)) (hm : Alive S F T tg k (S k) m) (hH : ∀ j, j < k → H' j = H j) : Inv (D.del (key (S k))) S F T tg H' (k + 1) := by
  have hreg : ∀ s r, LastReg S F T (k + 1) s r ↔ LastReg S F T k s r := fun s r => reg_succ (Or.inl hF)
  have hal : ∀ s r, Alive S F T tg (k + 1) s r → Alive S F T tg k s r ∧ r ≠ m := by
    rintro s r ⟨h1, h2⟩
    have h1' := (hreg s r).1 h1
    refine ⟨⟨h1', fun hK => h2 ?_⟩, fun e => h2 ?_⟩
    · obtain ⟨j, a, b, c⟩ := hK
      exact ⟨j, a, by omega, c⟩
    · subst e
      exact ⟨k, h1'.1, by omega, ht⟩
  refine ⟨fun s r ha => ?_, fun s hd => ?_, keyset_mono (keyset_del h.keys _) (Nat.le_succ k)⟩
  · obtain ⟨ha', hne'⟩ := hal s r ha
    have e : S k ≠ s := fun e => by
      subst e
      exact hne' (reg_uniq ha'.1 hm.1)
    have hne : key s ≠ key (S k) := fun e' => e (key_inj e'.symm)
    rw [Maps.has_del_other hne, Maps.atKey_del_other hne, hH r ha'.1.1]
    exact h.live s r ha'
  · by_cases e : S k = s
    · subst e; exact Maps.has_del_same
    · have hne : key s ≠ key (S k) := fun e' => e (key_inj e'.symm)
      rw [Maps.has_del_other hne]
      refine h.dead s fun r ha => hd r ⟨(hreg s r).2 ha.1, fun hK => ha.2 ?_⟩
      refine (killed_succ (fun e' => ?_)).1 hK
      rw [ht] at e'
      have : m = r := by omega
      subst this
      exact e (by rw [← ha.1.2.2.2.1, hm.1.2.2.2.1])

/-- What stands under a name. -/
theorem inv_under_live (h : Inv D S F T tg H k) {s : ByteArray} {r : Nat} (ha : Alive S F T tg k s r) : under D s = .pointer (some ⟨H r, 0, none⟩) := by
  unfold under; rw [(h.live s r ha).2]; simp [ptrOf]
theorem inv_under_dead (h : Inv D S F T tg H k) {s : ByteArray} (hd : ∀ r, ¬ Alive S F T tg k s r) : under D s = .pointer none := by
  unfold under; rw [Maps.atKey_of_not_has (h.dead s hd)]; rfl

end

/-! ### how many entries -/
/-- Is k the first index of its name? -/
def fst (S : Nat → ByteArray) (k : Nat) : Bool := (List.range k).all fun i => !((S i).data.toList == (S k).data.toList)

theorem fst_true {S : Nat → ByteArray} {k : Nat} (h : ∀ i, i < k → S i ≠ S k) : fst S k = true := by
  unfold fst
  rw [List.all_eq_true]
  intro i hi
  have h1 := h i (List.mem_range.1 hi)
  have h2 : (S i).data.toList ≠ (S k).data.toList := fun e => h1 (key_inj (by unfold key; rw [e]))
  rw [Bool.not_eq_true', beq_eq_false_iff_ne]
  exact h2
theorem fst_false {S : Nat → ByteArray} {k i : Nat} (hi : i < k) (h : S i = S k) : fst S k = false := by
  unfold fst
  rw [List.all_eq_false]
  exact ⟨i, List.mem_range.2 hi, by simp [h]⟩

/-- How many of the first k indices are the first of their name, with an entry in D. -/
def cnt (D : DataW Unit) (S : Nat → ByteArray) : Nat → Nat
  | 0 => 0
  | k + 1 => cnt D S k + (if fst S k && Maps.has D (key (S k)) then 1 else 0)

theorem cnt_del {D : DataW Unit} {S : Nat → ByteArray} {s : ByteArray} : ∀ (k : Nat), (∀ i, i < k → S i ≠ s) → cnt (D.del (key s)) S k = cnt D S k
  | 0, _ => rfl
  | k + 1, h => by
    have hne : key (S k) ≠ key s := fun e => h k (by omega) (key_inj e)
    unfold cnt
    rw [cnt_del k (fun i hi => h i (by omega)), Maps.has_del_other hne]

theorem cnt_le (D : DataW Unit) (S : Nat → ByteArray) : ∀ k, cnt D S k ≤ k
  | 0 => Nat.le_refl _
  | k + 1 => by
    have := cnt_le D S k
    unfold cnt
    split <;> omega

theorem has_of_mem {es : List (Lit × DataW Unit)} {q : Lit × DataW Unit} {s : ByteArray} (hq : q ∈ es) (e : q.1 = key s) (hs : s.size ≤ maxLen) : Maps.has (.map es) (key s) = true := by
  rw [Maps.has_eq, List.any_eq_true]
  exact ⟨q, hq, by rw [e]; exact WideAt.sameKey_self (key_lit hs)⟩

/-- THE COUNT: a map whose keys are names of the script has as many entries as names have one. -/
theorem size_cnt {S : Nat → ByteArray} (n : Nat) (hs : ∀ i, i < n → (S i).size ≤ maxLen) : ∀ (k : Nat), k ≤ n → ∀ (D : DataW Unit), Maps.Tidy D → Keyset D S k → Maps.size D = cnt D S k := by
  intro k
  induction k with
  | zero =>
    intro _ D _ hk
    obtain ⟨es, rfl, he⟩ := hk
    cases es with
    | nil => rfl
    | cons q r => obtain ⟨i, hi, _⟩ := he q (List.mem_cons_self ..); omega
  | succ k ih =>
    intro hkn D tD hk
    by_cases hf : ∀ i, i < k → S i ≠ S k
    · cases hh : Maps.has D (key (S k)) with
      | true =>
        have hk' : Keyset (D.del (key (S k))) S k := by
          obtain ⟨es, rfl, he⟩ := hk
          refine ⟨_, rfl, fun q hq => ?_⟩
          obtain ⟨i, hi, e⟩ := he q (List.mem_filter.1 hq).1
          rcases Nat.lt_or_eq_of_le (Nat.le_of_lt_succ hi) with h | h
          · exact ⟨i, h, e⟩
          · subst h
            have hq2 := (List.mem_filter.1 hq).2
            rw [e, WideAt.sameKey_self (key_lit (hs i (by omega)))] at hq2
            cases hq2
        have h1 := ih (by omega) _ (tD.del _) hk'
        rw [cnt_del k hf] at h1
        have h2 := Maps.size_del (k := key (S k)) tD
        rw [hh] at h2
        unfold cnt
        rw [fst_true hf, hh]
        simp at h2 ⊢
        omega
      | false =>
        have hk' : Keyset D S k := by
          obtain ⟨es, rfl, he⟩ := hk
          refine ⟨es, rfl, fun q hq => ?_⟩
          obtain ⟨i, hi, e⟩ := he q hq
          rcases Nat.lt_or_eq_of_le (Nat.le_of_lt_succ hi) with h | h
          · exact ⟨i, h, e⟩
          · subst h
            rw [has_of_mem hq e (hs i (by omega))] at hh
            cases hh
        unfold cnt
        rw [hh, ih (by omega) D tD hk']
        simp
    · have ⟨i, hi, hsi⟩ : ∃ i, i < k ∧ S i = S k := Classical.byContradiction fun hc => hf fun i hi e => hc ⟨i, hi, e⟩
      have hk' : Keyset D S k := by
        obtain ⟨es, rfl, he⟩ := hk
        refine ⟨es, rfl, fun q hq => ?_⟩
        obtain ⟨x, hx, e⟩ := he q hq
        rcases Nat.lt_or_eq_of_le (Nat.le_of_lt_succ hx) with h | h
        · exact ⟨x, h, e⟩
        · subst h
          exact ⟨i, hi, by rw [e, hsi]⟩
      unfold cnt
      rw [fst_false hi hsi, ih (by omega) D tD hk']
      simp

end Go.Proofs.Qxb6616530a
