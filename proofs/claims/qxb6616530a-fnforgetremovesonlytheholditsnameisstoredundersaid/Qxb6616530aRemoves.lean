/-
  THE WALK OF THE LAW FnForgetRemovesOnlyTheHoldItsNameIsStoredUnder, and its plain law on the two maps.
-/
import Derived.Test.Qxb6616530aState
namespace Go.Proofs.Qxb6616530a
open Go.RowKit
set_option linter.unusedVariables false

/-- j is the last index below k whose name is s. -/
def LastIs (S : Nat → ByteArray) (k : Nat) (s : ByteArray) (j : Nat) : Prop := j < k ∧ S j = s ∧ ∀ i, j < i → i < k → S i ≠ s

theorem last_ex (S : Nat → ByteArray) : ∀ (k i : Nat), i < k → ∃ j, LastIs S k (S i) j := by
  intro k
  induction k with
  | zero => intro i hi; omega
  | succ k ih =>
    intro i hi
    by_cases e : S k = S i
    · exact ⟨k, by omega, e, fun x hx hk => by omega⟩
    · have hik : i < k := by
        rcases Nat.lt_or_eq_of_le (Nat.le_of_lt_succ hi) with h | h
        · exact h
        · exact absurd (by rw [h]) e
      obtain ⟨j, hj, hs, hl⟩ := ih i hik
      refine ⟨j, by omega, hs, fun x hx hk => ?_⟩
      by_cases hxk : x = k
      · rw [hxk]; exact e
      · exact hl x hx (by omega)

theorem last_uniq {S : Nat → ByteArray} {k : Nat} {s : ByteArray} {i j : Nat} (hi : LastIs S k s i) (hj : LastIs S k s j) : i = j := by
  rcases Nat.lt_trichotomy i j with h | h | h
  · exact absurd hj.2.1 (hi.2.2 j h hj.1)
  · exact h
  · exact absurd hi.2.1 (hj.2.2 i h hi.1)

/-- What the two maps hold after k rounds. -/
structure Mk (D E : DataW Unit) (S : Nat → ByteArray) (H : Nat → Nat) (k : Nat) : Prop where
  same : ∀ kl, Maps.has D kl = Maps.has E kl
  size : Maps.size D = Maps.size E
  last : ∀ s j, LastIs S k s j → D.atKey (key s) .nil = .lit (.int .i64 (H j)) ∧ E.atKey (key s) (.lit (.int .i64 0)) = .lit (.int .i64 j)

theorem mk_start (S : Nat → ByteArray) (H : Nat → Nat) : Mk (.map []) (.map []) S H 0 := ⟨fun _ => rfl, rfl, fun _ _ h => absurd h.1 (Nat.not_lt_zero _)⟩

theorem mk_step {D E : DataW Unit} {S : Nat → ByteArray} {H H' : Nat → Nat} {k : Nat} (h : Mk D E S H k) (tD : Maps.Tidy D) (tE : Maps.Tidy E) (hs : (S k).size ≤ maxLen) (hH : ∀ j, j < k → H' j = H j) :
    Mk (D.put (key (S k)) (.lit (.int .i64 (H' k)))) (E.put (key (S k)) (.lit (.int .i64 k))) S H' (k + 1) := by
  have hk := key_lit hs
  refine ⟨fun kl => ?_, ?_, fun s j hj => ?_⟩
  · by_cases e : kl = key (S k)
    · rw [e, Maps.has_put_same tD.isMap hk, Maps.has_put_same tE.isMap hk]
    · rw [Maps.has_put_other e, Maps.has_put_other e]; exact h.same kl
  · rw [Maps.size_put tD, Maps.size_put tE, h.same, h.size]
  · by_cases e : S k = s
    · have hjk : j = k := by
        rcases Nat.lt_or_eq_of_le (Nat.le_of_lt_succ hj.1) with hlt | heq
        · exact absurd e (hj.2.2 k hlt (Nat.lt_succ_self k))
        · exact heq
      subst hjk
      rw [← e]
      exact ⟨Maps.atKey_put_same tD.isMap hk _ _, Maps.atKey_put_same tE.isMap hk _ _⟩
    · have hjk : j < k := by
        rcases Nat.lt_or_eq_of_le (Nat.le_of_lt_succ hj.1) with hlt | heq
        · exact hlt
        · subst heq; exact absurd hj.2.1 e
      have hne : key s ≠ key (S k) := fun e' => e (key_inj e'.symm)
      rw [Maps.atKey_put_other hne, Maps.atKey_put_other hne, hH j hjk]
      exact h.last s j ⟨hjk, hj.2.1, fun i h1 h2 => hj.2.2 i h1 (by omega)⟩

theorem ptrOf_block (b : Nat) : ptrOf (.lit (.int .i64 b)) = .pointer (some ⟨b, 0, none⟩) := by simp [ptrOf]

/-- THE PLAIN LAW: what one forget of hold kk leaves, and that a second leaves the same. -/
theorem plain_forget {D E : DataW Unit} {S : Nat → ByteArray} {H : Nat → Nat} {n kk jj : Nat} (h : Mk D E S H n) (tD : Maps.Tidy D) (hkk : kk < n) (hinj : ∀ i j, i < n → j < n → H i = H j → i = j) (hjj : LastIs S n (S kk) jj) :
    let D1 := forgot D (S kk) (H kk)
    (∀ i, i < n → E.atKey (key (S i)) (.lit (.int .i64 0)) = .lit (.int .i64 i) → under D1 (S i) = if i = kk then .pointer none else .pointer (some ⟨H i, 0, none⟩)) ∧
    (Maps.size D1 : Int) = (Maps.size E : Int) - (if ((jj : Int) == (kk : Int)) = true then 1 else 0) ∧ forgot D1 (S kk) (H kk) = D1 ∧
    under D (S kk) = .pointer (some ⟨H jj, 0, none⟩) ∧ (under D1 (S kk) = .pointer none ∨ under D1 (S kk) = .pointer (some ⟨H jj, 0, none⟩)) := by
  have hu : under D (S kk) = .pointer (some ⟨H jj, 0, none⟩) := by unfold under; rw [(h.last _ _ hjj).1, ptrOf_block]
  have hself : ∀ i, i < n → E.atKey (key (S i)) (.lit (.int .i64 0)) = .lit (.int .i64 i) → LastIs S n (S i) i := by
    intro i hi he
    obtain ⟨j, hj⟩ := last_ex S n i hi
    have := (h.last _ _ hj).2
    rw [this] at he
    have hji : j = i := by
      have : (j : Int) = (i : Int) := by simpa using he
      omega
    rw [hji] at hj; exact hj
  by_cases e : jj = kk
  · subst e
    have hD1 : forgot D (S jj) (H jj) = D.del (key (S jj)) := by unfold forgot; rw [hu]; simp [eqv]
    have hhas : Maps.has D (key (S jj)) = true := by
      cases hc : Maps.has D (key (S jj)) with
      | true => rfl
      | false =>
        have h1 := Maps.atKey_of_not_has hc .nil
        rw [(h.last _ _ hjj).1] at h1
        cases h1
    have hnil : under (D.del (key (S jj))) (S jj) = .pointer none := by unfold under; rw [Maps.atKey_del_same]; rfl
    simp only [hD1]
    refine ⟨fun i hi he => ?_, ?_, ?_, hu, Or.inl hnil⟩
    · by_cases eij : i = jj
      · rw [if_pos eij, eij]; exact hnil
      · rw [if_neg eij]
        have hi' := hself i hi he
        have hne : key (S i) ≠ key (S jj) := fun e' => by
          have := key_inj e'
          rw [this] at hi'
          exact eij (last_uniq hi' hjj)
        unfold under
        rw [Maps.atKey_del_other hne, (h.last _ _ hi').1, ptrOf_block]
    · have := Maps.size_del (k := key (S jj)) tD
      rw [hhas, h.size] at this
      simp at this ⊢
      omega
    · unfold forgot; rw [hnil]; simp [eqv]
  · have hHne : H jj ≠ H kk := fun e' => e (hinj jj kk hjj.1 hkk e')
    have hD1 : forgot D (S kk) (H kk) = D := by unfold forgot; rw [hu]; simp [eqv, hHne]
    simp only [hD1]
    refine ⟨fun i hi he => ?_, ?_, trivial, hu, Or.inr hu⟩
    · have hi' := hself i hi he
      have eik : i ≠ kk := fun e' => by rw [e'] at hi'; exact e (last_uniq hjj hi')
      rw [if_neg eik]
      unfold under
      rw [(h.last _ _ hi').1, ptrOf_block]
    · have e' : ((jj : Int) == (kk : Int)) = false := by simp; omega
      rw [e', h.size]; simp

/-! ### the walk -/
theorem ptr_ne {a b : Nat} (h : a ≠ b) : Value.pointer (some ⟨a, 0, none⟩) ≠ .pointer (some ⟨b, 0, none⟩) := fun e => h (by injection e with e; injection e with e; injection e)

theorem info35 : (Try.prog.info? 35).map (fun i => (i.zero, i.size, i.bytes)) = some (some (.pointer none), 1, 8) := by kernel_rfl

theorem make35 (n : Nat) (hn : n ≤ 4096) (w : World) :
    (Instr.makeSlice 33 (.int .i64 (n : Int)) (.int .i64 (n : Int))).run Try.prog w = .ok (.slice (some ⟨w.heap.size, 0, none⟩) n n) (w.alloc (.cells (madeCells #[.pointer none] n) 35)) :=
  run_make_row' (P := Try.prog) 33 35 (.pointer none) 8 Try.underlying33 info35 rfl .i64 .i64 n (by omega) (by omega) w

/-- The holds made so far: distinct blocks from base on, each with its name. -/
structure Mades (w : World) (base : Nat) (S : Nat → ByteArray) (H : Nat → Nat) (k : Nat) : Prop where
  at_ : ∀ j, j < k → HoldAt w (H j) (S j) ∧ base ≤ H j
  up : ∀ i j, i < j → j < k → H i < H j

theorem Mades.fr {w w' : World} {base x y k : Nat} {S : Nat → ByteArray} {H : Nat → Nat} (h : Mades w base S H k) (hf : Fr w w' x y) (hx : x < base) (hy : y < base) : Mades w' base S H k :=
  ⟨fun j hj => ⟨(h.at_ j hj).1.fr hf (by have := (h.at_ j hj).2; omega) (by have := (h.at_ j hj).2; omega), (h.at_ j hj).2⟩, h.up⟩

theorem Mades.inj {w : World} {base n : Nat} {S : Nat → ByteArray} {H : Nat → Nat} (h : Mades w base S H n) (i j : Nat) (hi : i < n) (hj : j < n) (e : H i = H j) : i = j := by
  rcases Nat.lt_trichotomy i j with hlt | heq | hgt
  · have := h.up i j hlt hj; omega
  · exact heq
  · have := h.up j i hgt hi; omega

/-- One more hold in a new block. -/
theorem mades_step {w w' : World} {base k p : Nat} {S : Nat → ByteArray} {H : Nat → Nat} (h : Mades w base S H k) (hk : Mades w' base S H k) (hp : HoldAt w' p (S k)) (hb : base ≤ p) (hw : w.heap.size ≤ p) :
    Mades w' base S (fun j => if j = k then p else H j) (k + 1) := by
  refine ⟨fun j hj => ?_, fun i j hij hj => ?_⟩
  · by_cases e : j = k
    · subst e; simp only [if_true]; exact ⟨hp, hb⟩
    · simp only [if_neg e]; exact hk.at_ j (by omega)
  · have hi : i ≠ k := by omega
    simp only [if_neg hi]
    by_cases e : j = k
    · subst e; simp only [if_true]
      have := (h.at_ i hij).1.lt
      omega
    · simp only [if_neg e]; exact h.up i j hij (by omega)

/-- All that holds at the loop's head after k rounds (L, bm: the Locker and its map; Hb: the holds' row; bl: the last map; base: whence the holds lie). -/
structure At5 (wr : World) (L bm Hb bl base n k : Nat) (S : Nat → ByteArray) (H : Nat → Nat) (D E : DataW Unit) : Prop where
  lk : Lk wr L bm
  row : wr.rowIs Hb 35 n (ptrs H k)
  mades : Mades wr base S H k
  od : wr.ownsMap Try.prog 9 ptrElem bm k D
  oe : wr.ownsMap Try.prog 9 (plainElem Try.prog 3) bl k E
  maps : Mk D E S H k

theorem ptrs_step (H : Nat → Nat) (k p j : Nat) : (if j = k then Value.pointer (some ⟨p, 0, none⟩) else ptrs H k j) = ptrs (fun x => if x = k then p else H x) (k + 1) j := by
  unfold ptrs
  by_cases e : j = k
  · subst e; simp
  · by_cases h : j < k
    · simp [e, h, Nat.lt_succ_of_lt h]
    · have h' : ¬ j < k + 1 := by omega
      simp [e, h, h']

/-- What a round does to all that: the new hold's block, its store into the row, its entry, the last map's entry. -/
theorem at5_step {wr w2 w3 w4 : World} {L bm Hb bl base n k : Nat} {S : Nat → ByteArray} {H : Nat → Nat} {D E : DataW Unit} (h : At5 wr L bm Hb bl base n k S H D E)
    (hs : (S k).size ≤ maxLen) (hLb : L < base) (hbb : bm < base) (hHb : Hb < base) (hlb : bl < base) (hLH : L ≠ Hb) (hbH : bm ≠ Hb) (hlH : bl ≠ Hb) (hLl : L ≠ bl) (hbl : bm ≠ bl) (hbase : base ≤ wr.heap.size)
    (f2 : Fr wr w2 Hb Hb) (hh : HoldAt w2 wr.heap.size (S k)) (r2 : w2.rowIs Hb 35 n (fun j => if j = k then .pointer (some ⟨wr.heap.size, 0, none⟩) else ptrs H k j))
    (o3 : w3.ownsMap Try.prog 9 ptrElem bm (k + 1) (D.put (key (S k)) (.lit (.int .i64 wr.heap.size)))) (f3 : Fr w2 w3 bm bm)
    (o4 : w4.ownsMap Try.prog 9 (plainElem Try.prog 3) bl (k + 1) (E.put (key (S k)) (.lit (.int .i64 k)))) (f4 : Fr w3 w4 bl bl) :
    At5 w4 L bm Hb bl base n (k + 1) S (fun x => if x = k then wr.heap.size else H x) (D.put (key (S k)) (.lit (.int .i64 wr.heap.size))) (E.put (key (S k)) (.lit (.int .i64 k))) := by
  have hne := h.lk.ne
  have m4 : Mades w4 base S H k := ((h.mades.fr f2 hHb hHb).fr f3 hbb hbb).fr f4 hlb hlb
  refine ⟨((h.lk.fr f2 hLH hLH).fr f3 hne hne).fr f4 hLl hLl, ?_, ?_, owns_fr o3 f4 hbl hbl, o4, ?_⟩
  · have r3 := r2.of_block (f3.block Hb r2.lt (Ne.symm hbH) (Ne.symm hbH))
    have r4 := r3.of_block (f4.block Hb r3.lt (Ne.symm hlH) (Ne.symm hlH))
    exact r4.congr fun j _ => ptrs_step H k wr.heap.size j
  · exact mades_step h.mades m4 ((hh.fr f3 (by omega) (by omega)).fr f4 (by omega) (by omega)) hbase (Nat.le_refl _)
  · have := mk_step (H' := fun x => if x = k then wr.heap.size else H x) h.maps (h.od.tidy law9) (h.oe.tidy law9) hs (fun j hj => by simp only [if_neg (Nat.ne_of_lt hj)])
    simpa using this

set_option maxHeartbeats 4000000 in
set_option maxRecDepth 100000 in
theorem law5_row (b off n cap : Nat) (k : Int) (S : Nat → ByteArray) (w : World) (hn : n ≤ 9223372036854775807) (hb : b < w.heap.size) (hN : Hid (Names w b off n S)) :
    Calls Try.prog 5 #[.slice (some ⟨b, off, none⟩) n cap, .int .i64 k] w fun e w' => e = .returned (.bool true) ∧ Below w.heap.size w w' := by
  have HB : Hid (Calls Try.prog 19 #[.slice (some ⟨b, off, none⟩) n cap, .int .i64 k] w fun e w' => ByPost n S w e w') := bytes_any b off n cap k S w hn hN
  by_cases h4 : 4096 < n
  · go_enter Try.func5, Try.ntmps5
    go_wp2_with fail
    refine HB.out.mono ?_
    rintro e w' ⟨q, rfl, hw, _⟩
    subst hw
    cases q
    · go_wp2_with fail
      go_ret
      exact ⟨rfl, Below.refl _ _⟩
    · go_wp2_with fail
      go_ret
      exact ⟨rfl, Below.refl _ _⟩
  · have hmm := @run_makeMap Try.prog
    have hmk := make35 n (by omega)
    go_enter Try.func5, Try.ntmps5
    go_wp2_with fail
    refine HB.out.mono ?_
    rintro e w' ⟨q, rfl, hw, hsz⟩
    subst hw
    cases q
    · go_wp2_with fail
      go_ret
      exact ⟨rfl, Below.refl _ _⟩
    · have HSZ : Hid (∀ i, i < n → (S i).size ≤ 1048576) := hsz rfl
      clear hsz HB
      go_wp2_with fail
      go_loop [5, 6] (fun t i => ∃ j : Nat, ∃ c : Int, j ≤ n ∧ i = .int .i64 j ∧ t = .int .i64 c ∧ 0 ≤ c ∧ c ≤ 1048576) (fun _ i => n - (intOf i).toNat)
      case atStart => exact ⟨0, _, Nat.zero_le _, rfl, rfl, by omega, by omega⟩
      case round =>
        obtain ⟨j, c, hj, rfl, rfl, hc0, hc1⟩ := hrel
        by_cases hlt : j < n
        · have hlt' : (j : Int) < (n : Int) := by omega
          obtain ⟨c0, hm⟩ := hN.out j hlt
          have hs1 := HSZ.out j hlt
          clear hm
          generalize S j = s at *
          by_cases h3 : 1048576 < c + (s.size : Int)
          · go_wp2_with fail
            go_ret
            exact ⟨rfl, Below.refl _ _⟩
          · go_wp2_with fail
            go_round
            case rel => exact ⟨j + 1, _, by omega, by go_num, rfl, by omega, by omega⟩
            case measure => simp [intOf]; omega
        · clear HSZ
          by_cases hk0 : k < 0
          · go_wp2_with fail
            go_ret
            exact ⟨rfl, Below.refl _ _⟩
          · by_cases hk1 : (n : Int) ≤ k
            · go_wp2_with fail
              go_ret
              exact ⟨rfl, Below.refl _ _⟩
            · obtain ⟨kk, rfl⟩ := Int.eq_ofNat_of_zero_le (show 0 ≤ k by omega)
              have hbw := hb
              go_wp2_with fail
              refine (newlocker_any _ _).mono ?_
              rintro e w1 ⟨rfl, hlk1, hod1, hb1, hsz1⟩
              have hmy : At5 ((w1.alloc (.cells (madeCells #[.pointer none] n) 35)).alloc (.map #[] 0)) (w'.heap.size + 1) w'.heap.size w1.heap.size (w1.heap.size + 1) (w1.heap.size + 2) n 0 S (fun _ => 0) (.map []) (.map []) := by
                refine ⟨(hlk1.fr (Fr.alloc _ _ 0 0) ?_ ?_).fr (Fr.alloc _ _ 0 0) ?_ ?_, ((World.rowIs_made w1 (.pointer none) n 35).congr fun j _ => by simp [ptrs]).alloc _, ⟨fun j hj => absurd hj (Nat.not_lt_zero j), fun i j _ hj => absurd hj (Nat.not_lt_zero j)⟩, (hod1.alloc _).alloc _, ?_, mk_start S _⟩
                all_goals first | omega | skip
                have := World.ownsMap_made (H := Unit) (w1.alloc (.cells (madeCells #[.pointer none] n) 35)) Try.prog 9 (plainElem Try.prog 3)
                simpa using this
              have HM : Hid (At5 ((w1.alloc (.cells (madeCells #[.pointer none] n) 35)).alloc (.map #[] 0)) (w'.heap.size + 1) w'.heap.size w1.heap.size (w1.heap.size + 1) (w1.heap.size + 2) n 0 S (fun _ => 0) (.map []) (.map [])) := hmy
              clear hmy hlk1 hod1
              have hb2 : Below w'.heap.size w' ((w1.alloc (.cells (madeCells #[.pointer none] n) 35)).alloc (.map #[] 0)) := (hb1.alloc hb1.size _).alloc (by have := hb1.size; simp; omega) _
              generalize hLe : w'.heap.size + 1 = L at *
              generalize hHbe : w1.heap.size = Hb at *
              have hL0 : w'.heap.size < L := by omega
              have hLH : L < Hb := by omega
              have HH : Hid (w1.heap.size = Hb) := hHbe
              clear hLe hk0 hlt hj hc0 hc1 hb1 hsz1
              go_wp2_with fail
              clear hHbe hmk hmm
              go_loopw [10] (fun i wr => ∃ j : Nat, ∃ H : Nat → Nat, ∃ D E : DataW Unit, j ≤ n ∧ i = .int .i64 j ∧ At5 wr L w'.heap.size Hb (Hb + 1) (Hb + 2) n j S H D E ∧ Below w'.heap.size w' wr ∧ Hb + 2 ≤ wr.heap.size) (fun i _ => n - (intOf i).toNat)
              case atStart => exact ⟨0, _, _, _, Nat.zero_le _, rfl, HM.out, hb2, by simp [HH.out]⟩
              case round =>
                obtain ⟨j, H, D, E, hj, rfl, hat, hbr, hszr⟩ := hrel
                have HA : Hid (At5 wr L w'.heap.size Hb (Hb + 1) (Hb + 2) n j S H D E) := hat
                clear HM hb2
                by_cases hlt : j < n
                · have hlt' : (j : Int) < (n : Int) := by omega
                  have hj0 : (0 : Int) ≤ (j : Int) := by omega
                  obtain ⟨c0, hm⟩ := hN.out j hlt
                  replace c0 := (hbr.cell (p := ⟨b, off + j, none⟩) hb).trans c0
                  have r0 := hat.row.cell hlt
                  have f0 := hat.row.frozen j
                  have hHlt : Hb < wr.heap.size := by omega
                  have hbwr : b < wr.heap.size := Nat.lt_of_lt_of_le hb hbr.size
                  generalize hpj : ptrs H j j = v0 at r0
                  clear hpj hat
                  have HSJ : Hid ((S j).size ≤ maxLen) := hm
                  clear hm
                  generalize hse : S j = s at c0
                  have HSE : Hid (S j = s) := hse
                  clear hse
                  go_wp2_with fail
                  refine (newhold_any L s _).mono ?_
                  rintro e w2 ⟨ch, hch, rfl, rfl⟩
                  go_wp2_with fail
                  have f2 : Fr wr ((wr.setCell ⟨Hb, j, none⟩ (.pointer (some ⟨wr.heap.size, 0, none⟩))).alloc (.cells ch 86)) Hb Hb := (Fr.set _ _ _ _ _).trans (Fr.alloc _ _ _ _)
                  have hh2 : HoldAt ((wr.setCell ⟨Hb, j, none⟩ (.pointer (some ⟨wr.heap.size, 0, none⟩))).alloc (.cells ch 86)) wr.heap.size s := by
                    refine ⟨ch, ?_, hch⟩
                    have := Deep.blk_alloc_new (wr.setCell ⟨Hb, j, none⟩ (.pointer (some ⟨wr.heap.size, 0, none⟩))) (.cells ch 86)
                    simpa using this
                  have r2 : ((wr.setCell ⟨Hb, j, none⟩ (.pointer (some ⟨wr.heap.size, 0, none⟩))).alloc (.cells ch 86)).rowIs Hb 35 n (fun x => if x = j then .pointer (some ⟨wr.heap.size, 0, none⟩) else ptrs H j x) := (HA.out.row.set j _).alloc _
                  have hsm : s.size ≤ maxLen := by rw [← HSE.out]; exact HSJ.out
                  have hbase : w'.heap.size ≤ wr.heap.size := hbr.size
                  have hb2 : Below w'.heap.size w' ((wr.setCell ⟨Hb, j, none⟩ (.pointer (some ⟨wr.heap.size, 0, none⟩))).alloc (.cells ch 86)) := hbr.trans (f2.below hbase (by omega) (by omega))
                  refine (register_any L w'.heap.size wr.heap.size j s D _ (HA.out.lk.fr f2 (by omega) (by omega)) (owns_fr HA.out.od f2 (by omega) (by omega)) (by unfold maxLen; omega) hh2.cell hsm).mono ?_
                  rintro e w3 ⟨rfl, o3, f3⟩
                  have hb3 : Below w'.heap.size w' w3 := hb2.trans (f3.below hb2.size (by omega) (by omega))
                  have oe3 := owns_fr (owns_fr HA.out.oe f2 (by omega) (by omega)) f3 (by omega) (by omega)
                  have c3 : w3.cell? ⟨b, off + j, none⟩ = some (.string s) := f3.cell (a := ⟨b, off + j, none⟩) (by show b ≠ w'.heap.size; omega) (by show b ≠ w'.heap.size; omega) (f2.cell (a := ⟨b, off + j, none⟩) (by show b ≠ Hb; omega) (by show b ≠ Hb; omega) c0)
                  have HF : Hid (Fr wr ((wr.setCell ⟨Hb, j, none⟩ (.pointer (some ⟨wr.heap.size, 0, none⟩))).alloc (.cells ch 86)) Hb Hb ∧ HoldAt ((wr.setCell ⟨Hb, j, none⟩ (.pointer (some ⟨wr.heap.size, 0, none⟩))).alloc (.cells ch 86)) wr.heap.size s ∧
                    ((wr.setCell ⟨Hb, j, none⟩ (.pointer (some ⟨wr.heap.size, 0, none⟩))).alloc (.cells ch 86)).rowIs Hb 35 n (fun x => if x = j then .pointer (some ⟨wr.heap.size, 0, none⟩) else ptrs H j x) ∧ Fr ((wr.setCell ⟨Hb, j, none⟩ (.pointer (some ⟨wr.heap.size, 0, none⟩))).alloc (.cells ch 86)) w3 w'.heap.size w'.heap.size ∧
                    w3.ownsMap Try.prog 9 ptrElem w'.heap.size (j + 1) (D.put (key s) (.lit (.int .i64 wr.heap.size)))) := ⟨f2, hh2, r2, f3, o3⟩
                  have hs3 : Hb + 2 ≤ w3.heap.size := Nat.le_trans hszr (Nat.le_trans f2.size f3.size)
                  clear f2 hh2 r2 f3 o3 hb2 c0 r0 f0
                  go_wp2_with (first | (at_mapUpdate; refine wpList_mapUpdate_own _ rfl _ _ _ 43 rfl 9 3 law9 Try.underlying43 _ (Hb + 1) j E rfl oe3 (by unfold maxLen; omega) _ _ (key s) rfl rfl (key_of hsm) _ [] (plainElem_int Try.underlying3 (WalkArith.wf_i64 (by omega))) ?_; intro w4 o4 g4) | fail)
                  have f4 := Fr.of_grown g4
                  go_roundw
                  case rel =>
                    obtain ⟨f2, hh2, r2, f3, o3⟩ := HF.out
                    have hse := HSE.out
                    refine ⟨j + 1, _, _, _, by omega, by go_num, at5_step (w2 := ((wr.setCell ⟨Hb, j, none⟩ (.pointer (some ⟨wr.heap.size, 0, none⟩))).alloc (.cells ch 86))) (w3 := w3) HA.out HSJ.out (by omega) (by omega) (by omega) (by omega) (by omega) (by omega) (by omega) (by omega) (by omega) hszr f2 (by rw [hse]; exact hh2) r2 (by rw [hse]; exact o3) f3 (by rw [hse]; exact o4) f4, hb3.trans (f4.below hb3.size (by omega) (by omega)), Nat.le_trans hs3 f4.size⟩
                  case measure => simp [intOf]; omega
                · have hjn : n = j := by omega
                  subst hjn
                  clear hlt hj
                  have hkk : kk < n := by omega
                  have hkk' : (kk : Int) < (n : Int) := by omega
                  have hkk0 : (0 : Int) ≤ (kk : Int) := by omega
                  obtain ⟨jj, hjj⟩ := last_ex S n kk hkk
                  have tD := hat.od.tidy law9
                  obtain ⟨P1, P2, P3, P4, P5⟩ := plain_forget hat.maps tD hkk hat.mades.inj hjj
                  have hmE : (Maps.size E : Nat) ≤ 4096 := Nat.le_trans hat.oe.size_le (by omega)
                  have hNr : Names wr b off n S := hN.out.below hbr hb
                  obtain ⟨c0, hm⟩ := hNr kk hkk
                  obtain ⟨cc, hrun, hcc⟩ := look_last hat.oe (S kk) hm
                  have hcj : cc = (jj : Int) := by
                    have := (hat.maps.last _ _ hjj).2
                    rw [this] at hcc
                    exact (by simpa using hcc.symm)
                  subst hcj
                  have r0 := hat.row.cell hkk
                  rw [show ptrs H n kk = .pointer (some ⟨H kk, 0, none⟩) from by unfold ptrs; rw [if_pos hkk]] at r0
                  have hHkk := hat.mades.at_ kk hkk
                  have hHjj := hat.mades.at_ jj hjj.1
                  have C1 : Hid (Calls Try.prog 15 #[.pointer (some ⟨L, 0, none⟩), .pointer (some ⟨H kk, 0, none⟩)] wr fun e w2 => e = .returned (.tuple #[]) ∧ Lk w2 L w'.heap.size ∧ w2.ownsMap Try.prog 9 ptrElem w'.heap.size n (forgot D (S kk) (H kk)) ∧ Fr wr w2 L w'.heap.size) :=
                    zzforget_any L w'.heap.size (H kk) n (S kk) D wr hat.lk hat.od hHkk.1 hm (by omega) (by omega) (by
                      have := (hat.mades.at_ jj hjj.1).1.ptr
                      rw [P4]; exact this) (by rw [P4]; exact ptr_ne (by omega))
                  have HP : Hid (∀ w2, Lk w2 L w'.heap.size → w2.ownsMap Try.prog 9 ptrElem w'.heap.size n (forgot D (S kk) (H kk)) → Fr wr w2 L w'.heap.size →
                      Calls Try.prog 20 #[.pointer (some ⟨L, 0, none⟩), .slice (some ⟨b, off, none⟩) n cap, .slice (some ⟨Hb, 0, none⟩) n n, .map (some (Hb + 1)), .int .i64 kk, .bool ((jj : Int) == (kk : Int))] w2 fun e w3 => e = .returned (.bool true) ∧ w3 = w2) :=
                    fun w2 hl2 ho2 hf2 => state_any L w'.heap.size (Hb + 1) Hb b off n cap n n kk _ S H (forgot D (S kk) (H kk)) E w2 (by omega)
                      (hNr.below (hf2.below hbr.size (by omega) (by omega)) hb) hl2 ho2 (owns_fr hat.oe hf2 (by omega) (by omega))
                      (hat.row.of_block (hf2.block Hb (by omega) (by omega) (by omega))) (fun x hx => (hat.mades.at_ x hx).1.fr hf2 (by have := (hat.mades.at_ x hx).2; omega) (by have := (hat.mades.at_ x hx).2; omega)) P1 P2 hmE
                  have C2 : Hid (∀ w2, Lk w2 L w'.heap.size → w2.ownsMap Try.prog 9 ptrElem w'.heap.size n (forgot D (S kk) (H kk)) → Fr wr w2 L w'.heap.size →
                      Calls Try.prog 15 #[.pointer (some ⟨L, 0, none⟩), .pointer (some ⟨H kk, 0, none⟩)] w2 fun e w3 => e = .returned (.tuple #[]) ∧ Lk w3 L w'.heap.size ∧ w3.ownsMap Try.prog 9 ptrElem w'.heap.size n (forgot D (S kk) (H kk)) ∧ Fr w2 w3 L w'.heap.size) :=
                    fun w2 hl2 ho2 hf2 => by
                      have := zzforget_any L w'.heap.size (H kk) n (S kk) (forgot D (S kk) (H kk)) w2 hl2 ho2 (hHkk.1.fr hf2 (by omega) (by omega)) hm (by omega) (by omega) (by
                        rcases P5 with h | h
                        · rw [h]; exact Or.inl rfl
                        · rw [h]; exact (hHjj.1.fr hf2 (by omega) (by omega)).ptr) (by
                        rcases P5 with h | h
                        · rw [h]; intro e'; cases e'
                        · rw [h]; exact ptr_ne (by omega))
                      rw [P3] at this
                      exact this
                  have HB : Hid (∀ w2, Fr wr w2 L w'.heap.size → Below w'.heap.size w' w2 ∧ w2.cell? ⟨Hb, kk, none⟩ = some (.pointer (some ⟨H kk, 0, none⟩))) :=
                    fun w2 hf2 => ⟨hbr.trans (hf2.below hbr.size (by omega) (by omega)), hf2.cell (a := ⟨Hb, kk, none⟩) (by show Hb ≠ L; omega) (by show Hb ≠ w'.heap.size; omega) r0⟩
                  clear P1 P2 P3 P4 P5 tD hat HA hjj hcc hm hNr hHkk hHjj hmE
                  generalize hDe : forgot D (S kk) (H kk) = D1 at *
                  clear hDe
                  generalize S kk = s at *
                  generalize H kk = hp at *
                  go_wp2_with fail
                  refine C1.out.mono ?_
                  rintro e w2 ⟨rfl, hl2, ho2, hf2⟩
                  have rr2 := (HB.out w2 hf2).2
                  have HC2 : Hid (Calls Try.prog 15 #[.pointer (some ⟨L, 0, none⟩), .pointer (some ⟨hp, 0, none⟩)] w2 fun e w3 => e = .returned (.tuple #[]) ∧ Lk w3 L w'.heap.size ∧ w3.ownsMap Try.prog 9 ptrElem w'.heap.size n D1 ∧ Fr w2 w3 L w'.heap.size) := C2.out w2 hl2 ho2 hf2
                  have HP2 := HP.out w2 hl2 ho2 hf2
                  have HPP : Hid (Calls Try.prog 20 #[.pointer (some ⟨L, 0, none⟩), .slice (some ⟨b, off, none⟩) n cap, .slice (some ⟨Hb, 0, none⟩) n n, .map (some (Hb + 1)), .int .i64 kk, .bool ((jj : Int) == (kk : Int))] w2 fun e w3 => e = .returned (.bool true) ∧ w3 = w2) := HP2
                  clear HP2 C1 C2 hl2 ho2
                  go_wp2_with fail
                  refine HPP.out.mono ?_
                  rintro e w3 ⟨rfl, hw3⟩
                  subst hw3
                  go_wp2_with fail
                  refine HC2.out.mono ?_
                  rintro e w4 ⟨rfl, hl4, ho4, hf4⟩
                  have HP4 : Hid (Calls Try.prog 20 #[.pointer (some ⟨L, 0, none⟩), .slice (some ⟨b, off, none⟩) n cap, .slice (some ⟨Hb, 0, none⟩) n n, .map (some (Hb + 1)), .int .i64 kk, .bool ((jj : Int) == (kk : Int))] w4 fun e w5 => e = .returned (.bool true) ∧ w5 = w4) := HP.out w4 hl4 ho4 (hf2.trans hf4)
                  have hbf := (HB.out w4 (hf2.trans hf4)).1
                  clear hl4 ho4
                  go_wp2_with fail
                  refine HP4.out.mono ?_
                  rintro e w5 ⟨rfl, hw5⟩
                  subst hw5
                  go_wp2_with fail
                  go_ret
                  exact ⟨rfl, hbf⟩

set_option maxHeartbeats 1000000 in
set_option maxRecDepth 100000 in
/-- No name: no k is in range. -/
theorem law5_none (a : Option Addr) (cap : Nat) (k : Int) (w : World) :
    Calls Try.prog 5 #[.slice a 0 cap, .int .i64 k] w fun e w' => e = .returned (.bool true) ∧ Below w.heap.size w w' := by
  by_cases hk : k < 0
  all_goals
    go_enter Try.func5, Try.ntmps5
    go_wp2_with fail
    refine (bytes_none a cap k _).mono ?_
    rintro e w' ⟨rfl, hw⟩
    subst hw
    go_wp2_with fail
    go_loop [5, 6] (fun t i => t = .int .i64 0 ∧ i = .int .i64 0) (fun _ _ => 0)
    case atStart => exact ⟨rfl, rfl⟩
    case round =>
      obtain ⟨rfl, rfl⟩ := hrel
      go_wp2_with fail
      go_ret
      exact ⟨rfl, Below.refl _ _⟩

end Go.Proofs.Qxb6616530a
