/-
  THE WALK of zzBuild: a new tree of SchemaNodes, node for node.
-/
import Derived.Test.Qxb6616355aWidth
import Derived.Laws.MakeOwn
import Derived.Deep.OwnRows
import Derived.Deep.RegionHeld3
import Derived.Deep.DrawnRows
import Derived.BigRegion
namespace Go.Proofs.Qxb6616355a
open Go.RowKit Plain

theorem info30 : (Try.prog.info? 30).map (fun i => (i.zero, i.size, i.bytes)) = some (some (.pointer none), 1, 8) := by kernel_rfl

/-- A tree that lies in blocks from base on. -/
def MadeRow {α : Type} (w : World) (base : Nat) (R : α → Value → Prop) (l : List (Int × Nat × α)) (v : Value) : Prop :=
  ∃ a cap, v = .slice a l.length cap ∧ l.length ≤ 9223372036854775807 ∧ (l = [] ∨ ∃ b off, base ≤ b ∧ a = some ⟨b, off, none⟩ ∧ ∀ (i : Nat) (e : Int × Nat × α), l[i]? = some e → ∃ p, base ≤ p ∧ w.cell? ⟨b, off + i, none⟩ = some (.pointer (some ⟨p, 0, none⟩)) ∧ NAt w R p e)

def Made (w : World) (base : Nat) : (d : Nat) → T d → Value → Prop
  | 0 => fun _ _ => False
  | d + 1 => fun l v => MadeRow w base (Made w base d) l v

theorem made_built {w : World} {base : Nat} : ∀ (d : Nat) (l : T d) (v : Value), Made w base d l v → Built w d l v := by
  intro d
  induction d with
  | zero => intro l v h; exact h
  | succ d ih =>
    intro l v h
    obtain ⟨a, cap, rfl, hm, h⟩ := h
    refine ⟨a, cap, rfl, hm, ?_⟩
    rcases h with h | ⟨b, off, _, rfl, hc⟩
    · left; exact h
    · right
      refine ⟨b, off, rfl, fun i e he => ?_⟩
      obtain ⟨p, _, cp, s, ca, cl, cc, c0, c1, hs, c2, hR⟩ := hc i e he
      exact ⟨p, cp, s, ca, cl, cc, c0, c1, hs, c2, ih _ _ hR⟩

/-- Every cell from base on reads as it did. -/
def Far (base : Nat) (w w' : World) : Prop := ∀ (a : Addr) (v : Value), base ≤ a.block → w.cell? a = some v → w'.cell? a = some v

theorem made_far {w w' : World} {base base' : Nat} (hf : Far base w w') (hbb : base' ≤ base) : ∀ (d : Nat) (l : T d) (v : Value), Made w base d l v → Made w' base' d l v := by
  intro d
  induction d with
  | zero => intro l v h; exact h
  | succ d ih =>
    intro l v h
    obtain ⟨a, cap, rfl, hm, h⟩ := h
    refine ⟨a, cap, rfl, hm, ?_⟩
    rcases h with h | ⟨b, off, hb, rfl, hc⟩
    · left; exact h
    · right
      refine ⟨b, off, Nat.le_trans hbb hb, rfl, fun i e he => ?_⟩
      obtain ⟨p, hp, cp, s, ca, cl, cc, c0, c1, hs, c2, hR⟩ := hc i e he
      exact ⟨p, Nat.le_trans hbb hp, hf _ _ hb cp, s, ca, cl, cc, hf _ _ hp c0, hf _ _ hp c1, hs, hf _ _ hp c2, ih _ _ hR⟩

theorem far_below {w w' : World} (base : Nat) (hb : Below w.heap.size w w') : Far base w w' := fun _ _ _ h => cell_kept hb (cell_lt h) h

theorem far_set {w : World} {base b o : Nat} (u : Value) (h : b < base) : Far base w (w.setCell ⟨b, o, none⟩ u) := fun a v ha hc => by
  have e : (w.setCell ⟨b, o, none⟩ u).heap[a.block]? = w.heap[a.block]? := Below.heap_setCell w _ u a.block (by show a.block ≠ b; omega)
  exact (World.cell?_of_block (w := w) e).trans hc

theorem Far.trans {base : Nat} {a b c : World} (h : Far base a b) (k : Far base b c) : Far base a c := fun x v hx hc => k x v hx (h x v hx hc)

theorem make30 (n : Nat) (hn : n ≤ 1048576) (w : World) :
    (Instr.makeSlice 24 (.int .i64 (n : Int)) (.int .i64 (n : Int))).run Try.prog w = .ok (.slice (some ⟨w.heap.size, 0, none⟩) n n) (w.alloc (.cells (madeCells #[.pointer none] n) 30)) :=
  run_make_row' (P := Try.prog) 24 30 (.pointer none) 8 Try.underlying24 info30 rfl .i64 .i64 n (by omega) (by omega) w

set_option maxHeartbeats 400000 in
theorem build_nil (cap : Nat) (w : World) : Calls Try.prog 5 #[.slice none 0 cap] w fun e w' => e = .returned (.slice none 0 0) ∧ w' = w := by
  have hq := fun (a : Option Addr) (n c : Nat) (w : World) => Lib.run_eql_slice_nil (P := Try.prog) w 22 28 a n c 0 0 Try.underlying22
  go_enter Try.func5, Try.ntmps5
  go_wp2_with fail
  go_ret
  exact ⟨rfl, rfl⟩

set_option maxHeartbeats 400000 in
theorem build_empty (x : Addr) (cap : Nat) (w : World) : Calls Try.prog 5 #[.slice (some x) 0 cap] w fun e w' => e = .returned (.slice (some ⟨w.heap.size, 0, none⟩) 0 0) ∧ Below w.heap.size w w' := by
  have hq := fun (a : Option Addr) (n c : Nat) (w : World) => Lib.run_eql_slice_nil (P := Try.prog) w 22 28 a n c 0 0 Try.underlying22
  have hmk : ∀ w, (Instr.makeSlice 24 (.int .i64 0) (.int .i64 0)).run Try.prog w = .ok (.slice (some ⟨w.heap.size, 0, none⟩) 0 0) (w.alloc (.cells (madeCells #[.pointer none] 0) 30)) := fun w => make30 0 (by omega) w
  go_enter Try.func5, Try.ntmps5
  go_wp2_with fail
  go_loop [4] (fun i => i = .int .i64 0) (fun _ => 0)
  case atStart => rfl
  case round =>
    subst hrel
    go_wp2_with fail
    go_ret
    exact ⟨rfl, (Below.refl _ _).alloc (Nat.le_refl _) _⟩

theorem keep_store {w1 : World} {b B o k : Nat} {v u : Value} {c : Array Value} {t : TypeId} (h : w1.cell? ⟨b, o, none⟩ = some v) (hne : b ≠ B) :
    ((w1.setCell ⟨B, k, none⟩ u).alloc (.cells c t)).cell? ⟨b, o, none⟩ = some v := by
  have e1 : (w1.setCell ⟨B, k, none⟩ u).heap[b]? = w1.heap[b]? := Below.heap_setCell w1 _ u b hne
  have h1 : (w1.setCell ⟨B, k, none⟩ u).cell? ⟨b, o, none⟩ = some v := (World.cell?_of_block (w := w1) e1).trans h
  exact cell_kept ((Below.refl _ _).alloc (Nat.le_refl _) _) (cell_lt h1) h1

/-- The loop's relation: the first k pointers lead to the first k nodes. -/
def Sofar {α : Type} (wr : World) (B n k : Nat) (Q : World → Nat → α → Value → Prop) (l : List (Int × Nat × α)) : Prop :=
  ∃ F : Nat → Value, wr.rowIs B 30 n F ∧ ∀ (j : Nat) (e : Int × Nat × α), j < k → l[j]? = some e → ∃ p, B + 1 ≤ p ∧ F j = .pointer (some ⟨p, 0, none⟩) ∧ NAt wr (Q wr (B + 1)) p e

theorem nat_far {α : Type} {Q : World → Nat → α → Value → Prop} (hQ : ∀ (w w' : World) (base base' : Nat) (x : α) (v : Value), Far base w w' → base' ≤ base → Q w base x v → Q w' base' x v)
    {w w' : World} {base p : Nat} {e : Int × Nat × α} (hf : Far base w w') (hp : base ≤ p) (h : NAt w (Q w base) p e) : NAt w' (Q w' base) p e := by
  obtain ⟨s, ca, cl, cc, c0, c1, hs, c2, hR⟩ := h
  exact ⟨s, ca, cl, cc, hf _ _ hp c0, hf _ _ hp c1, hs, hf _ _ hp c2, hQ _ _ _ _ _ _ hf (Nat.le_refl _) hR⟩

theorem sofar_step {α : Type} {Q : World → Nat → α → Value → Prop} (hQ : ∀ (w w' : World) (base base' : Nat) (x : α) (v : Value), Far base w w' → base' ≤ base → Q w base x v → Q w' base' x v)
    {wr w1 : World} {B n k : Nat} {l : List (Int × Nat × α)} {e : Int × Nat × α} {s : ByteArray} {a1 : Option Addr} {n1 cc1 : Nat} {F : Nat → Value} (c : Array Value)
    (hrow : wr.rowIs B 30 n F ∧ ∀ (j : Nat) (e : Int × Nat × α), j < k → l[j]? = some e → ∃ p, B + 1 ≤ p ∧ F j = .pointer (some ⟨p, 0, none⟩) ∧ NAt wr (Q wr (B + 1)) p e)
    (hb1 : Below wr.drew.heap.size wr.drew w1) (hQ1 : Q w1 wr.drew.heap.size e.2.2 (.slice a1 n1 cc1)) (hB : B < wr.heap.size) (he : l[k]? = some e ∧ s.size = e.2.1)
    (h0 : c[0]? = some (.int .i64 e.1)) (h1 : c[1]? = some (.string s)) (h4 : c[4]? = some (.slice a1 n1 cc1)) :
    Sofar ((w1.setCell ⟨B, k, none⟩ (.pointer (some ⟨w1.heap.size, 0, none⟩))).alloc (.cells c 50)) B n (k + 1) Q l := by
  obtain ⟨hrow, hF⟩ := hrow
  have hb1' : Below wr.heap.size wr w1 := (Below.refl _ _).drew.trans hb1
  have hsz : wr.heap.size ≤ w1.heap.size := hb1.size
  have hrow1 : w1.rowIs B 30 n F := hrow.of_block (hb1'.block B hB)
  have f2 : Far (B + 1) w1 ((w1.setCell ⟨B, k, none⟩ (.pointer (some ⟨w1.heap.size, 0, none⟩))).alloc (.cells c 50)) :=
    (far_set _ (Nat.lt_succ_self B)).trans (far_below _ ((Below.refl _ _).alloc (Nat.le_refl _) _))
  refine ⟨_, (hrow1.set k _).alloc _, fun j e' hj he' => ?_⟩
  by_cases hjk : j = k
  · subst hjk
    rw [he.1] at he'
    cases he'
    have hsize : (w1.setCell ⟨B, j, none⟩ (.pointer (some ⟨w1.heap.size, 0, none⟩))).heap.size = w1.heap.size := by simp
    refine ⟨w1.heap.size, by omega, by rw [if_pos rfl], s, a1, n1, cc1, ?_, ?_, he.2, ?_, ?_⟩
    · simp [go_sem, h0]
    · simp [go_sem, h1]
    · simp [go_sem, h4]
    · exact hQ _ _ _ _ _ _ (fun a v ha hc => f2 a v (Nat.le_trans hB ha) hc) (by show B + 1 ≤ wr.heap.size; omega) hQ1
  · obtain ⟨p, hp, hFj, hN⟩ := hF j e' (by omega) he'
    refine ⟨p, hp, by rw [if_neg hjk]; exact hFj, nat_far hQ ((far_below _ hb1').trans f2) hp hN⟩

set_option maxHeartbeats 2000000 in
theorem build_row {α : Type} (R : α → Value → Prop) (Q : World → Nat → α → Value → Prop) (g : α → Nat) (w0 : World)
    (hQ : Hid (∀ (w w' : World) (base base' : Nat) (x : α) (v : Value), Far base w w' → base' ≤ base → Q w base x v → Q w' base' x v))
    (IH : Hid (∀ (x : α) (v : Value) (w : World), R x v → g x ≤ 1048576 → Below w0.heap.size w0 w → Calls Try.prog 5 #[v] w fun e w' => ∃ a n c, e = .returned (.slice a n c) ∧ Q w' w.heap.size x (.slice a n c) ∧ Below w.heap.size w w'))
    (l : List (Int × Nat × α)) (hg : Hid (∀ e ∈ l, g e.2.2 ≤ 1048576)) (b off cap n : Nat) (hn : Hid (l.length = n)) (hn' : n ≤ 1048576)
    (hc : Hid (∀ (i : Nat) (e : Int × Nat × α), l[i]? = some e → ZAt w0 R b (off + i * 3) e)) (w : World) (hb0 : Below w0.heap.size w0 w) :
    Calls Try.prog 5 #[.slice (some ⟨b, off, none⟩) n cap] w fun e w' => e = .returned (.slice (some ⟨w.heap.size, 0, none⟩) n n) ∧ Sofar w' w.heap.size n n Q l ∧ Below w.heap.size w w' := by
  have hq := fun (a : Option Addr) (n c : Nat) (w : World) => Lib.run_eql_slice_nil (P := Try.prog) w 22 28 a n c 0 0 Try.underlying22
  have hmk := make30 n hn'
  go_enter Try.func5, Try.ntmps5
  go_wp2_with fail
  go_loopw [4] (fun i wr => ∃ k : Nat, k ≤ n ∧ i = .int .i64 k ∧ Sofar wr w.heap.size n k Q l ∧ Below w.heap.size w wr) (fun i _ => n - (intOf i).toNat)
  case atStart => exact ⟨0, Nat.zero_le _, rfl, ⟨fun _ => .pointer none, World.rowIs_made w _ n 30, fun j e hj => absurd hj (Nat.not_lt_zero j)⟩, (Below.refl _ _).alloc (Nat.le_refl _) _⟩
  case round =>
    obtain ⟨k, hk, rfl, hso, hb⟩ := hrel
    by_cases hlt : k < n
    · have hlt' : (k : Int) < (n : Int) := by omega
      have hk0 : (0 : Int) ≤ (k : Int) := by omega
      obtain ⟨e, he⟩ : ∃ e, l[k]? = some e := ⟨l[k]'(by rw [hn.out]; exact hlt), List.getElem?_eq_getElem _⟩
      obtain ⟨s, ca, cl, cc, c0, c1, hs, c2, hR⟩ := hc.out k e he
      have hbw : Below w0.heap.size w0 wr := hb0.trans (hb.mono hb0.size)
      have hblt : b < w0.heap.size := cell_lt c0
      replace c0 := cell_kept hbw hblt c0
      replace c1 := cell_kept hbw hblt c1
      replace c2 := cell_kept hbw hblt c2
      obtain ⟨F, hrow, hF⟩ := hso
      have r0 := hrow.cell hlt
      have f0 := hrow.frozen k
      have hB : w.heap.size < wr.heap.size := hrow.lt
      generalize hFk : F k = v0 at r0
      have HE : Hid (l[k]? = some e ∧ s.size = e.2.1) := ⟨he, hs⟩
      have hge : g e.2.2 ≤ 1048576 := hg.out e (List.mem_of_getElem? he)
      have HROW : Hid (wr.rowIs w.heap.size 30 n F ∧ ∀ (j : Nat) (e : Int × Nat × α), j < k → l[j]? = some e → ∃ p, w.heap.size + 1 ≤ p ∧ F j = .pointer (some ⟨p, 0, none⟩) ∧ NAt wr (Q wr (w.heap.size + 1)) p e) := ⟨hrow, hF⟩
      clear hFk hs he hrow hF
      have hbsz := hb0.size
      have hne : b ≠ w.heap.size := by omega
      have hblt2 : b < wr.heap.size := by omega
      go_wp2_with fail
      go_region_held3 (fun w' => w'.cell? ⟨b, off + k * 3, none⟩ = some (.int .i64 e.1) ∧ w'.cell? ⟨b, off + k * 3 + 1, none⟩ = some (.string s) ∧ w'.cell? ⟨b, off + k * 3 + 2, none⟩ = some (.slice ca cl cc)) (first | (exact ⟨keep_store d0 hne, keep_store d1 hne, keep_store d2 hne⟩) | go_keep)
        ((go_at_call 5; refine (IH.out e.2.2 (.slice ca cl cc) _ hR hge (by exact hbw.drew)).mono ?_; rintro e' w1 ⟨a1, n1, cc1, rfl, hQ1, hb1⟩; have d0 := cell_kept hb1 hblt2 c0; have d1 := cell_kept hb1 hblt2 c1; have d2 := cell_kept hb1 hblt2 c2; have d3 := cell_kept hb1 hB r0; have d4 := (hb1.frozen (p := ⟨w.heap.size, k, none⟩) hB).trans f0; have hB1 : w.heap.size < w1.heap.size := Nat.lt_of_lt_of_le hB hb1.size; have hB2 : w.heap.size ≠ w1.heap.size := Nat.ne_of_lt hB1; have hB3 : b < w1.heap.size := Nat.lt_of_lt_of_le hblt2 hb1.size; have hB4 : b ≠ w1.heap.size := Nat.ne_of_lt hB3))
      go_wp2_with fail
      go_roundw
      case rel => exact ⟨k + 1, by omega, by go_num, sofar_step hQ.out _ HROW.out hb1 hQ1 hB HE.out rfl rfl rfl, ((hb.drew.trans (hb1.mono hb.size)).setCell (Nat.le_refl _) _).alloc (by simp; omega) _⟩
      case measure => simp [intOf]; omega
    · have hkn : k = n := by omega
      subst hkn
      go_wp2_with fail
      go_ret
      exact ⟨rfl, hso, hb⟩

theorem sofar_made {w : World} {B n d : Nat} {l : List (Int × Nat × T d)} (hn : l.length = n) (hm : n ≤ 1048576) (h : Sofar w B n n (fun w base x v => Made w base d x v) l) :
    Made w B (d + 1) l (.slice (some ⟨B, 0, none⟩) n n) := by
  obtain ⟨F, hrow, hF⟩ := h
  refine ⟨some ⟨B, 0, none⟩, n, by rw [hn], by omega, ?_⟩
  right
  refine ⟨B, 0, Nat.le_refl _, rfl, fun i e he => ?_⟩
  have hi : i < n := by rw [← hn]; exact (List.getElem?_eq_some_iff.1 he).1
  obtain ⟨p, hp, hFi, s, ca, cl, cc, c0, c1, hs, c2, hR⟩ := hF i e hi he
  refine ⟨p, by omega, ?_, s, ca, cl, cc, c0, c1, hs, c2, made_far (fun a v _ hc => hc) (Nat.le_succ B) d _ _ hR⟩
  rw [Nat.zero_add, hrow.cell hi, hFi]

/-- zzBuild at trees of every depth. -/
theorem build_any (w0 : World) : ∀ (d : Nat) (l : T d) (v : Value) (w : World), Lies w0 d l v → sz d l ≤ 1048576 → Below w0.heap.size w0 w →
    Calls Try.prog 5 #[v] w fun e w' => ∃ a n c, e = .returned (.slice a n c) ∧ Made w' w.heap.size d l (.slice a n c) ∧ Below w.heap.size w w' := by
  intro d
  induction d with
  | zero => intro l v w h; exact h.elim
  | succ d ih =>
    intro l v w h hs hb
    have hs' : szl (sz d) l ≤ 1048576 := hs
    have hlen := szl_length (sz d) l
    obtain ⟨a, cap, rfl, hm, h⟩ := h
    rcases h with h | ⟨b, off, rfl, hc⟩
    · subst h
      cases a with
      | none =>
        refine (build_nil cap w).mono ?_
        rintro e w' ⟨rfl, rfl⟩
        exact ⟨_, _, _, rfl, ⟨_, _, rfl, by simp, Or.inl rfl⟩, Below.refl _ _⟩
      | some x =>
        refine (build_empty x cap w).mono ?_
        rintro e w' ⟨rfl, hb'⟩
        exact ⟨_, _, _, rfl, ⟨_, _, rfl, by simp, Or.inl rfl⟩, hb'⟩
    · refine (build_row (Lies w0 d) (fun w base x v => Made w base d x v) (sz d) w0 (fun w w' base base' x v hf hbb h => made_far hf hbb d x v h) ih l (fun e he => ?_) b off cap _ rfl (by omega) hc w hb).mono ?_
      · have := szl_mem (sz d) l e he
        show sz d e.2.2 ≤ 1048576
        omega
      · rintro e w' ⟨rfl, hso, hb'⟩
        exact ⟨_, _, _, rfl, sofar_made rfl (by omega) hso, hb'⟩

end Go.Proofs.Qxb6616355a
