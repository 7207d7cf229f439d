/-
  nameWidth at trees of every depth; how a built tree stays built.
-/
import Derived.Test.Qxb6616355aTree
namespace Go.Proofs.Qxb6616355a
open Go.RowKit Plain

theorem foldW_part {α : Type} (f : α → List Int) (l : List (Int × Nat × α)) (k : Nat) : foldW f 0 (l.take k) ≤ foldW f 0 l := by
  have h := fold_append f 0 (l.take k) (l.drop k)
  rw [List.take_append_drop] at h
  rw [h]; exact fold_ge _ _ _

theorem map_at {α β : Type} (g : α → β) (l : List α) (i : Nat) (x : β) (h : (l.map g)[i]? = some x) : ∃ e, l[i]? = some e ∧ x = g e := by
  rw [List.getElem?_map] at h
  obtain ⟨e, he, rfl⟩ := Option.map_eq_some_iff.1 h
  exact ⟨e, he, rfl⟩

theorem width_both (w : World) : ∀ (d : Nat), (∀ (l : T d) (v : Value), Built w d l v → sz d l ≤ 1048576 → Calls Try.prog 7 #[v] w fun e w' => e = .returned (.int .i64 (W d l).1) ∧ w' = w) ∧
    (∀ (l : T d) (v : Value), Built w d l v → sz d l ≤ 1048576 → Kids w v (W d l).2) := by
  intro d
  induction d with
  | zero => exact ⟨fun _ _ h => h.elim, fun _ _ h => h.elim⟩
  | succ d ih =>
    refine ⟨fun l v h hs => ?_, fun l v h hs => ?_⟩
    · have hs' : szl (sz d) l ≤ 1048576 := hs
      have hWl : foldW (fun x => (W d x).2) 0 l ≤ szl (sz d) l := (W_bounds (d + 1) l).1
      obtain ⟨a, cap, rfl, hm, h⟩ := h
      rcases h with h | ⟨b, off, rfl, hc⟩
      · subst h
        exact width_none a cap w
      · refine width_row (fun x => (W d x).2) w l b off cap _ rfl hm (fun k => ?_) (fun i e he => ?_)
        · have := foldW_part (fun x => (W d x).2) l k
          show foldW (fun x => (W d x).2) 0 (l.take k) ≤ 2097200
          omega
        · obtain ⟨p, c0, s, ca, cl, cc, c1, c2, hsz, c3, hR⟩ := hc i e he
          have hmem := szl_mem (sz d) l e (List.mem_of_getElem? he)
          exact ⟨by omega, p, c0, s, ca, cl, cc, c1, c2, hsz, c3, ih.2 e.2.2 _ hR (by omega)⟩
    · have hs' : szl (sz d) l ≤ 1048576 := hs
      obtain ⟨a, cap, rfl, hm, h⟩ := h
      refine ⟨a, _, cap, rfl, List.length_map .., hm, ?_⟩
      rcases h with h | ⟨b, off, rfl, hc⟩
      · subst h; left; rfl
      · right
        refine ⟨b, off, rfl, fun i x hx => ?_⟩
        obtain ⟨e, he, rfl⟩ := map_at (fun e : Int × Nat × T d => (W d e.2.2).1) l i x hx
        obtain ⟨p, c0, s, ca, cl, cc, c1, c2, hsz, c3, hR⟩ := hc i e he
        have hmem := szl_mem (sz d) l e (List.mem_of_getElem? he)
        have hb := (W_bounds d e.2.2).1
        have hp := W_pos d e.2.2
        exact ⟨hp, by omega, p, ca, cl, cc, c0, c3, ih.1 e.2.2 _ hR (by omega)⟩

theorem width_any (w : World) (d : Nat) (l : T d) (v : Value) (h : Built w d l v) (hs : sz d l ≤ 1048576) :
    Calls Try.prog 7 #[v] w fun e w' => e = .returned (.int .i64 (W d l).1) ∧ w' = w := (width_both w d).1 l v h hs

set_option maxHeartbeats 400000 in
theorem zzwidth_any (w : World) (d : Nat) (l : T d) (a : Option Addr) (n cap : Nat) (h : Built w d l (.slice a n cap)) (hs : sz d l ≤ 1048576) :
    Calls Try.prog 6 #[.slice a n cap] w fun e w' => e = .returned (.int .i64 (W d l).1) ∧ w' = w := by
  have HW : Hid (Calls Try.prog 7 #[.slice a n cap] w fun e w' => e = .returned (.int .i64 (W d l).1) ∧ w' = w) := width_any w d l _ h hs
  clear h hs
  go_enter Try.func6, Try.ntmps6
  go_wp2_with fail
  refine HW.out.mono ?_
  rintro e w' ⟨rfl, rfl⟩
  go_wp2_with fail
  go_ret
  exact ⟨rfl, rfl⟩

theorem cell_lt {w : World} {a : Addr} {v : Value} (h : w.cell? a = some v) : a.block < w.heap.size := by
  rcases Nat.lt_or_ge a.block w.heap.size with hlt | hge
  · exact hlt
  · simp [World.cell?, Array.getElem?_eq_none hge] at h

theorem cell_kept {B : Nat} {w w' : World} {a : Addr} {v : Value} (hb : Below B w w') (ha : a.block < B) (h : w.cell? a = some v) : w'.cell? a = some v := (hb.cell ha).trans h

/-- Zs lie in what was there: they lie there still. -/
theorem lies_kept {B : Nat} {w w' : World} (hb : Below B w w') (hB : w.heap.size ≤ B) : ∀ (d : Nat) (l : T d) (v : Value), Lies w d l v → Lies w' d l v := by
  intro d
  induction d with
  | zero => intro l v h; exact h
  | succ d ih =>
    intro l v h
    obtain ⟨a, cap, rfl, hm, h⟩ := h
    refine ⟨a, cap, rfl, hm, ?_⟩
    rcases h with h | ⟨b, off, rfl, hc⟩
    · left; exact h
    · right
      refine ⟨b, off, rfl, fun i e he => ?_⟩
      obtain ⟨s, ca, cl, cc, c0, c1, hs, c2, hR⟩ := hc i e he
      exact ⟨s, ca, cl, cc, cell_kept hb (Nat.lt_of_lt_of_le (cell_lt c0) hB) c0, cell_kept hb (Nat.lt_of_lt_of_le (cell_lt c1) hB) c1, hs, cell_kept hb (Nat.lt_of_lt_of_le (cell_lt c2) hB) c2, ih _ _ hR⟩

theorem built_kept {B : Nat} {w w' : World} (hb : Below B w w') (hB : w.heap.size ≤ B) : ∀ (d : Nat) (l : T d) (v : Value), Built w d l v → Built w' d l v := by
  intro d
  induction d with
  | zero => intro l v h; exact h
  | succ d ih =>
    intro l v h
    obtain ⟨a, cap, rfl, hm, h⟩ := h
    refine ⟨a, cap, rfl, hm, ?_⟩
    rcases h with h | ⟨b, off, rfl, hc⟩
    · left; exact h
    · right
      refine ⟨b, off, rfl, fun i e he => ?_⟩
      obtain ⟨p, cp, s, ca, cl, cc, c0, c1, hs, c2, hR⟩ := hc i e he
      exact ⟨p, cell_kept hb (Nat.lt_of_lt_of_le (cell_lt cp) hB) cp, s, ca, cl, cc, cell_kept hb (Nat.lt_of_lt_of_le (cell_lt c0) hB) c0, cell_kept hb (Nat.lt_of_lt_of_le (cell_lt c1) hB) c1, hs, cell_kept hb (Nat.lt_of_lt_of_le (cell_lt c2) hB) c2, ih _ _ hR⟩

end Go.Proofs.Qxb6616355a
