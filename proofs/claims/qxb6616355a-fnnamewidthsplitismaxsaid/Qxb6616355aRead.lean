/-
  WHAT CAN BE READ AS DATA LIES IN MEMORY as a tree of finite depth.
-/
import Derived.Test.Qxb6616355aLaw
import Derived.Deep.Slices
namespace Go.Proofs.Qxb6616355a
open Go.RowKit Plain

def T.none : (d : Nat) → T d
  | 0 => ()
  | _ + 1 => []

theorem cells28 : Try.prog.cellsOf 28 = 3 := by kernel_rfl
theorem cells3 : Try.prog.cellsOf 3 = 1 := by kernel_rfl
theorem cells9 : Try.prog.cellsOf 9 = 1 := by kernel_rfl
theorem cells22 : Try.prog.cellsOf 22 = 1 := by kernel_rfl

theorem add_at (b off i j : Nat) : ((⟨b, off, none⟩ : Addr).add i).add j = ⟨b, off + i + j, none⟩ := by
  rw [Deep.add_add, WideShapes.add_plain, Nat.add_assoc]

theorem three {α : Type} (l : List α) (h : l.length = 3) : ∃ a b c, l = [a, b, c] := by
  match l, h with
  | [a, b, c], _ => exact ⟨a, b, c, rfl⟩

theorem some_at {α : Type} (l : List α) (i : Nat) (h : i < l.length) : ∃ y, l[i]? = some y := ⟨l[i], List.getElem?_eq_getElem h⟩

set_option maxRecDepth 100000 in
theorem lies_read {H : Type} {enc : TypeId × Value → H} {w : World} {base : Nat} {spare : Nat → Bool} {held : Bool} :
    ∀ (m fuel : Nat) (v : Value) (x : DataW H × List MemPlace), fuel ≤ 2 * m → DataW.trod enc Try.prog w base spare held fuel 22 [v] = some x → ∃ l : T m, Lies w m l v := by
  intro m
  induction m with
  | zero =>
    intro fuel v x hf h
    obtain rfl : fuel = 0 := by omega
    simp [DataW.trod] at h
  | succ m ih =>
    intro fuel v x hf h
    rcases DataW.trod_slice Try.underlying22 h with ⟨hcs, _⟩ | ⟨a, len, cap, elems, rest, n, rfl, hcs, _, hb, hl, hm, hlen, hel, _, _⟩
    · obtain rfl : v = .slice none 0 0 := by simpa using hcs
      exact ⟨([] : List (Int × Nat × T m)), none, 0, rfl, by simp, Or.inl rfl⟩
    · obtain rfl : v = .slice (some a) len cap := by simpa using hcs
      have hm' : cap ≤ 9223372036854775807 := hm
      clear hm
      by_cases h0 : len = 0
      · subst h0
        exact ⟨([] : List (Int × Nat × T m)), some a, cap, rfl, by simp, Or.inl rfl⟩
      · obtain ⟨b, off, spot⟩ := a
        have hspot : spot = none := by
          obtain ⟨y, hy⟩ : ∃ y, elems[0]? = some y := some_at elems 0 (by omega)
          have h1 := hel 0 (by omega)
          rw [hy, cells28] at h1
          obtain ⟨cs, hc, _⟩ := Option.bind_eq_some_iff.1 h1
          obtain ⟨_, hcl, hcell⟩ := World.cells?_some hc
          have h2 := hcell 0 (Nat.zero_lt_succ 2)
          obtain ⟨z, hz⟩ : ∃ z, cs[0]? = some z := some_at cs 0 (by omega)
          rw [hz] at h2
          simpa [Addr.add] using World.cell?_spot h2
        subst hspot
        have each : ∀ i, i < len → ∃ e : Int × Nat × T m, ZAt w (Lies w m) b (off + i * 3) e := by
          intro i hi
          obtain ⟨y, hy⟩ : ∃ y, elems[i]? = some y := some_at elems i (by omega)
          have h1 := hel i hi
          rw [hy, cells28] at h1
          obtain ⟨cs, hc, ht⟩ := Option.bind_eq_some_iff.1 h1
          obtain ⟨_, hcl, hcell⟩ := World.cells?_some hc
          obtain ⟨xs, k, rfl, _, _, hxl, hfld⟩ := DataW.trod_struct Try.underlying28 ht
          have hxl' : xs.length = 3 := hxl
          obtain ⟨v0, v1, v2, rfl⟩ := three cs hcl
          obtain ⟨y0, y1, y2, rfl⟩ := three xs hxl'
          · have g0 := hfld 0 _ rfl
            have g1 := hfld 1 _ rfl
            have g2 := hfld 2 _ rfl
            simp [cells3, cells9, cells22] at g0 g1 g2
            obtain ⟨z0, e0, _, _⟩ := DataW.trod_int Try.underlying3 g0
            obtain ⟨z1, e1, _, _⟩ := DataW.trod_string Try.underlying9 g1
            obtain ⟨l2, hl2⟩ := ih k v2 _ (by omega) g2
            have q0 := hcell 0 (by omega)
            have q1 := hcell 1 (by omega)
            have q2 := hcell 2 (by omega)
            rw [add_at] at q0 q1 q2
            simp at e0 e1 q0 q1 q2
            subst e0 e1
            have hsl : ∃ ca cl cc, v2 = .slice ca cl cc := by
              cases m with
              | zero => exact hl2.elim
              | succ m =>
                obtain ⟨a', cap', hv, _⟩ := hl2
                exact ⟨a', _, cap', hv⟩
            obtain ⟨ca, cl, cc, rfl⟩ := hsl
            exact ⟨(z0, z1.size, l2), z1, ca, cl, cc, q0, q1, rfl, q2, hl2⟩
        have inh : Inhabited (Int × Nat × T m) := ⟨(0, 0, T.none m)⟩
        obtain ⟨f, hf'⟩ := Deep.choose_lt each
        refine ⟨((List.range len).map f : List (Int × Nat × T m)), some ⟨b, off, none⟩, cap, ?_, ?_, Or.inr ⟨b, off, rfl, fun i e he => ?_⟩⟩
        · rw [List.length_map, List.length_range]
        · rw [List.length_map, List.length_range]; omega
        · have he' : ((List.range len).map f)[i]? = some e := he
          obtain ⟨j, hj, rfl⟩ := map_at f (List.range len) i e he'
          obtain ⟨hi, rfl⟩ := List.getElem?_eq_some_iff.1 hj
          have hi' : i < len := by simpa using hi
          rw [List.getElem_range]
          exact hf' i hi'

end Go.Proofs.Qxb6616355a
