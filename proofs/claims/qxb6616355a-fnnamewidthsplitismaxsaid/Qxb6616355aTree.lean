/-
  THE TREES IN MEMORY, and the walk of zzTreeBytes, which only reads.
-/
import Derived.Test.Qxb6616355aRows
import Derived.Test.Qxb6616355aPlain
import Derived.WalkKit
import Derived.WalkSpells
import Derived.WalkLawsBesides
import Derived.LoopTactic
import Derived.RowKit3
namespace Go.Proofs.Qxb6616355a
open Go.RowKit Plain

/-- A ZNode's three cells. -/
def ZAt {α : Type} (w : World) (R : α → Value → Prop) (b o : Nat) (e : Int × Nat × α) : Prop :=
  ∃ (s : ByteArray) (ca : Option Addr) (cl cc : Nat), w.cell? ⟨b, o, none⟩ = some (.int .i64 e.1) ∧ w.cell? ⟨b, o + 1, none⟩ = some (.string s) ∧ s.size = e.2.1 ∧
      w.cell? ⟨b, o + 2, none⟩ = some (.slice ca cl cc) ∧ R e.2.2 (.slice ca cl cc)

/-- Slice v leads to the ZNodes of l, whose children R tells of. -/
def RowZ {α : Type} (w : World) (R : α → Value → Prop) (l : List (Int × Nat × α)) (v : Value) : Prop :=
  ∃ a cap, v = .slice a l.length cap ∧ l.length ≤ 9223372036854775807 ∧ (l = [] ∨ ∃ b off, a = some ⟨b, off, none⟩ ∧ ∀ (i : Nat) (e : Int × Nat × α), l[i]? = some e → ZAt w R b (off + i * 3) e)

def Lies (w : World) : (d : Nat) → T d → Value → Prop
  | 0 => fun _ _ => False
  | d + 1 => fun l v => RowZ w (Lies w d) l v

theorem tbl_cons {α : Type} (f : α → Int → Int) (e : Int × Nat × α) (r : List (Int × Nat × α)) (acc : Int) : tbl f (e :: r) acc =
    if 1048576 < (e.2.1 : Int) then 1048577
    else if 1048576 < acc + (48 + (e.2.1 : Int)) then acc + (48 + (e.2.1 : Int))
    else if 1048576 < f e.2.2 (acc + (48 + (e.2.1 : Int))) then f e.2.2 (acc + (48 + (e.2.1 : Int)))
    else tbl f r (f e.2.2 (acc + (48 + (e.2.1 : Int)))) := rfl

theorem drop_at {α : Type} {l : List α} {k : Nat} {e : α} (h : l[k]? = some e) : l.drop k = e :: l.drop (k + 1) := by
  obtain ⟨hk, rfl⟩ := List.getElem?_eq_some_iff.1 h
  exact List.drop_eq_getElem_cons hk

set_option maxHeartbeats 1000000 in
theorem bytes_none (a : Option Addr) (cap : Nat) (acc : Int) (w : World) (_h0 : 0 ≤ acc) (_hL : acc ≤ 1048576) :
    Calls Try.prog 4 #[.slice a 0 cap, .int .i64 acc] w fun e w' => e = .returned (.int .i64 acc) ∧ w' = w := by
  go_enter Try.func4, Try.ntmps4
  go_wp2_with fail
  go_loop [1, 5] (fun t i => t = .int .i64 acc ∧ i = .int .i64 0) (fun _ _ => 0)
  case atStart => exact ⟨rfl, rfl⟩
  case round =>
    obtain ⟨rfl, rfl⟩ := hrel
    go_wp2_with fail
    go_ret
    exact ⟨rfl, rfl⟩

set_option maxHeartbeats 1000000 in
theorem bytes_row {α : Type} (f : α → Int → Int) (R : α → Value → Prop) (w : World) (hf : ∀ x acc, 0 ≤ acc → acc ≤ 1048576 → 0 ≤ f x acc ∧ f x acc ≤ 2097200)
    (IH : Hid (∀ (x : α) (v : Value) (acc : Int), R x v → 0 ≤ acc → acc ≤ 1048576 → Calls Try.prog 4 #[v, .int .i64 acc] w fun e w' => e = .returned (.int .i64 (f x acc)) ∧ w' = w))
    (l : List (Int × Nat × α)) (b off cap n : Nat) (acc : Int) (hn : Hid (l.length = n)) (hn' : n ≤ 9223372036854775807) (hc : Hid (∀ (i : Nat) (e : Int × Nat × α), l[i]? = some e → ZAt w R b (off + i * 3) e)) (h0 : 0 ≤ acc) (hL : acc ≤ 1048576) :
    Calls Try.prog 4 #[.slice (some ⟨b, off, none⟩) n cap, .int .i64 acc] w fun e w' => e = .returned (.int .i64 (tbl f l acc)) ∧ w' = w := by
  go_enter Try.func4, Try.ntmps4
  go_wp2_with fail
  go_loop [1, 5] (fun t i => ∃ k : Nat, ∃ c : Int, k ≤ n ∧ i = .int .i64 k ∧ t = .int .i64 c ∧ 0 ≤ c ∧ c ≤ 1048576 ∧ tbl f l acc = tbl f (l.drop k) c) (fun _ i => n - (intOf i).toNat)
  case atStart => exact ⟨0, acc, Nat.zero_le _, rfl, rfl, h0, hL, rfl⟩
  case round =>
    obtain ⟨k, c, hk, rfl, rfl, hc0, hc1, htb⟩ := hrel
    have HT : Hid (tbl f l acc = tbl f (l.drop k) c) := htb
    clear htb
    by_cases hlt : k < n
    · have hlt' : (k : Int) < (n : Int) := by omega
      obtain ⟨e, he⟩ : ∃ e, l[k]? = some e := ⟨l[k]'(by rw [hn.out]; exact hlt), List.getElem?_eq_getElem _⟩
      obtain ⟨s, ca, cl, cc, c0, c1, hs, c2, hR⟩ := hc.out k e he
      have HT2 : Hid (tbl f l acc = tbl f (e :: l.drop (k + 1)) c) := by
        show _ = _
        rw [HT.out, drop_at he]
      have hfa := fun h => hf e.2.2 (c + (48 + (e.2.1 : Int))) (by omega) h
      rw [← hs] at hfa
      have HS : Hid (s.size = e.2.1) := hs
      clear HT hs he
      by_cases q1 : 1048576 < (s.size : Int)
      · go_wp2_with fail
        go_ret
        refine ⟨?_, rfl⟩
        rw [HT2.out, tbl_cons, ← HS.out, if_pos q1]; rfl
      · by_cases q2 : 1048576 < c + (48 + (s.size : Int))
        · go_wp2_with fail
          go_ret
          refine ⟨?_, rfl⟩
          rw [HT2.out, tbl_cons, ← HS.out, if_neg (by omega), if_pos q2]; rfl
        · have hfb := hfa (by omega)
          clear hfa
          go_wp2_with fail
          refine (IH.out e.2.2 (.slice ca cl cc) (c + (48 + (s.size : Int))) hR (by omega) (by omega)).mono ?_
          rintro e' w' ⟨rfl, rfl⟩
          generalize hg : f e.2.2 (c + (48 + (s.size : Int))) = g at *
          have HG : Hid (f e.2.2 (c + (48 + (s.size : Int))) = g) := hg
          clear hg
          by_cases q3 : 1048576 < g
          · go_wp2_with fail
            go_ret
            refine ⟨?_, rfl⟩
            rw [HT2.out, tbl_cons, ← HS.out, if_neg (by omega), if_neg (by omega), HG.out, if_pos q3]; rfl
          · go_wp2_with fail
            go_round
            case rel => exact ⟨k + 1, g, by omega, by go_num, rfl, hfb.1, by omega, by
              rw [HT2.out, tbl_cons, ← HS.out, if_neg (by omega), if_neg (by omega), HG.out, if_neg (by omega)]⟩
            case measure => simp [intOf]; omega
    · have hkn : k = n := by omega
      go_wp2_with fail
      go_ret
      refine ⟨?_, rfl⟩
      rw [HT.out, List.drop_of_length_le (by rw [hn.out]; omega)]; rfl

theorem bytes_any (w : World) : ∀ (d : Nat) (l : T d) (v : Value) (acc : Int), Lies w d l v → 0 ≤ acc → acc ≤ 1048576 →
    Calls Try.prog 4 #[v, .int .i64 acc] w fun e w' => e = .returned (.int .i64 (tb d l acc)) ∧ w' = w := by
  intro d
  induction d with
  | zero => intro l v acc h; exact h.elim
  | succ d ih =>
    intro l v acc h h0 hL
    obtain ⟨a, cap, rfl, hm, h⟩ := h
    rcases h with h | ⟨b, off, rfl, hc⟩
    · subst h
      exact bytes_none a cap acc w h0 hL
    · exact bytes_row (tb d) (Lies w d) w (fun x acc h0 h1 => tb_bound d x acc h0 h1) ih l b off cap _ acc rfl hm hc h0 hL

/-! ### nameWidth -/
/-- A SchemaNode's cells. -/
def NAt {α : Type} (w : World) (R : α → Value → Prop) (p : Nat) (e : Int × Nat × α) : Prop :=
  ∃ (s : ByteArray) (ca : Option Addr) (cl cc : Nat), w.cell? ⟨p, 0, none⟩ = some (.int .i64 e.1) ∧ w.cell? ⟨p, 1, none⟩ = some (.string s) ∧ s.size = e.2.1 ∧
      w.cell? ⟨p, 4, none⟩ = some (.slice ca cl cc) ∧ R e.2.2 (.slice ca cl cc)

/-- Slice v leads to pointers to the SchemaNodes of l. -/
def RowN {α : Type} (w : World) (R : α → Value → Prop) (l : List (Int × Nat × α)) (v : Value) : Prop :=
  ∃ a cap, v = .slice a l.length cap ∧ l.length ≤ 9223372036854775807 ∧ (l = [] ∨ ∃ b off, a = some ⟨b, off, none⟩ ∧ ∀ (i : Nat) (e : Int × Nat × α), l[i]? = some e → ∃ p, w.cell? ⟨b, off + i, none⟩ = some (.pointer (some ⟨p, 0, none⟩)) ∧ NAt w R p e)

def Built (w : World) : (d : Nat) → T d → Value → Prop
  | 0 => fun _ _ => False
  | d + 1 => fun l v => RowN w (Built w d) l v

set_option maxHeartbeats 1000000 in
theorem width_none (a : Option Addr) (cap : Nat) (w : World) :
    Calls Try.prog 7 #[.slice a 0 cap] w fun e w' => e = .returned (.int .i64 0) ∧ w' = w := by
  go_enter Try.func7, Try.ntmps7
  go_wp2_with fail
  go_loop [3, 10] (fun t i => t = .int .i64 0 ∧ i = .int .i64 0) (fun _ _ => 0)
  case atStart => exact ⟨rfl, rfl⟩
  case round =>
    obtain ⟨rfl, rfl⟩ := hrel
    go_wp2_with fail
    go_ret
    exact ⟨rfl, rfl⟩

/-- What the inner loop wants of one node's children: their own children's widths, one call each. -/
def Kids (w : World) (v : Value) (ws : List Int) : Prop :=
  ∃ a n cap, v = .slice a n cap ∧ ws.length = n ∧ n ≤ 9223372036854775807 ∧ (n = 0 ∨ ∃ b off, a = some ⟨b, off, none⟩ ∧ ∀ (i : Nat) (x : Int), ws[i]? = some x → 0 ≤ x ∧ x ≤ 2097200 ∧
    ∃ p ca cl cc, w.cell? ⟨b, off + i, none⟩ = some (.pointer (some ⟨p, 0, none⟩)) ∧ w.cell? ⟨p, 4, none⟩ = some (.slice ca cl cc) ∧
      Hid (Calls Try.prog 7 #[.slice ca cl cc] w fun e w' => e = .returned (.int .i64 x) ∧ w' = w))

theorem deep_take {ws : List Int} {k : Nat} {x : Int} (m : Int) (h : ws[k]? = some x) : deep m (ws.take (k + 1)) = max (deep m (ws.take k)) (x + 6) := by
  obtain ⟨hk, rfl⟩ := List.getElem?_eq_some_iff.1 h
  rw [List.take_succ_eq_append_getElem hk]
  generalize ws.take k = l
  generalize ws[k] = y
  induction l generalizing m with
  | nil => rfl
  | cons z r ih => exact ih (max m (z + 6))

theorem deep_append (m : Int) : ∀ (l r : List Int), deep m (l ++ r) = deep (deep m l) r
  | [], _ => rfl
  | x :: l, r => by
    show deep (max m (x + 6)) (l ++ r) = deep (deep (max m (x + 6)) l) r
    exact deep_append _ l r

theorem deep_part (m : Int) (l : List Int) (j : Nat) : deep m (l.take j) ≤ deep m l := by
  have h := deep_append m (l.take j) (l.drop j)
  rw [List.take_append_drop] at h
  rw [h]; exact deep_ge _ _

theorem fold_take {α : Type} (f : α → List Int) {l : List (Int × Nat × α)} {k : Nat} {e : Int × Nat × α} (m : Int) (h : l[k]? = some e) : foldW f m (l.take (k + 1)) = stepW f (foldW f m (l.take k)) e := by
  obtain ⟨hk, rfl⟩ := List.getElem?_eq_some_iff.1 h
  rw [List.take_succ_eq_append_getElem hk, fold_append]
  rfl

set_option maxHeartbeats 2000000 in
theorem width_row {α : Type} (f : α → List Int) (w : World) (l : List (Int × Nat × α)) (b off cap n : Nat) (hn : Hid (l.length = n)) (hn' : n ≤ 9223372036854775807) (hB : Hid (∀ k, foldW f 0 (l.take k) ≤ 2097200))
    (hc : Hid (∀ (i : Nat) (e : Int × Nat × α), l[i]? = some e → e.2.1 ≤ 2097200 ∧ ∃ p, w.cell? ⟨b, off + i, none⟩ = some (.pointer (some ⟨p, 0, none⟩)) ∧ NAt w (fun x v => Kids w v (f x)) p e)) :
    Calls Try.prog 7 #[.slice (some ⟨b, off, none⟩) n cap] w fun e w' => e = .returned (.int .i64 (foldW f 0 l)) ∧ w' = w := by
  go_enter Try.func7, Try.ntmps7
  go_wp2_with fail
  go_loop [3, 10] (fun t i => ∃ k : Nat, k ≤ n ∧ i = .int .i64 k ∧ t = .int .i64 (foldW f 0 (l.take k))) (fun _ i => n - (intOf i).toNat)
  case atStart => exact ⟨0, Nat.zero_le _, rfl, by rw [List.take_zero]; rfl⟩
  case round =>
    obtain ⟨k, hk, rfl, rfl⟩ := hrel
    by_cases hlt : k < n
    · have hlt' : (k : Int) < (n : Int) := by omega
      obtain ⟨e, he⟩ : ∃ e, l[k]? = some e := ⟨l[k]'(by rw [hn.out]; exact hlt), List.getElem?_eq_getElem _⟩
      obtain ⟨hel, p, c0, s, ca, cl, cc, c1, c2, hs, c3, hK⟩ := hc.out k e he
      have HF : Hid (foldW f 0 (l.take (k + 1)) = stepW f (foldW f 0 (l.take k)) e) := fold_take f 0 he
      have hb0 : 0 ≤ foldW f 0 (l.take k) := fold_ge f 0 _
      have hb1 : foldW f 0 (l.take k) ≤ 2097200 := hB.out k
      have hb2 := hB.out (k + 1)
      have hb3 := step_ge f (foldW f 0 (l.take k)) e
      rw [HF.out] at hb2
      generalize foldW f 0 (l.take k) = m at *
      have HS : Hid (s.size = e.2.1) := hs
      rw [← hs] at hel hb3
      clear hs he
      by_cases q : e.1 = 4
      · have q' : (e.1 == 4) = true := by simp [q]
        clear q
        obtain ⟨ka, kn, kc, hkv, hws, hkm, hkk⟩ := hK
        cases hkv
        have HQ : Hid (stepW f m e = deep (max m ((s.size : Int) + 1)) (f e.2.2)) := by
          show _ = _
          unfold stepW
          rw [if_pos (by simpa using q'), HS.out]
        have HWS : Hid ((f e.2.2).length = cl) := hws
        clear hws
        generalize f e.2.2 = ws at *
        rw [HQ.out] at hb2
        have hmx : (m < (s.size : Int) + 1 ∧ max m ((s.size : Int) + 1) = (s.size : Int) + 1) ∨ ((s.size : Int) + 1 ≤ m ∧ max m ((s.size : Int) + 1) = m) := by omega
        clear hb3
        rcases hkk with hkk | ⟨kb, ko, hka, hkk⟩
        · subst hkk
          have hws0 : ws = [] := List.length_eq_zero_iff.1 HWS.out
          subst hws0
          clear HWS hb2
          rcases hmx with ⟨hm1, hm2⟩ | ⟨hm1, hm2⟩
          · rw [hm2] at HQ
            clear hm2
            go_wp2_with fail
            go_loop [3, 32] (fun t i => t = .int .i64 ((s.size : Int) + 1) ∧ i = .int .i64 0) (fun _ _ => 0)
            case atStart => exact ⟨rfl, rfl⟩
            case round =>
              obtain ⟨rfl, rfl⟩ := hrel
              go_wp2_with fail
              go_round
              case rel => exact ⟨k + 1, by omega, by go_num, by rw [HF.out, HQ.out]; rfl⟩
              case measure => simp [intOf]; omega
          · rw [hm2] at HQ
            clear hm2
            go_wp2_with fail
            go_loop [3, 32] (fun t i => t = .int .i64 (m) ∧ i = .int .i64 0) (fun _ _ => 0)
            case atStart => exact ⟨rfl, rfl⟩
            case round =>
              obtain ⟨rfl, rfl⟩ := hrel
              go_wp2_with fail
              go_round
              case rel => exact ⟨k + 1, by omega, by go_num, by rw [HF.out, HQ.out]; rfl⟩
              case measure => simp [intOf]; omega
        · subst hka
          have HKK : Hid (∀ (i : Nat) (x : Int), ws[i]? = some x → 0 ≤ x ∧ x ≤ 2097200 ∧
            ∃ p ca cl cc, w.cell? ⟨kb, ko + i, none⟩ = some (.pointer (some ⟨p, 0, none⟩)) ∧ w.cell? ⟨p, 4, none⟩ = some (.slice ca cl cc) ∧
            Hid (Calls Try.prog 7 #[.slice ca cl cc] w fun e w' => e = .returned (.int .i64 x) ∧ w' = w)) := hkk
          clear hkk
          rcases hmx with ⟨hm1, hm2⟩ | ⟨hm1, hm2⟩
          · rw [hm2] at hb2 HQ
            clear hm2
            go_wp2_with fail
            go_loop [3, 32] (fun t i => ∃ j : Nat, j ≤ cl ∧ i = .int .i64 j ∧ t = .int .i64 (deep ((s.size : Int) + 1) (ws.take j))) (fun _ i => cl - (intOf i).toNat)
            case atStart => exact ⟨0, Nat.zero_le _, rfl, by rw [List.take_zero]; rfl⟩
            case round =>
              obtain ⟨j, hj, rfl, rfl⟩ := hrel
              have hd0 := deep_ge ((s.size : Int) + 1) (ws.take j)
              have hd1 : deep ((s.size : Int) + 1) (ws.take j) ≤ 2097200 := Int.le_trans (deep_part _ ws j) hb2
              by_cases hjl : j < cl
              · have hjl' : (j : Int) < (cl : Int) := by omega
                obtain ⟨x, hx⟩ : ∃ x, ws[j]? = some x := ⟨ws[j]'(by rw [HWS.out]; exact hjl), List.getElem?_eq_getElem _⟩
                obtain ⟨x0, x1, p', ca', cl', cc', d0, d1, hcall⟩ := HKK.out j x hx
                have HD : Hid (deep ((s.size : Int) + 1) (ws.take (j + 1)) = max (deep ((s.size : Int) + 1) (ws.take j)) (x + 6)) := deep_take _ hx
                clear hx hb2
                generalize deep ((s.size : Int) + 1) (ws.take j) = g at *
                by_cases hgx : g < x + 6
                · go_wp2_with fail
                  refine hcall.out.mono ?_
                  rintro e' w' ⟨rfl, rfl⟩
                  go_wp2_with fail
                  go_round
                  case rel => exact ⟨j + 1, by omega, by go_num, by rw [HD.out, show max g (x + 6) = x + 6 from by omega]⟩
                  case measure => simp [intOf]; omega
                · go_wp2_with fail
                  refine hcall.out.mono ?_
                  rintro e' w' ⟨rfl, rfl⟩
                  go_wp2_with fail
                  go_round
                  case rel => exact ⟨j + 1, by omega, by go_num, by rw [HD.out, show max g (x + 6) = g from by omega]⟩
                  case measure => simp [intOf]; omega
              · have hjc : j = cl := by omega
                have HD : Hid (deep ((s.size : Int) + 1) (ws.take j) = deep ((s.size : Int) + 1) ws) := by
                  show _ = _
                  rw [List.take_of_length_le (by rw [HWS.out]; omega)]
                rw [HD.out] at hd0 hd1 ⊢
                clear hb2
                go_wp2_with fail
                go_round
                case rel => exact ⟨k + 1, by omega, by go_num, by rw [HF.out, HQ.out]⟩
                case measure => simp [intOf]; omega
          · rw [hm2] at hb2 HQ
            clear hm2
            go_wp2_with fail
            go_loop [3, 32] (fun t i => ∃ j : Nat, j ≤ cl ∧ i = .int .i64 j ∧ t = .int .i64 (deep (m) (ws.take j))) (fun _ i => cl - (intOf i).toNat)
            case atStart => exact ⟨0, Nat.zero_le _, rfl, by rw [List.take_zero]; rfl⟩
            case round =>
              obtain ⟨j, hj, rfl, rfl⟩ := hrel
              have hd0 := deep_ge (m) (ws.take j)
              have hd1 : deep (m) (ws.take j) ≤ 2097200 := Int.le_trans (deep_part _ ws j) hb2
              by_cases hjl : j < cl
              · have hjl' : (j : Int) < (cl : Int) := by omega
                obtain ⟨x, hx⟩ : ∃ x, ws[j]? = some x := ⟨ws[j]'(by rw [HWS.out]; exact hjl), List.getElem?_eq_getElem _⟩
                obtain ⟨x0, x1, p', ca', cl', cc', d0, d1, hcall⟩ := HKK.out j x hx
                have HD : Hid (deep (m) (ws.take (j + 1)) = max (deep (m) (ws.take j)) (x + 6)) := deep_take _ hx
                clear hx hb2
                generalize deep (m) (ws.take j) = g at *
                by_cases hgx : g < x + 6
                · go_wp2_with fail
                  refine hcall.out.mono ?_
                  rintro e' w' ⟨rfl, rfl⟩
                  go_wp2_with fail
                  go_round
                  case rel => exact ⟨j + 1, by omega, by go_num, by rw [HD.out, show max g (x + 6) = x + 6 from by omega]⟩
                  case measure => simp [intOf]; omega
                · go_wp2_with fail
                  refine hcall.out.mono ?_
                  rintro e' w' ⟨rfl, rfl⟩
                  go_wp2_with fail
                  go_round
                  case rel => exact ⟨j + 1, by omega, by go_num, by rw [HD.out, show max g (x + 6) = g from by omega]⟩
                  case measure => simp [intOf]; omega
              · have hjc : j = cl := by omega
                have HD : Hid (deep (m) (ws.take j) = deep (m) ws) := by
                  show _ = _
                  rw [List.take_of_length_le (by rw [HWS.out]; omega)]
                rw [HD.out] at hd0 hd1 ⊢
                clear hb2
                go_wp2_with fail
                go_round
                case rel => exact ⟨k + 1, by omega, by go_num, by rw [HF.out, HQ.out]⟩
                case measure => simp [intOf]; omega
      · have q' : (e.1 == 4) = false := by simp [q]
        have HQ : Hid (stepW f m e = max m ((s.size : Int) + 1)) := by
          show _ = _
          unfold stepW
          rw [if_neg q, HS.out]
        clear q hK hb2 hb3
        by_cases hm1 : m < (s.size : Int) + 1
        · rw [show max m ((s.size : Int) + 1) = (s.size : Int) + 1 from by omega] at HQ
          go_wp2_with fail
          go_round
          case rel => exact ⟨k + 1, by omega, by go_num, by rw [HF.out, HQ.out]⟩
          case measure => simp [intOf]; omega
        · rw [show max m ((s.size : Int) + 1) = m from by omega] at HQ
          go_wp2_with fail
          go_round
          case rel => exact ⟨k + 1, by omega, by go_num, by rw [HF.out, HQ.out]⟩
          case measure => simp [intOf]; omega
    · have hkn : k = n := by omega
      go_wp2_with fail
      go_ret
      refine ⟨?_, rfl⟩
      rw [List.take_of_length_le (by rw [hn.out]; omega)]; rfl

end Go.Proofs.Qxb6616355a
