/-
  THE WALKS of Catchup.told: its closure, slices.IndexFunc, slices.ContainsFunc, told itself, over a slice of Peers in memory and a map of the silent.
-/
import Derived.Test.Qxb6616324aNode
import Derived.Maps.OwnSet
import Derived.LoopTactic
namespace Go.Proofs.Qxb6616324a
open Go.RowKit

/-- Block bm is a map[uint64]uint64 that answers 'f id' at each key id, in whatever world in which the block is as it is in w. -/
def Looks (w : World) (bm : Nat) (f : Int → Int) : Prop :=
  bm < w.heap.size ∧ ∀ wx : World, wx.heap[bm]? = w.heap[bm]? → ∀ id : Int, (Lit.int .u64 id).wf = true → (Instr.lookup 30 (.map (some bm)) (.int .u64 id) false).run Try.prog wx = .ok (.int .u64 (f id)) wx

theorem Looks.below {w w' : World} {bm : Nat} {f : Int → Int} (h : Looks w bm f) (hb : Below w.heap.size w w') : Looks w' bm f :=
  ⟨Nat.lt_of_lt_of_le h.1 hb.size, fun wx hx id hid => h.2 wx (hx.trans (hb.block bm h.1)) id hid⟩

/-- The peers' row: element i's two cells. -/
def Peers (w : World) (b off n : Nat) (I Hd : Nat → Int) : Prop :=
  b < w.heap.size ∧ ∀ i, i < n → w.cell? ⟨b, off + i * 2, none⟩ = some (.int .u64 (I i)) ∧ w.cell? ⟨b, off + i * 2 + 1, none⟩ = some (.int .u64 (Hd i)) ∧ (Lit.int .u64 (I i)).wf = true

theorem Peers.below {w w' : World} {b off n : Nat} {I Hd : Nat → Int} (h : Peers w b off n I Hd) (hb : Below w.heap.size w w') : Peers w' b off n I Hd :=
  ⟨Nat.lt_of_lt_of_le h.1 hb.size, fun i hi => by
    obtain ⟨a, c, d⟩ := h.2 i hi
    exact ⟨(hb.cell (p := ⟨b, _, none⟩) h.1).trans a, (hb.cell (p := ⟨b, _, none⟩) h.1).trans c, d⟩⟩

/-- What the closure of told captures. -/
structure Cap (w : World) (bf bc bn bm : Nat) (frm : Int) (f : Int → Int) : Prop where
  cf : w.cell? ⟨bf, 0, none⟩ = some (.int .u64 frm)
  cc : w.cell? ⟨bc, 0, none⟩ = some (.pointer (some ⟨bn, 0, none⟩))
  cn : w.cell? ⟨bn, 7, none⟩ = some (.map (some bm))
  hf : bf < w.heap.size
  hc : bc < w.heap.size
  hn : bn < w.heap.size
  lk : Looks w bm f

theorem Cap.below {w w' : World} {bf bc bn bm : Nat} {frm : Int} {f : Int → Int} (h : Cap w bf bc bn bm frm f) (hb : Below w.heap.size w w') : Cap w' bf bc bn bm frm f := by
  obtain ⟨cf, cc, cn, hf, hc, hn, lk⟩ := h
  have := hb.size
  exact ⟨(hb.cell (p := ⟨bf, 0, none⟩) hf).trans cf, (hb.cell (p := ⟨bc, 0, none⟩) hc).trans cc, (hb.cell (p := ⟨bn, 7, none⟩) hn).trans cn, by omega, by omega, by omega, lk.below hb⟩

/-- The closure's test. -/
def tst (frm : Int) (f : Int → Int) (id held : Int) : Bool := decide (frm ≤ held) && (f id != frm)

set_option maxHeartbeats 400000 in
theorem pred_any (bf bc bn bm : Nat) (frm id held : Int) (f : Int → Int) (w : World) (h : Cap w bf bc bn bm frm f) (hid : (Lit.int .u64 id).wf = true) :
    Calls Try.prog 16 #[.agg #[.int .u64 id, .int .u64 held], .pointer (some ⟨bf, 0, none⟩), .pointer (some ⟨bc, 0, none⟩)] w fun e w' => e = .returned (.bool (tst frm f id held)) ∧ Below w.heap.size w w' := by
  obtain ⟨cf, cc, cn, hf, hc, hn, lk⟩ := h
  by_cases hd : frm ≤ held
  · have hd' : decide (frm ≤ held) = true := by simpa using hd
    have hblk : (w.alloc (.cells #[.int .u64 id, .int .u64 held] 40)).heap[bm]? = w.heap[bm]? := Below.heap_alloc w _ bm lk.1
    have hl : ∀ n, (Instr.lookup 30 (.map (some bm)) (.int .u64 id) false).run Try.prog ((w.alloc (.cells #[.int .u64 id, .int .u64 held] 40)).drewN n) = .ok (.int .u64 (f id)) ((w.alloc (.cells #[.int .u64 id, .int .u64 held] 40)).drewN n) :=
      fun n => lk.2 _ (by rw [← hblk]; exact congrArg (fun h : Array Obj => h[bm]?) (World.drewN_alike _ n).1) id hid
    have hl0 : (Instr.lookup 30 (.map (some bm)) (.int .u64 id) false).run Try.prog (w.alloc (.cells #[.int .u64 id, .int .u64 held] 40)) = .ok (.int .u64 (f id)) (w.alloc (.cells #[.int .u64 id, .int .u64 held] 40)) := lk.2 _ hblk id hid
    generalize hv : f id = v at *
    have HV : Hid (f id = v) := hv
    clear hv hblk lk
    go_enter Try.func16, Try.ntmps16
    go_wp2
    go_quiet (fail)
    go_wp2
    go_ret
    refine ⟨?_, below_drewN ((Below.refl _ _).alloc (Nat.le_refl _) _) _⟩
    unfold tst
    rw [HV.out, hd']
    simp
  · have hd' : decide (frm ≤ held) = false := by simpa using hd
    clear lk
    go_enter Try.func16, Try.ntmps16
    go_wp2
    go_quiet (fail)
    go_wp2
    go_ret
    refine ⟨?_, below_drewN ((Below.refl _ _).alloc (Nat.le_refl _) _) _⟩
    unfold tst
    rw [hd']
    simp

/-- Does some element below n pass the test? -/
def someB (n : Nat) (p : Nat → Bool) : Bool := (List.range n).any p

theorem someB_true {n i : Nat} {p : Nat → Bool} (hi : i < n) (h : p i = true) : someB n p = true := by
  unfold someB; rw [List.any_eq_true]; exact ⟨i, List.mem_range.2 hi, h⟩
theorem someB_false {n : Nat} {p : Nat → Bool} (h : ∀ i, i < n → p i = false) : someB n p = false := by
  unfold someB; rw [List.any_eq_false]; intro i hi; rw [h i (List.mem_range.1 hi)]; simp

set_option maxHeartbeats 800000 in
theorem index_any (bs off n cap bf bc bn bm : Nat) (frm : Int) (f : Int → Int) (I Hd : Nat → Int) (w : World) (hn : n ≤ 65536) (hp : Peers w bs off n I Hd) (h : Cap w bf bc bn bm frm f) :
    Calls Try.prog 17 #[.slice (some ⟨bs, off, none⟩) n cap, .func (.func 16) #[] #[.pointer (some ⟨bf, 0, none⟩), .pointer (some ⟨bc, 0, none⟩)]] w fun e w' =>
      (∃ r : Int, e = .returned (.int .i64 r) ∧ decide (0 ≤ r) = someB n (fun i => tst frm f (I i) (Hd i))) ∧ Below w.heap.size w w' := by
  go_enter Try.func17, Try.ntmps17
  go_wp2
  go_loopw [8] (fun i wr => ∃ k : Nat, k ≤ n ∧ i = .int .i64 k ∧ (∀ j, j < k → tst frm f (I j) (Hd j) = false) ∧ Below w.heap.size w wr) (fun i _ => n - (intOf i).toNat)
  case atStart => exact ⟨0, Nat.zero_le _, rfl, fun j hj => absurd hj (Nat.not_lt_zero j), Below.refl _ _⟩
  case round =>
    obtain ⟨k, hk, rfl, hno, hb⟩ := hrel
    have HNO : Hid (∀ j, j < k → tst frm f (I j) (Hd j) = false) := hno
    clear hno
    by_cases hlt : k < n
    · obtain ⟨c0, c1, hw0⟩ := (hp.below hb).2 k hlt
      have hlt' : (k : Int) < (n : Int) := by omega
      go_wp2_with fail
      refine (pred_any bf bc bn bm frm (I k) (Hd k) f _ (h.below hb) hw0).mono ?_
      rintro e w1 ⟨rfl, hb1⟩
      have hb2 : Below w.heap.size w w1 := hb.trans (hb1.mono hb.size)
      generalize ht : tst frm f (I k) (Hd k) = t
      cases t
      · have HT : Hid (tst frm f (I k) (Hd k) = false) := ht
        clear ht
        go_wp2_with fail
        go_roundw
        case rel => exact ⟨k + 1, by omega, by go_num, fun j hj => by
          rcases Nat.lt_or_eq_of_le (Nat.le_of_lt_succ hj) with hj | rfl
          · exact HNO.out j hj
          · exact HT.out, hb2⟩
        case measure => simp [intOf]; omega
      · have HT : Hid (tst frm f (I k) (Hd k) = true) := ht
        clear ht
        go_wp2_with fail
        go_ret
        refine ⟨⟨k, rfl, ?_⟩, hb2⟩
        have : someB n (fun i => tst frm f (I i) (Hd i)) = true := someB_true hlt HT.out
        rw [this]; simp
    · go_wp2
      go_ret
      refine ⟨⟨-1, rfl, ?_⟩, hb⟩
      have : someB n (fun i => tst frm f (I i) (Hd i)) = false := someB_false fun i hi => HNO.out i (by omega)
      rw [this]; simp

/-- An empty slice: whatever its address. -/
theorem index_none (a : Option Addr) (cap : Nat) (g : Value) (w : World) :
    Calls Try.prog 17 #[.slice a 0 cap, g] w fun e w' => e = .returned (.int .i64 (-1)) ∧ w' = w := by
  go_enter Try.func17, Try.ntmps17
  go_wp2
  go_loop [8] (fun i => i = .int .i64 0) (fun _ => 0)
  case atStart => rfl
  case round =>
    subst hrel
    go_wp2
    go_ret
    exact ⟨rfl, rfl⟩

set_option maxHeartbeats 400000 in
theorem contains_any (bs off n cap bf bc bn bm : Nat) (frm : Int) (f : Int → Int) (I Hd : Nat → Int) (w : World) (hn : n ≤ 65536) (hp : Peers w bs off n I Hd) (h : Cap w bf bc bn bm frm f) :
    Calls Try.prog 15 #[.slice (some ⟨bs, off, none⟩) n cap, .func (.func 16) #[] #[.pointer (some ⟨bf, 0, none⟩), .pointer (some ⟨bc, 0, none⟩)]] w fun e w' =>
      e = .returned (.bool (someB n (fun i => tst frm f (I i) (Hd i)))) ∧ Below w.heap.size w w' := by
  go_enter Try.func15, Try.ntmps15
  go_wp2_with fail
  refine (index_any bs off n cap bf bc bn bm frm f I Hd _ hn hp h).mono ?_
  rintro e w1 ⟨⟨r, rfl, hr⟩, hb⟩
  have HR : Hid (decide (0 ≤ r) = someB n (fun i => tst frm f (I i) (Hd i))) := hr
  clear hr
  go_wp2_with fail
  go_ret
  refine ⟨?_, hb⟩
  rw [← HR.out]; rfl

set_option maxHeartbeats 400000 in
theorem contains_none (a : Option Addr) (cap : Nat) (g : Value) (w : World) :
    Calls Try.prog 15 #[.slice a 0 cap, g] w fun e w' => e = .returned (.bool false) ∧ w' = w := by
  go_enter Try.func15, Try.ntmps15
  go_wp2_with fail
  refine (index_none a cap g _).mono ?_
  rintro e w1 ⟨rfl, rfl⟩
  go_wp2_with fail
  go_ret
  exact ⟨rfl, rfl⟩

/-- A Catchup at block bn whose silent map is block bm. -/
structure Ctch (w : World) (bn bm : Nat) (f : Int → Int) : Prop where
  cn : w.cell? ⟨bn, 7, none⟩ = some (.map (some bm))
  hn : bn < w.heap.size
  lk : Looks w bm f

set_option maxHeartbeats 400000 in
theorem told_any (bs off n cap bn bm : Nat) (frm : Int) (f : Int → Int) (I Hd : Nat → Int) (w : World) (hn : n ≤ 65536) (hp : Peers w bs off n I Hd) (h : Ctch w bn bm f) :
    Calls Try.prog 12 #[.pointer (some ⟨bn, 0, none⟩), .int .u64 frm, .slice (some ⟨bs, off, none⟩) n cap] w fun e w' =>
      e = .returned (.bool (someB n (fun i => tst frm f (I i) (Hd i)))) ∧ Below w.heap.size w w' := by
  have hmf : ∀ (fn : Fn) (first cap : Array Value) (w : World), (Instr.makeFunc fn first cap).run Try.prog w = .ok (.func fn first cap) w := fun _ _ _ _ => rfl
  have hb : Below w.heap.size w ((w.alloc (.cells #[.pointer (some ⟨bn, 0, none⟩)] 28)).alloc (.cells #[.int .u64 frm] 22)) := ((Below.refl _ _).alloc (Nat.le_refl _) _).alloc (by simp) _
  have hc : Cap ((w.alloc (.cells #[.pointer (some ⟨bn, 0, none⟩)] 28)).alloc (.cells #[.int .u64 frm] 22)) (w.heap.size + 1) w.heap.size bn bm frm f := by
    obtain ⟨cn, hn, lk⟩ := h
    have e := hb.cell (p := ⟨bn, 7, none⟩) hn
    exact ⟨by simp [go_sem], by simp [go_sem], e.trans cn, by simp, by simp; omega, by simp; omega, lk.below hb⟩
  have hp' := hp.below hb
  go_enter Try.func12, Try.ntmps12
  go_wp2_with fail
  refine (contains_any bs off n cap _ _ bn bm frm f I Hd _ hn hp' hc).mono ?_
  rintro e w1 ⟨rfl, hb1⟩
  go_wp2_with fail
  go_ret
  exact ⟨rfl, hb.trans (hb1.mono (by simp; omega))⟩

set_option maxHeartbeats 400000 in
theorem told_none (a : Option Addr) (cap bn : Nat) (frm : Int) (w : World) :
    Calls Try.prog 12 #[.pointer (some ⟨bn, 0, none⟩), .int .u64 frm, .slice a 0 cap] w fun e w' => e = .returned (.bool false) ∧ Below w.heap.size w w' := by
  have hmf : ∀ (fn : Fn) (first cap : Array Value) (w : World), (Instr.makeFunc fn first cap).run Try.prog w = .ok (.func fn first cap) w := fun _ _ _ _ => rfl
  have hb : Below w.heap.size w ((w.alloc (.cells #[.pointer (some ⟨bn, 0, none⟩)] 28)).alloc (.cells #[.int .u64 frm] 22)) := ((Below.refl _ _).alloc (Nat.le_refl _) _).alloc (by simp) _
  go_enter Try.func12, Try.ntmps12
  go_wp2_with fail
  refine (contains_none a cap _ _).mono ?_
  rintro e w1 ⟨rfl, rfl⟩
  go_wp2_with fail
  go_ret
  exact ⟨rfl, hb⟩

set_option maxHeartbeats 400000 in
theorem zztold_any (bs off n cap bn bm : Nat) (frm : Int) (f : Int → Int) (I Hd : Nat → Int) (w : World) (hn : n ≤ 65536) (hp : Peers w bs off n I Hd) (h : Ctch w bn bm f) :
    Calls Try.prog 7 #[.pointer (some ⟨bn, 0, none⟩), .int .u64 frm, .slice (some ⟨bs, off, none⟩) n cap] w fun e w' =>
      e = .returned (.bool (someB n (fun i => tst frm f (I i) (Hd i)))) ∧ Below w.heap.size w w' := by
  go_enter Try.func7, Try.ntmps7
  go_wp2_with fail
  refine (told_any bs off n cap bn bm frm f I Hd _ hn hp h).mono ?_
  rintro e w1 ⟨rfl, hb1⟩
  go_wp2_with fail
  go_ret
  exact ⟨rfl, hb1⟩

set_option maxHeartbeats 400000 in
theorem zztold_none (a : Option Addr) (cap bn : Nat) (frm : Int) (w : World) :
    Calls Try.prog 7 #[.pointer (some ⟨bn, 0, none⟩), .int .u64 frm, .slice a 0 cap] w fun e w' => e = .returned (.bool false) ∧ Below w.heap.size w w' := by
  go_enter Try.func7, Try.ntmps7
  go_wp2_with fail
  refine (told_none a cap bn frm _).mono ?_
  rintro e w1 ⟨rfl, hb1⟩
  go_wp2_with fail
  go_ret
  exact ⟨rfl, hb1⟩

set_option maxHeartbeats 400000 in
theorem newc_any (bm : Nat) (w : World) :
    Calls Try.prog 8 #[.map (some bm)] w fun e w' => ∃ c : Array Value, c[7]? = some (.map (some bm)) ∧ e = .returned (.pointer (some ⟨w.heap.size, 0, none⟩)) ∧ w' = w.alloc (.cells c 43) := by
  go_enter Try.func8, Try.ntmps8
  go_wp2
  go_ret
  exact ⟨_, rfl, rfl, rfl⟩

theorem ctch_new {w : World} {bm : Nat} {f : Int → Int} (lk : Looks w bm f) (c : Array Value) (hc : c[7]? = some (.map (some bm))) : Ctch (w.alloc (.cells c 43)) w.heap.size bm f :=
  ⟨by simp [go_sem, hc], by simp, lk.below ((Below.refl _ _).alloc (Nat.le_refl _) _)⟩

set_option maxHeartbeats 400000 in
theorem bytes_no (frm : Int) (a : Option Addr) (n cap : Nat) (w : World) (h : 1048576 < n) (hm : n ≤ 9223372036854775807) :
    Calls Try.prog 5 #[.int .u64 frm, .slice a n cap] w fun e w' => e = .returned (.bool false) ∧ w' = w := by
  go_enter Try.func5, Try.ntmps5
  go_wp2
  go_ret
  exact ⟨rfl, rfl⟩

set_option maxHeartbeats 400000 in
theorem bytes_yes (frm : Int) (a : Option Addr) (n cap : Nat) (w : World) (h : n ≤ 1048576) :
    Calls Try.prog 5 #[.int .u64 frm, .slice a n cap] w fun e w' => e = .returned (.bool true) ∧ w' = w := by
  go_enter Try.func5, Try.ntmps5
  go_wp2
  go_ret
  exact ⟨rfl, rfl⟩

end Go.Proofs.Qxb6616324a
