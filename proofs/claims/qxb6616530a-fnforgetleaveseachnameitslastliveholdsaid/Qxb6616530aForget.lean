/-
  THE WALK of Locker.forget: under its mutex, the entry goes just if it is the hold itself.
-/
import Derived.Test.Qxb6616530aHolds
namespace Go.Proofs.Qxb6616530a
open Go.RowKit Go.MuLone

/-- A pointer that may be compared: nil, or to a block of cells. -/
def PtrIn (w : World) (v : Value) : Prop := v = .pointer none ∨ ∃ (b : Nat) (c : Array Value) (t : TypeId), v = .pointer (some ⟨b, 0, none⟩) ∧ w.heap[b]? = some (.cells c t (0, 0))

def eqv (u v : Value) : Bool :=
  match u, v with
  | .pointer none, .pointer none => true
  | .pointer (some a), .pointer (some b) => a.block == b.block
  | _, _ => false

theorem info86 : (Try.prog.info? 86).map (·.size) = some 36 := by kernel_rfl

theorem eqlIn {w : World} {u v : Value} (hu : PtrIn w u) (hv : PtrIn w v) (d : Nat) : (Op.equalIn (d + 1) 35 u v).run Try.prog w = .ok (eqv u v) w := by
  have hi := info86
  cases hp : Try.prog.info? 86 with
  | none => rw [hp] at hi; cases hi
  | some j =>
    rw [hp] at hi
    have hsz : j.size ≠ 0 := by
      have : j.size = 36 := by simpa using hi
      omega
    rcases hu with rfl | ⟨b, c, t, rfl, hb⟩ <;> rcases hv with rfl | ⟨b', c', t', rfl, hb'⟩
    · simp [Op.equalIn, run_underlying Try.underlying35, eqv]
    · simp [Op.equalIn, run_underlying Try.underlying35, eqv]
    · simp [Op.equalIn, run_underlying Try.underlying35, eqv]
    · by_cases e : b = b'
      · subst e
        simp [Op.equalIn, run_underlying Try.underlying35, sizeOf, typeInfo, hp, run_sameAddr_same, eqv]
      · have hne : (⟨b, 0, none⟩ : Addr) ≠ ⟨b', 0, none⟩ := fun h => e (by injection h)
        have e' : (b == b') = false := by simpa using e
        simp [Op.equalIn, run_underlying Try.underlying35, sizeOf, typeInfo, hp, hsz, run_sameAddr_other w hne hb hb', eqv, e']

theorem PtrIn.shape {w : World} {u : Value} (hu : PtrIn w u) : ∃ p, u = .pointer p := by
  rcases hu with rfl | ⟨b, c, t, rfl, _⟩
  · exact ⟨_, rfl⟩
  · exact ⟨_, rfl⟩

theorem eql_run {w : World} {u v : Value} (hu : PtrIn w u) (hv : PtrIn w v) : (binOp .eql 35 u v).run Try.prog w = .ok (.bool (eqv u v)) w := by
  have h := eqlIn hu hv 9999
  obtain ⟨p, rfl⟩ := hu.shape
  obtain ⟨q, rfl⟩ := hv.shape
  simp only [binOp]
  simp [Op.equal, Op.maxDepth, h]

theorem neq_run {w : World} {u v : Value} (hu : PtrIn w u) (hv : PtrIn w v) : (binOp .neq 35 u v).run Try.prog w = .ok (.bool (!eqv u v)) w := by
  have h := eqlIn hu hv 9999
  obtain ⟨p, rfl⟩ := hu.shape
  obtain ⟨q, rfl⟩ := hv.shape
  simp only [binOp]
  simp [Op.equal, Op.maxDepth, h]

theorem ptr_fr {w w' : World} {x y : Nat} {v : Value} (h : PtrIn w v) (hf : Fr w w' x y) (hx : v ≠ .pointer (some ⟨x, 0, none⟩)) (hy : v ≠ .pointer (some ⟨y, 0, none⟩)) : PtrIn w' v := by
  rcases h with h | ⟨b, c, t, rfl, hb⟩
  · left; exact h
  · right
    refine ⟨b, c, t, rfl, (hf.block b (Array.getElem?_eq_some_iff.1 hb).1 (fun e => hx (by rw [e])) (fun e => hy (by rw [e]))).trans hb⟩

/-- A hold at block H with its name. -/
def HoldAt (w : World) (H : Nat) (s : ByteArray) : Prop := ∃ c, w.heap[H]? = some (.cells c 86 (0, 0)) ∧ c[1]? = some (.string s)

theorem HoldAt.cell {w : World} {H : Nat} {s : ByteArray} (h : HoldAt w H s) : w.cell? ⟨H, 1, none⟩ = some (.string s) := by
  obtain ⟨c, hb, hc⟩ := h
  simp [World.cell?, hb, hc]
theorem HoldAt.ptr {w : World} {H : Nat} {s : ByteArray} (h : HoldAt w H s) : PtrIn w (.pointer (some ⟨H, 0, none⟩)) := by
  obtain ⟨c, hb, _⟩ := h
  exact Or.inr ⟨H, c, 86, rfl, hb⟩
theorem HoldAt.lt {w : World} {H : Nat} {s : ByteArray} (h : HoldAt w H s) : H < w.heap.size := by
  obtain ⟨c, hb, _⟩ := h
  exact (Array.getElem?_eq_some_iff.1 hb).1
theorem HoldAt.fr {w w' : World} {x y H : Nat} {s : ByteArray} (h : HoldAt w H s) (hf : Fr w w' x y) (hx : H ≠ x) (hy : H ≠ y) : HoldAt w' H s := by
  have hlt := h.lt
  obtain ⟨c, hb, hc⟩ := h
  exact ⟨c, (hf.block H hlt hx hy).trans hb, hc⟩

/-- The mutex is let go: the Locker is as it was, the map as it is. -/
theorem after_unlock {w w1 : World} {L bm n : Nat} {D : DataW Unit} (hne : L ≠ bm)
    (hf : Fr w w1 L bm) (k17 : ∃ v, w1.cell? ⟨L, 17, none⟩ = some v) (k19 : w1.cell? ⟨L, 19, none⟩ = some (.map (some bm))) (kf : w1.frozen? ⟨L, 17, none⟩ = false) (ho : w1.ownsMap Try.prog 9 ptrElem bm n D) :
    Lk (w1.setCell ⟨L, 17, none⟩ (.int .i32 0)) L bm ∧ (w1.setCell ⟨L, 17, none⟩ (.int .i32 0)).ownsMap Try.prog 9 ptrElem bm n D ∧ Fr w (w1.setCell ⟨L, 17, none⟩ (.int .i32 0)) L bm := by
  obtain ⟨v, k17⟩ := k17
  refine ⟨⟨World.cell?_setCell_same w1 ⟨L, 17, none⟩ (.int .i32 0) k17, by rw [World.frozen?_setCell]; exact kf, (World.cell?_setCell_other w1 ⟨L, 17, none⟩ ⟨L, 19, none⟩ _ (by simp)).trans k19, hne⟩, ho.setCell (a := ⟨L, 17, none⟩) (fun e => hne e.symm) _, hf.trans (Fr.set _ _ _ _ _)⟩

/-- What the map holds after forget(h). -/
def forgot (D : DataW Unit) (s : ByteArray) (H : Nat) : DataW Unit := if eqv (under D s) (.pointer (some ⟨H, 0, none⟩)) = true then D.del (key s) else D

set_option maxHeartbeats 1000000 in
theorem forget_any (L bm H n : Nat) (s : ByteArray) (D : DataW Unit) (w : World) (hl : Lk w L bm) (hown : w.ownsMap Try.prog 9 ptrElem bm n D) (hh : HoldAt w H s) (hs : s.size ≤ maxLen) (hHL : H ≠ L) (hHb : H ≠ bm)
    (hu : PtrIn w (under D s)) (huL : under D s ≠ .pointer (some ⟨L, 0, none⟩)) :
    Calls Try.prog 23 #[.pointer (some ⟨L, 0, none⟩), .pointer (some ⟨H, 0, none⟩)] w fun e w' => e = .returned (.tuple #[]) ∧ Lk w' L bm ∧ w'.ownsMap Try.prog 9 ptrElem bm n (forgot D s H) ∧ Fr w w' L bm := by
  obtain ⟨c17, f17, c19, hne⟩ := hl
  have fr1 : Fr w (w.setCell ⟨L, 17, none⟩ (.int .i32 1)) L bm := Fr.set _ _ _ _ _
  have hown1 : (w.setCell ⟨L, 17, none⟩ (.int .i32 1)).ownsMap Try.prog 9 ptrElem bm n D := hown.setCell (a := ⟨L, 17, none⟩) (fun e => hne e.symm) _
  have hlk : ∀ m, (Instr.lookup 45 (.map (some bm)) (.string s) false).run Try.prog ((w.setCell ⟨L, 17, none⟩ (.int .i32 1)).drewN m) = .ok (under D s) ((w.setCell ⟨L, 17, none⟩ (.int .i32 1)).drewN m) :=
    fun m => look_holds hown1 s hs _ rfl
  have hlk0 : (Instr.lookup 45 (.map (some bm)) (.string s) false).run Try.prog (w.setCell ⟨L, 17, none⟩ (.int .i32 1)) = .ok (under D s) (w.setCell ⟨L, 17, none⟩ (.int .i32 1)) := look_holds hown1 s hs _ rfl
  have hp1 : ∀ m, PtrIn ((w.setCell ⟨L, 17, none⟩ (.int .i32 1)).drewN m) (under D s) := fun m => by
    by_cases e : under D s = .pointer (some ⟨bm, 0, none⟩)
    · exfalso
      rcases hu with h | ⟨b, c, t, h, hb⟩
      · rw [h] at e; cases e
      · rw [h] at e
        have eb : b = bm := by simpa using e
        subst eb
        obtain ⟨es, clock, hb', _⟩ := hown
        rw [hb] at hb'; cases hb'
    · exact ptr_fr hu (fr1.drew m) huL e
  have hq1 : ∀ m, PtrIn ((w.setCell ⟨L, 17, none⟩ (.int .i32 1)).drewN m) (.pointer (some ⟨H, 0, none⟩)) := fun m => (hh.fr (fr1.drew m) hHL hHb).ptr
  have hcmp := fun m => eql_run (hp1 m) (hq1 m)
  have hcmp0 : (binOp .eql 35 (under D s) (.pointer (some ⟨H, 0, none⟩))).run Try.prog (w.setCell ⟨L, 17, none⟩ (.int .i32 1)) = .ok (.bool (eqv (under D s) (.pointer (some ⟨H, 0, none⟩)))) (w.setCell ⟨L, 17, none⟩ (.int .i32 1)) := eql_run (hp1 0) (hq1 0)
  have c1 := hh.cell
  obtain ⟨vp, hvp⟩ := hu.shape
  have HD : Hid (forgot D s H = if eqv (under D s) (.pointer (some ⟨H, 0, none⟩)) = true then D.del (key s) else D) := rfl
  have HO := hown1
  clear hp1 hq1 hu huL hh fr1 hown hown1
  rw [hvp] at hlk hlk0 hcmp hcmp0 HD
  clear hvp
  generalize eqv (.pointer vp) (.pointer (some ⟨H, 0, none⟩)) = q at *
  cases q
  · have HD0 : Hid (forgot D s H = D) := by show _ = _; rw [HD.out]; simp
    clear HD
    go_enter_defers Try.func23, Try.ntmps23
    go_wp2_with (go_at_call 25; refine (lock_free Try.muLib ⟨L, 17, none⟩ _ c17 f17).mono ?_; rintro e w' ⟨rfl, rfl⟩)
    go_quiet (fail)
    go_wp2_with fail
    refine leaves_cons (f := 26) (args := #[.pointer (some ⟨L, 17, none⟩)]) (by simp) (by simp [go_sem]) ?_
    refine (unlock_deferred Try.muLib ⟨L, 17, none⟩ .returning _ ?_ ?_).mono ?_
    · exact World.cell?_setCell_same w ⟨L, 17, none⟩ (.int .i32 1) c17
    · simp [f17]
    rintro e u' w'' ⟨rfl, rfl, rfl⟩
    refine ⟨_, results_none rfl _ _ _, rfl, ?_⟩
    rw [HD0.out]
    exact after_unlock hne ((Fr.set _ _ _ _ _).drew nq) ⟨_, World.cell?_setCell_same w ⟨L, 17, none⟩ (.int .i32 1) c17⟩ ((World.cell?_setCell_other w ⟨L, 17, none⟩ ⟨L, 19, none⟩ _ (by simp)).trans c19) (by simp [f17]) HO
  · have HD0 : Hid (forgot D s H = D.del (key s)) := by show _ = _; rw [HD.out]; simp
    clear HD
    have hdel : ∀ m ty, ∃ w2, (Builtin.delete_ #[45, 9] ty #[.map (some bm), .string s]).run Try.prog ((w.setCell ⟨L, 17, none⟩ (.int .i32 1)).drewN m) = .ok (.tuple #[]) w2 ∧ w2.ownsMap Try.prog 9 ptrElem bm n (D.del (key s)) ∧ ((w.setCell ⟨L, 17, none⟩ (.int .i32 1)).drewN m).mapTurned w2 bm := fun m ty =>
      World.ownsMap.drop (w := (w.setCell ⟨L, 17, none⟩ (.int .i32 1)).drewN m) HO law9 Try.underlying45 (key_of hs) ty
    go_enter_defers Try.func23, Try.ntmps23
    go_wp2_with (go_at_call 25; refine (lock_free Try.muLib ⟨L, 17, none⟩ _ c17 f17).mono ?_; rintro e w' ⟨rfl, rfl⟩)
    go_quiet (fail)
    go_wp2_with fail
    obtain ⟨w2, hrun, hown2, hturn⟩ := hdel (nq + 1) 0
    clear hdel hlk hlk0 hcmp hcmp0
    have HO2 : Hid (w2.ownsMap Try.prog 9 ptrElem bm n (D.del (key s)) ∧ Fr (w.setCell ⟨L, 17, none⟩ (.int .i32 1)) w2 bm bm) := ⟨hown2, Fr.from_drew (Fr.of_grown hturn.grown)⟩
    clear hown2 hturn HO
    go_region
    clear hrun
    have k17 : w2.cell? ⟨L, 17, none⟩ = some (.int .i32 1) := HO2.out.2.cell (a := ⟨L, 17, none⟩) hne hne (World.cell?_setCell_same w ⟨L, 17, none⟩ (.int .i32 1) c17)
    have k19 : w2.cell? ⟨L, 19, none⟩ = some (.map (some bm)) := HO2.out.2.cell (a := ⟨L, 19, none⟩) hne hne ((World.cell?_setCell_other w ⟨L, 17, none⟩ ⟨L, 19, none⟩ _ (by simp)).trans c19)
    have kf : w2.frozen? ⟨L, 17, none⟩ = false := (HO2.out.2.frozen (a := ⟨L, 17, none⟩) (by simpa using cell_lt c17) hne hne).trans (by simp [f17])
    refine leaves_cons (f := 26) (args := #[.pointer (some ⟨L, 17, none⟩)]) (by simp) (by simp [go_sem]) ?_
    refine (unlock_deferred Try.muLib ⟨L, 17, none⟩ .returning _ k17 kf).mono ?_
    rintro e u' w'' ⟨rfl, rfl, rfl⟩
    refine ⟨_, results_none rfl _ _ _, rfl, ?_⟩
    rw [HD0.out]
    exact after_unlock hne ((Fr.set _ _ _ _ _).trans (HO2.out.2.wide L)) ⟨_, k17⟩ k19 kf HO2.out.1

set_option maxHeartbeats 400000 in
theorem zzforget_any (L bm H n : Nat) (s : ByteArray) (D : DataW Unit) (w : World) (hl : Lk w L bm) (hown : w.ownsMap Try.prog 9 ptrElem bm n D) (hh : HoldAt w H s) (hs : s.size ≤ maxLen) (hHL : H ≠ L) (hHb : H ≠ bm)
    (hu : PtrIn w (under D s)) (huL : under D s ≠ .pointer (some ⟨L, 0, none⟩)) :
    Calls Try.prog 15 #[.pointer (some ⟨L, 0, none⟩), .pointer (some ⟨H, 0, none⟩)] w fun e w' => e = .returned (.tuple #[]) ∧ Lk w' L bm ∧ w'.ownsMap Try.prog 9 ptrElem bm n (forgot D s H) ∧ Fr w w' L bm := by
  have HC : Hid (Calls Try.prog 23 #[.pointer (some ⟨L, 0, none⟩), .pointer (some ⟨H, 0, none⟩)] w fun e w' => e = .returned (.tuple #[]) ∧ Lk w' L bm ∧ w'.ownsMap Try.prog 9 ptrElem bm n (forgot D s H) ∧ Fr w w' L bm) :=
    forget_any L bm H n s D w hl hown hh hs hHL hHb hu huL
  clear hl hown hh hu huL
  go_enter Try.func15, Try.ntmps15
  go_wp2_with fail
  refine HC.out.mono ?_
  rintro e w1 ⟨rfl, h1, h2, h3⟩
  go_wp2_with fail
  go_end0
  exact ⟨rfl, h1, h2, h3⟩

end Go.Proofs.Qxb6616530a
