import JvmDerived
import JvmDerived.Pilot.@@N@@Statement
import JvmDerived.Pilot.@@N@@Code
set_option linter.unusedVariables false
set_option linter.unusedSimpArgs false
@@BLOCK:NumsL.lean.txt@@
namespace Jvm.Pilot.@@N@@
open Jvm Jvm.ClassFile Sem Op Lib Jvm.Free Jvm.Stand Jvm.LawKit Jvm.RoadKit Bundle Jvm.Pilot.@@N@@.Jvm.D
/-- from T the run comes to an end of which P speaks -/
def Go (p : Program) (e : Env) (below : List Frame) (P : Outcome → State → Prop) (T : State) : Prop := ∃ s₂ o, Steps p.tables e below T s₂ ∧ s₂.status = .running ∧ Ended s₂ below o ∧ P o s₂
theorem Go.via {p : Program} {e : Env} {below : List Frame} {P : Outcome → State → Prop} {T T' : State} (h : ∀ t, Steps p.tables e below T' t → Steps p.tables e below T t) (g : Go p e below P T') : Go p e below P T := by
  obtain ⟨s₂, o, a, b⟩ := g
  exact ⟨s₂, o, h _ a, b⟩
theorem Go.into {p : Program} {e : Env} {below : List Frame} {P : Outcome → State → Prop} {T : State} {g g' : JFrame} (q : g = g') (h : Go p e below P (T.setTop g')) : ∃ s₂ o, Steps p.tables e below (T.setTop g) s₂ ∧ s₂.status = .running ∧ Ended s₂ below o ∧ P o s₂ := by
  subst q; exact h
section Ret
variable {p : Program} {l : Launch} {e : Env} {R : Room} {s : State} {m : MethodId} {args : Array Value} {below : List Frame} {meth : Method} {c : Code} {T : State} {locs : List Loc} {cells slots K N : Nat}
theorem Go.fin (X : Stand p l e R s m args below meth c T locs cells slots) (hlk : meth.locks = false) {v : Option Value} (hv : meth.sig.returnType = none → v = none) {Q : Option Value → Heap → List Loc → Prop} {g : JFrame}
    (st : ∀ fs, (∀ (f : JFrame) (acts : List Action), f.method = m → f.locked = none → f.entered = [] → (doReturn e (T.setTop f) acts v).1 = T.setFrames fs) → Steps p.tables e below (T.setTop g) (T.setFrames fs))
    (hk : cells ≤ K) (hn : slots ≤ N) (hq : Q v T.heap locs) : Go p e below (fun o u => ∃ v L, o = .returned v ∧ Q v u.heap L ∧ FrameEnd s o u L K N) (T.setTop g) := by
  obtain ⟨fs, hr, hrun, hended, hW, hsame⟩ := X.leave (v := v) hv
  exact ⟨_, _, st fs hr, hrun, hended, _, _, rfl, hq, ⟨_, rfl⟩, hW, hsame.mono hk hn⟩
theorem Go.retI (X : Stand p l e R s m args below meth c T locs cells slots) (hx : p.tables.exec = Jvm.exec) (hlk : meth.locks = false) {Q : Option Value → Heap → List Loc → Prop} {pc : Nat} {Ls : Array Slot} {z : Int32} {rest : List Value} (hret : meth.sig.returnType = some .int) (hd : decode c.code pc = .ok (.ireturn, 1))
    (hk : cells ≤ K) (hn : slots ≤ N) (hq : Q (some (.int z)) T.heap locs) : Go p e below (fun o u => ∃ v L, o = .returned v ∧ Q v u.heap L ∧ FrameEnd s o u L K N) (T.setTop (mkF m pc Ls (.int z :: rest))) :=
  Go.fin X hlk (v := some (.int z)) (fun h => by rw [hret] at h; cases h) (fun fs hr => retOut X hx hret rfl (Or.inl ⟨rfl, Or.inl rfl, _, rfl⟩) hd hr) hk hn hq
theorem Go.retN (X : Stand p l e R s m args below meth c T locs cells slots) (hx : p.tables.exec = Jvm.exec) (hlk : meth.locks = false) {Q : Option Value → Heap → List Loc → Prop} {pc : Nat} {Ls : Array Slot} {z : Int32} {rest : List Value} {t : FieldType} (hret : meth.sig.returnType = some t) (ht : t = .boolean ∨ t = .byte ∨ t = .char ∨ t = .short) (hd : decode c.code pc = .ok (.ireturn, 1))
    (hk : cells ≤ K) (hn : slots ≤ N) (hq : Q (some (.int (nar t z))) T.heap locs) : Go p e below (fun o u => ∃ v L, o = .returned v ∧ Q v u.heap L ∧ FrameEnd s o u L K N) (T.setTop (mkF m pc Ls (.int z :: rest))) :=
  Go.fin X hlk (v := some (.int (nar t z))) (fun h => by rw [hret] at h; cases h) (fun fs hr => Jvm.RoadKit.retN X hx hret ht hd hr) hk hn hq
theorem Go.retJ (X : Stand p l e R s m args below meth c T locs cells slots) (hx : p.tables.exec = Jvm.exec) (hlk : meth.locks = false) {Q : Option Value → Heap → List Loc → Prop} {pc : Nat} {Ls : Array Slot} {z : Int64} {rest : List Value} (hret : meth.sig.returnType = some .long) (hd : decode c.code pc = .ok (.lreturn, 1))
    (hk : cells ≤ K) (hn : slots ≤ N) (hq : Q (some (.long z)) T.heap locs) : Go p e below (fun o u => ∃ v L, o = .returned v ∧ Q v u.heap L ∧ FrameEnd s o u L K N) (T.setTop (mkF m pc Ls (.long z :: rest))) :=
  Go.fin X hlk (v := some (.long z)) (fun h => by rw [hret] at h; cases h) (fun fs hr => retOut X hx hret rfl (Or.inr (Or.inl ⟨rfl, rfl, _, rfl⟩)) hd hr) hk hn hq
theorem Go.retR (X : Stand p l e R s m args below meth c T locs cells slots) (hx : p.tables.exec = Jvm.exec) (hlk : meth.locks = false) {Q : Option Value → Heap → List Loc → Prop} {pc : Nat} {Ls : Array Slot} {w : Value} {rest : List Value} {t : FieldType} (hret : meth.sig.returnType = some t) (ht : t.isReference = true) (hw : w.isRef = true) (hd : decode c.code pc = .ok (.areturn, 1))
    (hk : cells ≤ K) (hn : slots ≤ N) (hq : Q (some w) T.heap locs) : Go p e below (fun o u => ∃ v L, o = .returned v ∧ Q v u.heap L ∧ FrameEnd s o u L K N) (T.setTop (mkF m pc Ls (w :: rest))) :=
  Go.fin X hlk (v := some w) (fun h => by rw [hret] at h; cases h) (fun fs hr => retOut X hx hret (by rcases ref_cases hw with rfl | ⟨z, rfl⟩ <;> cases t <;> rfl) (Or.inr (Or.inr (Or.inr (Or.inr ⟨rfl, ht, hw⟩)))) hd hr) hk hn hq
theorem Go.retV (X : Stand p l e R s m args below meth c T locs cells slots) (hx : p.tables.exec = Jvm.exec) (hlk : meth.locks = false) {Q : Option Value → Heap → List Loc → Prop} {pc : Nat} {Ls : Array Slot} (hret : meth.sig.returnType = none) (hd : decode c.code pc = .ok (.return_, 1))
    (hk : cells ≤ K) (hn : slots ≤ N) (hq : Q none T.heap locs) : Go p e below (fun o u => ∃ v L, o = .returned v ∧ Q v u.heap L ∧ FrameEnd s o u L K N) (T.setTop (mkF m pc Ls [])) :=
  Go.fin X hlk (v := none) (fun _ => rfl) (fun fs hr => X.returnOut hx hret hd hr) hk hn hq
theorem Go.retNW {vm₁ : Vm} (X : Stand p l e R (s.setVm vm₁) m args below meth c T locs cells slots) (hx : p.tables.exec = Jvm.exec) {n : Nat} (hS : s.Since vm₁ n) (hnn : n ≤ T.heap.size) (hlk : meth.locks = false) {Q : Option Value → Heap → List Loc → Prop} {pc : Nat} {Ls : Array Slot} {z : Int32} {rest : List Value} {t : FieldType} (hret : meth.sig.returnType = some t) (ht : t = .boolean ∨ t = .byte ∨ t = .char ∨ t = .short) (hd : decode c.code pc = .ok (.ireturn, 1))
    (hk : cells ≤ K) (hn : slots ≤ N) (hq : Q (some (.int (nar t z))) T.heap locs) : Go p e below (fun o u => ∃ v L, o = .returned v ∧ Q v u.heap L ∧ ReturnedEndW s o u L K N) (T.setTop (mkF m pc Ls (.int z :: rest))) := by
  obtain ⟨fs, hr, hrun, hended, h1, h2, h3, h4⟩ := X.leaveW hS hnn (v := some (.int (nar t z))) (fun h => by rw [hret] at h; cases h) hlk
  exact ⟨_, _, Jvm.RoadKit.retN X hx hret ht hd hr, hrun, hended, _, _, rfl, hq, h1, h2, h3, h4.mono hk hn⟩
end Ret
/-- an array of n places; place k holds g k -/
def AV (Z : State) (h : Heap) (a : Addr) (ty : FieldType) (n : Nat) (g : Nat → Value) : Prop := n < 2 ^ 31 ∧ ∃ c : Cell, Arr Z h a c ty ∧ c.slots.size = n ∧ ∀ k, k < n → c.slots[k]? = some (g k)
def up {α : Type} (f : Nat → α) (i : Nat) (v : α) : Nat → α := fun k => if k = i then v else f k
section AVs
variable {p : Program} {l : Launch} {e : Env} {R : Room} {s : State} {m : MethodId} {args : Array Value} {below : List Frame} {meth : Method} {c : Code} {T : State} {locs : List Loc} {cells slots : Nat}
variable {Z : State} {h h' : Heap} {a b : Addr} {ty : FieldType} {n : Nat} {g g' : Nat → Value} {sl : Nat} {v : Value} {ws : List Addr} {j : Int32}
theorem AV.lt (F : AV Z h a ty n g) : a < h.size := by obtain ⟨_, c, A, -⟩ := F; exact A.lt
theorem AV.ext (F : AV Z h a ty n g) (E : Ext h h') : AV Z h' a ty n g := by obtain ⟨q, c, A, r⟩ := F; exact ⟨q, c, A.ext E, r⟩
theorem AV.other (F : AV Z h b ty n g) (W : Wr h h' a sl v) (q : b ≠ a) : AV Z h' b ty n g := by obtain ⟨q', c, A, r⟩ := F; exact ⟨q', c, A.other W q, r⟩
theorem AV.keep (F : AV Z h a ty n g) (K : Keep h h' ws) (q : a ∉ ws) : AV Z h' a ty n g := by obtain ⟨q', c, A, r⟩ := F; exact ⟨q', c, ⟨K.2.1 a c A.1 q, A.2⟩, r⟩
theorem AV.congr (F : AV Z h a ty n g) (q : ∀ k, k < n → g k = g' k) : AV Z h a ty n g' := by obtain ⟨q', c, A, r1, r2⟩ := F; exact ⟨q', c, A, r1, fun k hk => by rw [← q k hk]; exact r2 k hk⟩
theorem AV.set (F : AV Z h a ty n g) (W : Wr h h' a sl v) : AV Z h' a ty n (up g sl v) := by
  obtain ⟨q', c, A, r1, r2⟩ := F
  refine ⟨q', _, A.same W, by rw [sz_set]; exact r1, fun k hk => ?_⟩
  by_cases u : k = sl
  · subst u; simp [Cell.setSlot, up, r1, hk]
  · simp only [Cell.setSlot, up, if_neg u]; rw [Array.getElem?_setIfInBounds_ne (Ne.symm u)]; exact r2 k hk
theorem AV.new {k : ClassId} {z : Int32} (A : Arr Z h a (newA k ty z) ty) : AV Z h a ty z.toNatClampNeg (fun _ => defaultValue ty) := by
  refine ⟨by have := Int32.toInt_lt z; simp only [Int32.toNatClampNeg]; omega, _, A, sz_new _ _ _, fun i hi => by simp [newA, hi]⟩
theorem AV.inb {cl : Cell} (hs : cl.slots.size = n) (hj : ¬ j < 0 ∧ j.toNatClampNeg < n) : ¬ (j < 0 ∨ cl.slots.size ≤ j.toNatClampNeg) := fun q => q.elim hj.1 fun q => by rw [hs] at q; exact absurd hj.2 (Nat.not_lt.mpr q)
theorem AV.len (F : AV Z h a ty n g) (X : Stand p l e R s m args below meth c T locs cells slots) (hx : p.tables.exec = Jvm.exec) (hZ : Z.Warmed39 s.vm) (eT : T.heap = h) {pc : Nat} {Ls : Array Slot} {rest : List Value} (hd : decode c.code pc = .ok (.arraylength, 1)) {t : State}
    (k : Steps p.tables e below (T.setTop (mkF m (pc + 1) Ls (.int (Int32.ofNat n) :: rest))) t) : Steps p.tables e below (T.setTop (mkF m pc Ls (.ref a :: rest))) t := by
  obtain ⟨q', cl, A, r1, r2⟩ := F
  subst r1
  exact X.arraylength hx (by rw [eT]; exact A.1) (State.isArrayOf_alike hZ.alike A.2.1) (g := mkF m pc Ls (.ref a :: rest)) rfl rfl hd _ k
theorem AV.iaload {f : Nat → Int32} (F : AV Z h a .int n (fun k => .int (f k))) (X : Stand p l e R s m args below meth c T locs cells slots) (hx : p.tables.exec = Jvm.exec) (hZ : Z.Warmed39 s.vm) (eT : T.heap = h) (hj : ¬ j < 0 ∧ j.toNatClampNeg < n) {pc : Nat} {Ls : Array Slot} {rest : List Value} (hd : decode c.code pc = .ok (.iaload, 1)) {t : State}
    (k : Steps p.tables e below (T.setTop (mkF m (pc + 1) Ls (.int (f j.toNatClampNeg) :: rest))) t) : Steps p.tables e below (T.setTop (mkF m pc Ls (.int j :: .ref a :: rest))) t := by
  obtain ⟨q', cl, A, r1, r2⟩ := F
  exact X.iaload hx (j := j) (v := .int (f j.toNatClampNeg)) (by rw [eT]; exact A.1) (State.isArrayOf_alike hZ.alike A.2.1) A.2.2 (AV.inb r1 hj) (r2 _ hj.2) (g := mkF m pc Ls (.int j :: .ref a :: rest)) rfl rfl hd _ k
theorem AV.laload {f : Nat → Int64} (F : AV Z h a .long n (fun k => .long (f k))) (X : Stand p l e R s m args below meth c T locs cells slots) (hx : p.tables.exec = Jvm.exec) (hZ : Z.Warmed39 s.vm) (eT : T.heap = h) (hj : ¬ j < 0 ∧ j.toNatClampNeg < n) {pc : Nat} {Ls : Array Slot} {rest : List Value} (hd : decode c.code pc = .ok (.laload, 1)) {t : State}
    (k : Steps p.tables e below (T.setTop (mkF m (pc + 1) Ls (.long (f j.toNatClampNeg) :: rest))) t) : Steps p.tables e below (T.setTop (mkF m pc Ls (.int j :: .ref a :: rest))) t := by
  obtain ⟨q', cl, A, r1, r2⟩ := F
  exact X.laload hx (j := j) (v := .long (f j.toNatClampNeg)) (by rw [eT]; exact A.1) (State.isArrayOf_alike hZ.alike A.2.1) A.2.2 (AV.inb r1 hj) (r2 _ hj.2) (g := mkF m pc Ls (.int j :: .ref a :: rest)) rfl rfl hd _ k
theorem AV.aaload (F : AV Z h a ty n g) (hty : ty.isReference = true) (X : Stand p l e R s m args below meth c T locs cells slots) (hx : p.tables.exec = Jvm.exec) (hZ : Z.Warmed39 s.vm) (eT : T.heap = h) (hj : ¬ j < 0 ∧ j.toNatClampNeg < n) {pc : Nat} {Ls : Array Slot} {rest : List Value} (hd : decode c.code pc = .ok (.aaload, 1)) {t : State}
    (k : Steps p.tables e below (T.setTop (mkF m (pc + 1) Ls (g j.toNatClampNeg :: rest))) t) : Steps p.tables e below (T.setTop (mkF m pc Ls (.int j :: .ref a :: rest))) t := by
  obtain ⟨q', cl, A, r1, r2⟩ := F
  exact X.aaload hx (j := j) (v := g j.toNatClampNeg) (by rw [eT]; exact A.1) (State.isArrayOf_alike hZ.alike A.2.1) hty A.2.2 (AV.inb r1 hj) (r2 _ hj.2) (g := mkF m pc Ls (.int j :: .ref a :: rest)) rfl rfl hd _ k
theorem AV.iastore {f : Nat → Int32} {x : Int32} (F : AV Z h a .int n (fun k => .int (f k))) (X : Stand p l e R s m args below meth c T locs cells slots) (hx : p.tables.exec = Jvm.exec) (hZ : Z.Warmed39 s.vm) (eT : T.heap = h) (hj : ¬ j < 0 ∧ j.toNatClampNeg < n) {pc : Nat} {Ls : Array Slot} {rest : List Value} (hd : decode c.code pc = .ok (.iastore, 1)) :
    ∃ T' h', Stand p l e R s m args below meth c T' (locs ++ [⟨a, j.toNatClampNeg⟩]) cells slots ∧ T'.heap = h' ∧ Wr h h' a j.toNatClampNeg (.int x) ∧ AV Z h' a .int n (fun k => .int (up f j.toNatClampNeg x k)) ∧
      ∀ t, Steps p.tables e below (T'.setTop (mkF m (pc + 1) Ls rest)) t → Steps p.tables e below (T.setTop (mkF m pc Ls (.int x :: .int j :: .ref a :: rest))) t := by
  have F0 := F
  obtain ⟨q', cl, A, r1, r2⟩ := F
  obtain ⟨T', h', X', e', W, st⟩ := stI X hx hZ eT A (j := j) (AV.inb r1 hj) (g := mkF m pc Ls (.int x :: .int j :: .ref a :: rest)) rfl rfl hd
  exact ⟨T', h', X', e', W, (F0.set W).congr (fun k _ => by unfold up; split <;> rfl), st⟩
theorem AV.lastore {f : Nat → Int64} {x : Int64} (F : AV Z h a .long n (fun k => .long (f k))) (X : Stand p l e R s m args below meth c T locs cells slots) (hx : p.tables.exec = Jvm.exec) (hZ : Z.Warmed39 s.vm) (eT : T.heap = h) (hj : ¬ j < 0 ∧ j.toNatClampNeg < n) {pc : Nat} {Ls : Array Slot} {rest : List Value} (hd : decode c.code pc = .ok (.lastore, 1)) :
    ∃ T' h', Stand p l e R s m args below meth c T' (locs ++ [⟨a, j.toNatClampNeg⟩]) cells slots ∧ T'.heap = h' ∧ Wr h h' a j.toNatClampNeg (.long x) ∧ AV Z h' a .long n (fun k => .long (up f j.toNatClampNeg x k)) ∧
      ∀ t, Steps p.tables e below (T'.setTop (mkF m (pc + 1) Ls rest)) t → Steps p.tables e below (T.setTop (mkF m pc Ls (.long x :: .int j :: .ref a :: rest))) t := by
  have F0 := F
  obtain ⟨q', cl, A, r1, r2⟩ := F
  obtain ⟨T', h', X', e', W, st⟩ := stJ X hx hZ eT A (j := j) (AV.inb r1 hj) (g := mkF m pc Ls (.long x :: .int j :: .ref a :: rest)) rfl rfl hd
  exact ⟨T', h', X', e', W, (F0.set W).congr (fun k _ => by unfold up; split <;> rfl), st⟩
theorem AV.bastoreZ {f : Nat → Int32} {x : Int32} (F : AV Z h a .boolean n (fun k => .int (f k))) (X : Stand p l e R s m args below meth c T locs cells slots) (hx : p.tables.exec = Jvm.exec) (hZ : Z.Warmed39 s.vm) (eT : T.heap = h) (hj : ¬ j < 0 ∧ j.toNatClampNeg < n) {pc : Nat} {Ls : Array Slot} {rest : List Value} (hd : decode c.code pc = .ok (.bastore, 1)) :
    ∃ T' h', Stand p l e R s m args below meth c T' (locs ++ [⟨a, j.toNatClampNeg⟩]) cells slots ∧ T'.heap = h' ∧ Wr h h' a j.toNatClampNeg (.int (nar .boolean x)) ∧ AV Z h' a .boolean n (fun k => .int (up f j.toNatClampNeg (nar .boolean x) k)) ∧
      ∀ t, Steps p.tables e below (T'.setTop (mkF m (pc + 1) Ls rest)) t → Steps p.tables e below (T.setTop (mkF m pc Ls (.int x :: .int j :: .ref a :: rest))) t := by
  have F0 := F
  obtain ⟨q', cl, A, r1, r2⟩ := F
  obtain ⟨T', h', X', e', W, st⟩ := stZ X hx hZ eT A (j := j) (AV.inb r1 hj) (g := mkF m pc Ls (.int x :: .int j :: .ref a :: rest)) rfl rfl hd
  exact ⟨T', h', X', e', W, (F0.set W).congr (fun k _ => by unfold up; split <;> rfl), st⟩
theorem AV.aastore (F : AV Z h a ty n g) (hty : ty.isReference = true) (S : Sto Z h a v) (X : Stand p l e R s m args below meth c T locs cells slots) (hx : p.tables.exec = Jvm.exec) (hZ : Z.Warmed39 s.vm) (eT : T.heap = h) (hj : ¬ j < 0 ∧ j.toNatClampNeg < n) {pc : Nat} {Ls : Array Slot} {rest : List Value} (hd : decode c.code pc = .ok (.aastore, 1)) :
    ∃ T' h', Stand p l e R s m args below meth c T' (locs ++ [⟨a, j.toNatClampNeg⟩]) cells slots ∧ T'.heap = h' ∧ Wr h h' a j.toNatClampNeg v ∧ AV Z h' a ty n (up g j.toNatClampNeg v) ∧
      ∀ t, Steps p.tables e below (T'.setTop (mkF m (pc + 1) Ls rest)) t → Steps p.tables e below (T.setTop (mkF m pc Ls (v :: .int j :: .ref a :: rest))) t := by
  have F0 := F
  obtain ⟨q', cl, A, r1, r2⟩ := F
  obtain ⟨T', h', X', e', W, st⟩ := stR X hx hZ eT A (j := j) (AV.inb r1 hj) hty S (g := mkF m pc Ls (v :: .int j :: .ref a :: rest)) rfl rfl hd
  exact ⟨T', h', X', e', W, F0.set W, st⟩
end AVs
/-- what may lie in an array of arrays -/
def OV (Z : State) (h : Heap) (a : Addr) (ty : FieldType) (C : String) : Prop := ∃ cl : Cell, h[a]? = some cl ∧ OvrA Z cl.cls ty C
section OVs
variable {Z : State} {h h' : Heap} {a b : Addr} {ty t0 : FieldType} {C : String} {n : Nat} {g : Nat → Value} {sl : Nat} {v : Value} {ws : List Addr}
theorem OV.ext (F : OV Z h a ty C) (E : Ext h h') : OV Z h' a ty C := by obtain ⟨cl, q, O⟩ := F; exact ⟨cl, E.2 _ _ q, O⟩
theorem OV.wr (F : OV Z h a ty C) (W : Wr h h' b sl v) : OV Z h' a ty C := by
  obtain ⟨cl, q, O⟩ := F; obtain ⟨c', e1, e2, -⟩ := wr_at W q; exact ⟨c', e1, by rw [e2]; exact O⟩
theorem OV.keep (F : OV Z h a ty C) (K : Keep h h' ws) : OV Z h' a ty C := by
  obtain ⟨cl, q, O⟩ := F; obtain ⟨c', e1, e2, -⟩ := K.2.2 _ _ q; exact ⟨c', e1, by rw [e2]; exact O⟩
theorem OV.sto (F : OV Z h a ty C) (A : AV Z h a t0 n g) (I : Ins Z h b C true) : Sto Z h a (.ref b) := by
  obtain ⟨cl, q, O⟩ := F; obtain ⟨-, c, A', -⟩ := A; cases q.symm.trans A'.1; exact Sto.ofVA A' rfl O I
end OVs
section AVc
variable {p : Program} {l : Launch} {e : Env} {R : Room} {s : State} {m : MethodId} {args : Array Value} {below : List Frame} {meth : Method} {c : Code} {T : State} {locs : List Loc} {cells slots : Nat}
variable {Z : State} {h : Heap} {a : Addr} {ty : FieldType} {n : Nat} {g0 : Nat → Value} {a0 : Array Value}
theorem AV.clone (F : AV Z h a ty n g0) (ht : ∀ k, k < n → fits ty (g0 k) = true) (X : Stand p l e R s m args below meth c T locs cells slots) (hx : p.tables.exec = Jvm.exec) (hZ : Z.Warmed39 s.vm) {own ad : String} {index : Nat} (hown : s.vm.findClass own = some m.cls)
    (w1 : (Cond.methodLink own index ⟨ad, "clone", "()Ljava/lang/Object;"⟩).before a0 Z = true) (w2 : (Cond.sameMethod ad "java/lang/Object" "clone" "()Ljava/lang/Object;").before a0 Z = true) (w3 : (Cond.native ⟨"java/lang/Object", "clone", "()Ljava/lang/Object;"⟩).before a0 Z = true)
    (w4 : (Cond.instanceMethod ⟨"java/lang/Object", "clone", "()Ljava/lang/Object;"⟩).before a0 Z = true) (w5 : (Cond.selects ad ⟨ad, "clone", "()Ljava/lang/Object;"⟩ ⟨"java/lang/Object", "clone", "()Ljava/lang/Object;"⟩).before a0 Z = true) (w6 : (Cond.castable ad "java/lang/Cloneable").before a0 Z = true)
    (eT : T.heap = h) (E : Exa Z h a ad) {g : JFrame} (hg : g.method = m) (hsize : g.locals.size = c.maxLocals) {rest : List Value} (hst : g.stack = .ref a :: rest) (hd : decode c.code g.pc = .ok (.invokevirtual index, 3))
    (hf : 1 ≤ R.frames) {W cap : Nat} (hW : 2 * g.monitorRoom + (rest.map fun v => v.category).sum ≤ W) (hl : W + 14 ≤ R.locals) (hcap : n ≤ cap) (hc : cells + 1 ≤ R.cells) (hsl : slots + cap ≤ R.slots) :
    ∃ T' h', Stand p l e R s m args below meth c T' locs (cells + 1) (slots + cap) ∧ T'.heap = h' ∧ Ext h h' ∧ AV Z h' h.size ty n g0 ∧ Exa Z h' h.size ad ∧
      ∀ target, Steps p.tables e below (T'.setTop { g with pc := g.pc + 3, stack := .ref h.size :: rest }) target → Steps p.tables e below (T.setTop g) target := by
  obtain ⟨q0, cl, A, S, H⟩ := F
  have FC : FitC Z cl := fitC_of A fun i hi v hv => by
    rw [S] at hi; rw [H i hi] at hv; cases hv; exact ht i hi
  obtain ⟨T', h', X', e', ex, A', E', st⟩ := cloneA X hx hZ hown w1 w2 w3 w4 w5 w6 eT A E FC hg hsize hst hd hf hW hl (by rw [S]; exact hcap) hc hsl
  exact ⟨T', h', X', e', ex, ⟨q0, cloneOf cl, A', S, H⟩, E', st⟩
end AVc

theorem d1_0 : decode prog_14_method_1_code 0 = .ok (.aload_n 0, 1) := by decide +kernel
theorem d1_1 : decode prog_14_method_1_code 1 = .ok (.invokespecial 5, 3) := by decide +kernel
theorem d1_4 : decode prog_14_method_1_code 4 = .ok (.aload_n 0, 1) := by decide +kernel
theorem d1_5 : decode prog_14_method_1_code 5 = .ok (.bipush 16, 2) := by decide +kernel
theorem d1_7 : decode prog_14_method_1_code 7 = .ok (.anewarray 11, 3) := by decide +kernel
theorem d1_10 : decode prog_14_method_1_code 10 = .ok (.putfield 13, 3) := by decide +kernel
theorem d1_13 : decode prog_14_method_1_code 13 = .ok (.return_, 1) := by decide +kernel
def Q1 (Z : State) (o0 : Addr) (h0 : Heap) (n0 : Nat) (v : Option Value) (h : Heap) (L : List Loc) : Prop := v = none ∧ Fr n0 L ∧ ∃ b2 : Addr, h0.size ≤ b2 ∧ Keep h0 h [o0] ∧ Exa Z h o0 "com/example/idle_surfer/idlesurfer/LongChunks" ∧ Fld Z h o0 "com/example/idle_surfer/idlesurfer/LongChunks" "chunks" "[[J" (.ref b2) ∧ Fld Z h o0 "com/example/idle_surfer/idlesurfer/LongChunks" "size" "I" (.int (0 : Int32)) ∧ Fld Z h o0 "com/example/idle_surfer/idlesurfer/LongChunks" "chunkCount" "I" (.int (0 : Int32)) ∧ AV Z h b2 (.array .long) 16 (fun _ => Value.null) ∧ Exa Z h b2 "[[J" ∧ OV Z h b2 .long "[J"
theorem pn_0 : plainName "com/example/idle_surfer/idlesurfer/LongChunks" = true := by first | (simp [plainName, overriddenIn]; done) | decide +kernel
theorem ef_1_a (m : MethodId) (x0 : Addr) : entryFrame m #[(.ref x0)] 1 = mkF m 0 #[.val (.ref x0)] [] := by first | (simp [entryFrame, mkF, argsToLocals, Value.category]; done) | rfl
set_option maxRecDepth 65536 in
set_option maxHeartbeats 40000000 in
theorem rm1 (l : Launch) (Z : State) (a0 : Array Value) (hw : ∀ d ∈ tables_1, d.before a0 Z = true) (ws : List Jvm.Cond) (o0 : Addr) (h0 : Heap) (n0 : Nat) (Z0 : n0 ≤ h0.size) (ha0 : Exa Z h0 o0 "com/example/idle_surfer/idlesurfer/LongChunks") (ha1 : Fld Z h0 o0 "com/example/idle_surfer/idlesurfer/LongChunks" "chunks" "[[J" .null) (ha2 : Fld Z h0 o0 "com/example/idle_surfer/idlesurfer/LongChunks" "size" "I" (.int (0 : Int32))) (ha3 : Fld Z h0 o0 "com/example/idle_surfer/idlesurfer/LongChunks" "chunkCount" "I" (.int (0 : Int32))) (ha4 : n0 ≤ o0) :
    MetFree l (⟨"com/example/idle_surfer/idlesurfer/LongChunks", "<init>", "()V"⟩ : MethodName) (head1 (Jvm.Cond.code (⟨"com/example/idle_surfer/idlesurfer/LongChunks", "<init>", "()V"⟩ : MethodName) prog_14_method_1_code 1 none :: ws) ({ frames := 1, cells := 1, slots := 16, locals := 12 } : Room)) (fun a U => a = #[(.ref o0)] ∧ Z.Warmed39 U.vm ∧ U.heap = h0) (fun _ _ _ _ _ => True) (fun _ U o U' => ∃ v L, o = .returned v ∧ Q1 Z o0 h0 n0 v U'.heap L ∧ FrameEnd U o U' L ({ frames := 1, cells := 1, slots := 16, locals := 12 } : Room).cells ({ frames := 1, cells := 1, slots := 16, locals := 12 } : Room).slots) := by
  refine MetFree.of_bodySF (plainFor_of_name pn_0) hisR ?_
  intro p e s m args below meth c s₁ Bd hml0 hP hK
  obtain ⟨rfl, hZ, hh⟩ := hP
  have hx := Bd.exec
  have hby := Bd.bytes
  have hml : c.maxLocals = 1 := hml0
  have hown : s.vm.findClass "com/example/idle_surfer/idlesurfer/LongChunks" = some m.cls := findClass_of_methodNamed Bd.named
  have hnm := (name_of_methodNamed Bd.named Bd.method).1
  have X0 : Stand p l e ({ frames := 1, cells := 1, slots := 16, locals := 12 } : Room) s m #[(.ref o0)] below meth c s₁ [] 0 0 := Stand.of_body Bd
  have e0 : s₁.heap = h0 := by rw [← hh, Bd.state]; rfl
  have N0 := Fr.nil n0
  refine Go.into (P := fun oo uu => ∃ v L, oo = .returned v ∧ Q1 Z o0 h0 n0 v uu.heap L ∧ FrameEnd s oo uu L ({ frames := 1, cells := 1, slots := 16, locals := 12 } : Room).cells ({ frames := 1, cells := 1, slots := 16, locals := 12 } : Room).slots) (ef_1_a m o0) ?_
  show Go p e below _ (s₁.setTop (mkF m 0 #[.val (.ref o0)] []))
  refine Go.via (T' := s₁.setTop (mkF m 1 #[.val (.ref o0)] [(.ref o0)])) (fun tZ kZ => ?_) ?_
  · show Steps p.tables e below (s₁.setTop (mkF m 0 #[.val (.ref o0)] [])) _
    refine XS.aloadN X0.here hx rfl (hb hby d1_0) rfl rfl ?_
    show Steps p.tables e below (s₁.setTop (mkF m 1 #[.val (.ref o0)] [(.ref o0)])) _
    exact kZ
  obtain ⟨T1, X1, e1, st1⟩ := initO X0 hx hZ hown (hw _ (List.mem_of_getElem? (i := 6) rfl)) (hw _ (List.mem_of_getElem? (i := 7) rfl)) (hw _ (List.mem_of_getElem? (i := 8) rfl)) e0 (g := (mkF m 1 #[.val (.ref o0)] [(.ref o0)])) rfl (by rw [hml]; rfl) rfl (hb hby d1_1) (by decide) (W := 0) (by show 2 * 0 + _ ≤ _; exact Nat.le_of_eq rfl) (by decide)
  refine Go.via st1 ?_
  show Go p e below _ (T1.setTop (mkF m 4 #[.val (.ref o0)] []))
  refine Go.via (T' := T1.setTop (mkF m 7 #[.val (.ref o0)] [(.int (16 : Int32)), (.ref o0)])) (fun tZ kZ => ?_) ?_
  · show Steps p.tables e below (T1.setTop (mkF m 4 #[.val (.ref o0)] [])) _
    refine XS.aloadN X1.here hx rfl (hb hby d1_4) rfl rfl ?_
    show Steps p.tables e below (T1.setTop (mkF m 5 #[.val (.ref o0)] [(.ref o0)])) _
    refine XS.bipush X1.here hx rfl (hb hby d1_5) ?_
    show Steps p.tables e below (T1.setTop (mkF m 7 #[.val (.ref o0)] [(.int (16 : Int32)), (.ref o0)])) _
    exact kZ
  obtain ⟨T2, h2, k2, X2, e2, E2, A2, B2, O2, st2⟩ := newRA X1 hx hZ hown (C := "[J") (ty := .long) rfl (hw _ (List.mem_of_getElem? (i := 9) rfl)) (hw _ (List.mem_of_getElem? (i := 10) rfl)) e1 (g := (mkF m 7 #[.val (.ref o0)] [(.int (16 : Int32)), (.ref o0)])) rfl (hb hby d1_7) rfl (by decide) (cap := 16) (by decide) (by decide) (by decide) (by decide) (ad := "[[J") rfl
  obtain ⟨b2, g2⟩ : ∃ z, z = h0.size := ⟨_, rfl⟩
  rw [← g2] at A2 B2 st2
  have g_b2 : n0 ≤ b2 := Nat.le_trans Z0 (Nat.le_of_eq g2.symm)
  have sz_b2 : h0.size ≤ b2 := Nat.le_trans ((Keep.refl h0 [o0])).1 (Nat.le_of_eq g2.symm)
  have ne_o0_b2 : o0 ≠ b2 := Nat.ne_of_lt (Nat.lt_of_lt_of_le ha0.lt (Nat.le_of_eq g2.symm))
  have c3_0 := ha0.ext E2
  have c3_1 := ha1.ext E2
  have c3_2 := ha2.ext E2
  have c3_3 := ha3.ext E2
  have K2 : Keep h0 h2 [o0] := (Keep.refl h0 [o0]).ext E2
  have Z2 : n0 ≤ h2.size := Nat.le_trans Z0 E2.1
  have V2 : AV Z h2 b2 (.array .long) 16 (fun _ => Value.null) := by have q := AV.new A2; exact q
  have OV2 : OV Z h2 b2 .long "[J" := ⟨_, A2.1, O2⟩
  refine Go.via st2 ?_
  show Go p e below _ (T2.setTop (mkF m 10 #[.val (.ref o0)] [(.ref b2), (.ref o0)]))
  obtain ⟨T4, h4, X4, e4, W4, st4⟩ := putF X2 hx hZ hown (host := "") (Or.inl (hw _ (List.mem_of_getElem? (i := 11) rfl))) Via.refl e2 c3_1 c3_0 (Or.inl (hw _ (List.mem_of_getElem? (i := 12) rfl))) (hw _ (List.mem_of_getElem? (i := 1) rfl)) (ty := (.array (.array .long))) (by decide) rfl rfl (g := (mkF m 10 #[.val (.ref o0)] [(.ref b2), (.ref o0)])) rfl rfl (hb hby d1_10)
  have N4 := Fr.snoc X4 N0 ha4
  have c5_0 := c3_0.wr W4
  have c5_2 := c3_2.other W4 (Or.inr (slot_ne (Or.inl (hw _ (List.mem_of_getElem? (i := 19) rfl))) (Or.inl (hw _ (List.mem_of_getElem? (i := 12) rfl))) (by decide) (t := .int) (t' := (.array (.array .long))) (by decide) (by decide)))
  have c5_3 := c3_3.other W4 (Or.inr (slot_ne (Or.inl (hw _ (List.mem_of_getElem? (i := 21) rfl))) (Or.inl (hw _ (List.mem_of_getElem? (i := 12) rfl))) (by decide) (t := .int) (t' := (.array (.array .long))) (by decide) (by decide)))
  have c5_6 := V2.other W4 (Ne.symm ne_o0_b2)
  have c5_7 := B2.wr W4
  have c5_8 := OV2.wr W4
  have K4 : Keep h0 h4 [o0] := K2.wr W4 (Or.inl (by simp))
  have Z4 : n0 ≤ h4.size := Nat.le_trans Z2 (Keep.of_wr W4).1
  have Fw4 := c3_1.same W4
  refine Go.via st4 ?_
  show Go p e below _ (T4.setTop (mkF m 13 #[.val (.ref o0)] []))
  refine Go.retV X4 hx Bd.notSynchronized Bd.returns (hb hby d1_13) (by decide) (by decide) ?_
  rw [e4]
  exact ⟨rfl, N4, b2, sz_b2, K4, c5_0, Fw4, c5_2, c5_3, c5_6, c5_7, c5_8⟩
theorem d3_0 : decode prog_14_method_5_code 0 = .ok (.aload_n 0, 1) := by decide +kernel
theorem d3_1 : decode prog_14_method_5_code 1 = .ok (.getfield 17, 3) := by decide +kernel
theorem d3_4 : decode prog_14_method_5_code 4 = .ok (.i2l, 1) := by decide +kernel
theorem d3_5 : decode prog_14_method_5_code 5 = .ok (.aload_n 0, 1) := by decide +kernel
theorem d3_6 : decode prog_14_method_5_code 6 = .ok (.getfield 21, 3) := by decide +kernel
theorem d3_9 : decode prog_14_method_5_code 9 = .ok (.i2l, 1) := by decide +kernel
theorem d3_10 : decode prog_14_method_5_code 10 = .ok (.bipush 10, 2) := by decide +kernel
theorem d3_12 : decode prog_14_method_5_code 12 = .ok (.lshl, 1) := by decide +kernel
theorem d3_13 : decode prog_14_method_5_code 13 = .ok (.lcmp, 1) := by decide +kernel
theorem d3_14 : decode prog_14_method_5_code 14 = .ok (.ifCond .ne 7, 3) := by decide +kernel
theorem d3_17 : decode prog_14_method_5_code 17 = .ok (.iconst 1, 1) := by decide +kernel
theorem d3_18 : decode prog_14_method_5_code 18 = .ok (.goto 4, 3) := by decide +kernel
theorem d3_21 : decode prog_14_method_5_code 21 = .ok (.iconst 0, 1) := by decide +kernel
def w3_0 (u : Int32) (k : Int32) : Int32 := (if (u.toInt64) = ((k.toInt64) <<< ((10 : Int32) &&& 0x3f).toInt64) then (1 : Int32) else (0 : Int32))
theorem d3_22 : decode prog_14_method_5_code 22 = .ok (.ireturn, 1) := by decide +kernel
def f3 (o0 : Addr) (u : Int32) (k : Int32) : Int32 := (nar .boolean (w3_0 u k))
def Q3 (o0 : Addr) (u : Int32) (k : Int32) (h0 : Heap) (n0 : Nat) (v : Option Value) (h : Heap) (L : List Loc) : Prop := v = some (.int (f3 o0 u k)) ∧ Fr n0 L ∧ h = h0
theorem ef_3_a (m : MethodId) (x0 : Addr) : entryFrame m #[(.ref x0)] 1 = mkF m 0 #[.val (.ref x0)] [] := by first | (simp [entryFrame, mkF, argsToLocals, Value.category]; done) | rfl
set_option maxRecDepth 65536 in
set_option maxHeartbeats 40000000 in
theorem rm3 (l : Launch) (Z : State) (a0 : Array Value) (hw : ∀ d ∈ tables_1, d.before a0 Z = true) (ws : List Jvm.Cond) (o0 : Addr) (u : Int32) (k : Int32) (h0 : Heap) (n0 : Nat) (Z0 : n0 ≤ h0.size) (ha0 : Fld Z h0 o0 "com/example/idle_surfer/idlesurfer/LongChunks" "size" "I" (.int u)) (ha1 : Fld Z h0 o0 "com/example/idle_surfer/idlesurfer/LongChunks" "chunkCount" "I" (.int k)) :
    MetFree l (⟨"com/example/idle_surfer/idlesurfer/LongChunks", "full", "()Z"⟩ : MethodName) (head1 (Jvm.Cond.code (⟨"com/example/idle_surfer/idlesurfer/LongChunks", "full", "()Z"⟩ : MethodName) prog_14_method_5_code 1 (some .boolean) :: ws) ({ frames := 0, cells := 0, slots := 0, locals := 0 } : Room)) (fun a U => a = #[(.ref o0)] ∧ Z.Warmed39 U.vm ∧ U.heap = h0) (fun _ _ _ _ _ => True) (fun _ U o U' => ∃ v L, o = .returned v ∧ Q3 o0 u k h0 n0 v U'.heap L ∧ FrameEnd U o U' L ({ frames := 0, cells := 0, slots := 0, locals := 0 } : Room).cells ({ frames := 0, cells := 0, slots := 0, locals := 0 } : Room).slots) := by
  refine MetFree.of_bodySF (plainFor_of_name pn_0) hisR ?_
  intro p e s m args below meth c s₁ Bd hml0 hP hK
  obtain ⟨rfl, hZ, hh⟩ := hP
  have hx := Bd.exec
  have hby := Bd.bytes
  have hml : c.maxLocals = 1 := hml0
  have hown : s.vm.findClass "com/example/idle_surfer/idlesurfer/LongChunks" = some m.cls := findClass_of_methodNamed Bd.named
  have hnm := (name_of_methodNamed Bd.named Bd.method).1
  have X0 : Stand p l e ({ frames := 0, cells := 0, slots := 0, locals := 0 } : Room) s m #[(.ref o0)] below meth c s₁ [] 0 0 := Stand.of_body Bd
  have e0 : s₁.heap = h0 := by rw [← hh, Bd.state]; rfl
  have N0 := Fr.nil n0
  refine Go.into (P := fun oo uu => ∃ v L, oo = .returned v ∧ Q3 o0 u k h0 n0 v uu.heap L ∧ FrameEnd s oo uu L ({ frames := 0, cells := 0, slots := 0, locals := 0 } : Room).cells ({ frames := 0, cells := 0, slots := 0, locals := 0 } : Room).slots) (ef_3_a m o0) ?_
  show Go p e below _ (s₁.setTop (mkF m 0 #[.val (.ref o0)] []))
  refine Go.via (T' := s₁.setTop (mkF m 1 #[.val (.ref o0)] [(.ref o0)])) (fun tZ kZ => ?_) ?_
  · show Steps p.tables e below (s₁.setTop (mkF m 0 #[.val (.ref o0)] [])) _
    refine XS.aloadN X0.here hx rfl (hb hby d3_0) rfl rfl ?_
    show Steps p.tables e below (s₁.setTop (mkF m 1 #[.val (.ref o0)] [(.ref o0)])) _
    exact kZ
  obtain ⟨T1, X1, e1, st1⟩ := getF X0 hx hZ hown (host := "") (Or.inl (hw _ (List.mem_of_getElem? (i := 18) rfl))) Via.refl e0 ha0 (g := (mkF m 1 #[.val (.ref o0)] [(.ref o0)])) rfl rfl (hb hby d3_1)
  refine Go.via st1 ?_
  show Go p e below _ (T1.setTop (mkF m 4 #[.val (.ref o0)] [(.int u)]))
  refine Go.via (T' := T1.setTop (mkF m 6 #[.val (.ref o0)] [(.ref o0), (.long (u.toInt64))])) (fun tZ kZ => ?_) ?_
  · show Steps p.tables e below (T1.setTop (mkF m 4 #[.val (.ref o0)] [(.int u)])) _
    refine XS.i2l X1.here hx rfl (hb hby d3_4) rfl ?_
    show Steps p.tables e below (T1.setTop (mkF m 5 #[.val (.ref o0)] [(.long (u.toInt64))])) _
    refine XS.aloadN X1.here hx rfl (hb hby d3_5) rfl rfl ?_
    show Steps p.tables e below (T1.setTop (mkF m 6 #[.val (.ref o0)] [(.ref o0), (.long (u.toInt64))])) _
    exact kZ
  obtain ⟨T2, X2, e2, st2⟩ := getF X1 hx hZ hown (host := "") (Or.inl (hw _ (List.mem_of_getElem? (i := 20) rfl))) Via.refl e1 ha1 (g := (mkF m 6 #[.val (.ref o0)] [(.ref o0), (.long (u.toInt64))])) rfl rfl (hb hby d3_6)
  refine Go.via st2 ?_
  show Go p e below _ (T2.setTop (mkF m 9 #[.val (.ref o0)] [(.int k), (.long (u.toInt64))]))
  refine Go.via (T' := T2.setTop (mkF m 22 #[.val (.ref o0)] [(.int (w3_0 u k))])) (fun tZ kZ => ?_) ?_
  · show Steps p.tables e below (T2.setTop (mkF m 9 #[.val (.ref o0)] [(.int k), (.long (u.toInt64))])) _
    refine XS.i2l X2.here hx rfl (hb hby d3_9) rfl ?_
    show Steps p.tables e below (T2.setTop (mkF m 10 #[.val (.ref o0)] [(.long (k.toInt64)), (.long (u.toInt64))])) _
    refine XS.bipush X2.here hx rfl (hb hby d3_10) ?_
    show Steps p.tables e below (T2.setTop (mkF m 12 #[.val (.ref o0)] [(.int (10 : Int32)), (.long (k.toInt64)), (.long (u.toInt64))])) _
    refine XS.lshl X2.here hx rfl (hb hby d3_12) rfl ?_
    show Steps p.tables e below (T2.setTop (mkF m 13 #[.val (.ref o0)] [(.long ((k.toInt64) <<< ((10 : Int32) &&& 0x3f).toInt64)), (.long (u.toInt64))])) _
    refine XS.lcmp X2.here hx rfl (hb hby d3_13) rfl ?_
    show Steps p.tables e below (T2.setTop (mkF m 14 #[.val (.ref o0)] [(.int (lcmpW (u.toInt64) ((k.toInt64) <<< ((10 : Int32) &&& 0x3f).toInt64)))])) _
    have sg14 : Steps p.tables e below (T2.setTop (mkF m 22 #[.val (.ref o0)] [(.int (if (u.toInt64) = ((k.toInt64) <<< ((10 : Int32) &&& 0x3f).toInt64) then (1 : Int32) else (0 : Int32)))])) tZ → Steps p.tables e below (T2.setTop (mkF m 14 #[.val (.ref o0)] [(.int (lcmpW (u.toInt64) ((k.toInt64) <<< ((10 : Int32) &&& 0x3f).toInt64)))])) tZ := by
      intro kj
      by_cases hc14 : (u.toInt64) = ((k.toInt64) <<< ((10 : Int32) &&& 0x3f).toInt64)
      · try simp only [if_pos hc14] at kj
        refine XS.ifNo X2.here hx rfl (hb hby d3_14) rfl ((if0 _ _).trans (teq ((lw_eq _ _).mpr hc14)).2) ?_
        show Steps p.tables e below (T2.setTop (mkF m 17 #[.val (.ref o0)] [])) _
        refine XS.iconst X2.here hx rfl (hb hby d3_17) ?_
        show Steps p.tables e below (T2.setTop (mkF m 18 #[.val (.ref o0)] [(.int (1 : Int32))])) _
        refine XS.goto X2.here hx rfl (pc0 := 18) (pc' := 22) rfl (hb hby d3_18) (by decide) (by decide) ?_
        show Steps p.tables e below (T2.setTop (mkF m 22 #[.val (.ref o0)] [(.int (1 : Int32))])) _
        exact kj
      · try simp only [if_neg hc14] at kj
        refine XS.ifYes X2.here hx rfl (pc0 := 14) (pc' := 21) rfl (hb hby d3_14) rfl ((if0 _ _).trans (feq (fun q => absurd ((lw_eq _ _).mp q) hc14)).2) (by decide) (by decide) ?_
        show Steps p.tables e below (T2.setTop (mkF m 21 #[.val (.ref o0)] [])) _
        refine XS.iconst X2.here hx rfl (hb hby d3_21) ?_
        show Steps p.tables e below (T2.setTop (mkF m 22 #[.val (.ref o0)] [(.int (0 : Int32))])) _
        exact kj
    refine sg14 ?_
    show Steps p.tables e below (T2.setTop (mkF m 22 #[.val (.ref o0)] [(.int (w3_0 u k))])) _
    exact kZ
  refine Go.retN X2 hx Bd.notSynchronized (t := .boolean) Bd.returns (by simp) (hb hby d3_22) (by decide) (by decide) ?_
  refine ⟨?_, N0, e2⟩
  show some ((Value.int (nar .boolean (w3_0 u k))) : Value) = some (.int (f3 o0 u k))
  rfl
theorem d6_0 : decode prog_14_method_4_code 0 = .ok (.aload_n 0, 1) := by decide +kernel
theorem d6_1 : decode prog_14_method_4_code 1 = .ok (.getfield 13, 3) := by decide +kernel
theorem d6_4 : decode prog_14_method_4_code 4 = .ok (.iload_n 1, 1) := by decide +kernel
theorem d6_5 : decode prog_14_method_4_code 5 = .ok (.bipush 10, 2) := by decide +kernel
theorem d6_7 : decode prog_14_method_4_code 7 = .ok (.iushr, 1) := by decide +kernel
theorem d6_8 : decode prog_14_method_4_code 8 = .ok (.aaload, 1) := by decide +kernel
theorem d6_9 : decode prog_14_method_4_code 9 = .ok (.iload_n 1, 1) := by decide +kernel
theorem d6_10 : decode prog_14_method_4_code 10 = .ok (.sipush 1023, 3) := by decide +kernel
theorem d6_13 : decode prog_14_method_4_code 13 = .ok (.iand, 1) := by decide +kernel
theorem d6_14 : decode prog_14_method_4_code 14 = .ok (.lload_n 2, 1) := by decide +kernel
theorem d6_15 : decode prog_14_method_4_code 15 = .ok (.lastore, 1) := by decide +kernel
theorem d6_16 : decode prog_14_method_4_code 16 = .ok (.return_, 1) := by decide +kernel
def Q6 (Z : State) (o0 : Addr) (p1 : Int32) (q2 : Int64) (cA : Addr) (dA : Addr) (gF : Nat → Value) (fF : Nat → Int64) (h0 : Heap) (n0 : Nat) (v : Option Value) (h : Heap) (L : List Loc) : Prop := v = none ∧ Fr n0 L ∧ Keep h0 h [dA] ∧ Fld Z h o0 "com/example/idle_surfer/idlesurfer/LongChunks" "chunks" "[[J" (.ref cA) ∧ AV Z h cA (.array .long) 16 gF ∧ AV Z h dA .long 1024 (fun k => .long ((up fF (p1 &&& (1023 : Int32)).toNatClampNeg q2) k))
theorem ef_6_aaa (m : MethodId) (x0 : Addr) (x1 : Int32) (x2 : Int64) : entryFrame m #[(.ref x0), (.int x1), (.long x2)] 4 = mkF m 0 #[.val (.ref x0), .val (.int x1), .val (.long x2), .second] [] := by first | (simp [entryFrame, mkF, argsToLocals, Value.category]; done) | rfl
set_option maxRecDepth 65536 in
set_option maxHeartbeats 40000000 in
theorem rm6 (l : Launch) (Z : State) (a0 : Array Value) (hw : ∀ d ∈ tables_1, d.before a0 Z = true) (ws : List Jvm.Cond) (o0 : Addr) (p1 : Int32) (q2 : Int64) (cA : Addr) (dA : Addr) (gF : Nat → Value) (fF : Nat → Int64) (h0 : Heap) (n0 : Nat) (Z0 : n0 ≤ h0.size) (ha0 : Fld Z h0 o0 "com/example/idle_surfer/idlesurfer/LongChunks" "chunks" "[[J" (.ref cA)) (ha1 : AV Z h0 cA (.array .long) 16 gF) (ha2 : AV Z h0 dA .long 1024 (fun k => .long (fF k))) (ha3 : n0 ≤ dA) (hne_o0_dA : o0 ≠ dA) (hne_cA_dA : cA ≠ dA) (hg : gF (0 : Int32).toNatClampNeg = .ref dA) (hz : ((p1.toUInt32 >>> ((10 : Int32) &&& 31).toUInt32).toInt32) = 0) (hj : ¬ (p1 &&& (1023 : Int32)) < 0 ∧ (p1 &&& (1023 : Int32)).toNatClampNeg < 1024) :
    MetFree l (⟨"com/example/idle_surfer/idlesurfer/LongChunks", "set", "(IJ)V"⟩ : MethodName) (head1 (Jvm.Cond.code (⟨"com/example/idle_surfer/idlesurfer/LongChunks", "set", "(IJ)V"⟩ : MethodName) prog_14_method_4_code 4 none :: ws) ({ frames := 0, cells := 0, slots := 0, locals := 0 } : Room)) (fun a U => a = #[(.ref o0), (.int p1), (.long q2)] ∧ Z.Warmed39 U.vm ∧ U.heap = h0) (fun _ _ _ _ _ => True) (fun _ U o U' => ∃ v L, o = .returned v ∧ Q6 Z o0 p1 q2 cA dA gF fF h0 n0 v U'.heap L ∧ FrameEnd U o U' L ({ frames := 0, cells := 0, slots := 0, locals := 0 } : Room).cells ({ frames := 0, cells := 0, slots := 0, locals := 0 } : Room).slots) := by
  refine MetFree.of_bodySF (plainFor_of_name pn_0) hisR ?_
  intro p e s m args below meth c s₁ Bd hml0 hP hK
  obtain ⟨rfl, hZ, hh⟩ := hP
  have hx := Bd.exec
  have hby := Bd.bytes
  have hml : c.maxLocals = 4 := hml0
  have hown : s.vm.findClass "com/example/idle_surfer/idlesurfer/LongChunks" = some m.cls := findClass_of_methodNamed Bd.named
  have hnm := (name_of_methodNamed Bd.named Bd.method).1
  have X0 : Stand p l e ({ frames := 0, cells := 0, slots := 0, locals := 0 } : Room) s m #[(.ref o0), (.int p1), (.long q2)] below meth c s₁ [] 0 0 := Stand.of_body Bd
  have e0 : s₁.heap = h0 := by rw [← hh, Bd.state]; rfl
  have N0 := Fr.nil n0
  refine Go.into (P := fun oo uu => ∃ v L, oo = .returned v ∧ Q6 Z o0 p1 q2 cA dA gF fF h0 n0 v uu.heap L ∧ FrameEnd s oo uu L ({ frames := 0, cells := 0, slots := 0, locals := 0 } : Room).cells ({ frames := 0, cells := 0, slots := 0, locals := 0 } : Room).slots) (ef_6_aaa m o0 p1 q2) ?_
  show Go p e below _ (s₁.setTop (mkF m 0 #[.val (.ref o0), .val (.int p1), .val (.long q2), .second] []))
  refine Go.via (T' := s₁.setTop (mkF m 1 #[.val (.ref o0), .val (.int p1), .val (.long q2), .second] [(.ref o0)])) (fun tZ kZ => ?_) ?_
  · show Steps p.tables e below (s₁.setTop (mkF m 0 #[.val (.ref o0), .val (.int p1), .val (.long q2), .second] [])) _
    refine XS.aloadN X0.here hx rfl (hb hby d6_0) rfl rfl ?_
    show Steps p.tables e below (s₁.setTop (mkF m 1 #[.val (.ref o0), .val (.int p1), .val (.long q2), .second] [(.ref o0)])) _
    exact kZ
  obtain ⟨T1, X1, e1, st1⟩ := getF X0 hx hZ hown (host := "") (Or.inl (hw _ (List.mem_of_getElem? (i := 11) rfl))) Via.refl e0 ha0 (g := (mkF m 1 #[.val (.ref o0), .val (.int p1), .val (.long q2), .second] [(.ref o0)])) rfl rfl (hb hby d6_1)
  refine Go.via st1 ?_
  show Go p e below _ (T1.setTop (mkF m 4 #[.val (.ref o0), .val (.int p1), .val (.long q2), .second] [(.ref cA)]))
  refine Go.via (T' := T1.setTop (mkF m 8 #[.val (.ref o0), .val (.int p1), .val (.long q2), .second] [(.int ((p1.toUInt32 >>> ((10 : Int32) &&& 31).toUInt32).toInt32)), (.ref cA)])) (fun tZ kZ => ?_) ?_
  · show Steps p.tables e below (T1.setTop (mkF m 4 #[.val (.ref o0), .val (.int p1), .val (.long q2), .second] [(.ref cA)])) _
    refine XS.iloadN X1.here hx rfl (hb hby d6_4) rfl ?_
    show Steps p.tables e below (T1.setTop (mkF m 5 #[.val (.ref o0), .val (.int p1), .val (.long q2), .second] [(.int p1), (.ref cA)])) _
    refine XS.bipush X1.here hx rfl (hb hby d6_5) ?_
    show Steps p.tables e below (T1.setTop (mkF m 7 #[.val (.ref o0), .val (.int p1), .val (.long q2), .second] [(.int (10 : Int32)), (.int p1), (.ref cA)])) _
    refine XS.iushr X1.here hx rfl (hb hby d6_7) rfl ?_
    show Steps p.tables e below (T1.setTop (mkF m 8 #[.val (.ref o0), .val (.int p1), .val (.long q2), .second] [(.int ((p1.toUInt32 >>> ((10 : Int32) &&& 31).toUInt32).toInt32)), (.ref cA)])) _
    exact kZ
  rw [hz]
  show Go p e below _ (T1.setTop (mkF m 8 #[.val (.ref o0), .val (.int p1), .val (.long q2), .second] [(.int (0 : Int32)), (.ref cA)]))
  refine Go.via (T' := T1.setTop (mkF m 15 #[.val (.ref o0), .val (.int p1), .val (.long q2), .second] [(.long q2), (.int (p1 &&& (1023 : Int32))), (.ref dA)])) (fun tZ kZ => ?_) ?_
  · show Steps p.tables e below (T1.setTop (mkF m 8 #[.val (.ref o0), .val (.int p1), .val (.long q2), .second] [(.int (0 : Int32)), (.ref cA)])) _
    refine AV.aaload ha1 rfl X1 hx hZ e1 (j := (0 : Int32)) (by decide) (hb hby d6_8) ?_
    rw [hg]
    show Steps p.tables e below (T1.setTop (mkF m 9 #[.val (.ref o0), .val (.int p1), .val (.long q2), .second] [(.ref dA)])) _
    refine XS.iloadN X1.here hx rfl (hb hby d6_9) rfl ?_
    show Steps p.tables e below (T1.setTop (mkF m 10 #[.val (.ref o0), .val (.int p1), .val (.long q2), .second] [(.int p1), (.ref dA)])) _
    refine XS.sipush X1.here hx rfl (hb hby d6_10) ?_
    show Steps p.tables e below (T1.setTop (mkF m 13 #[.val (.ref o0), .val (.int p1), .val (.long q2), .second] [(.int (1023 : Int32)), (.int p1), (.ref dA)])) _
    refine XS.iand X1.here hx rfl (hb hby d6_13) rfl ?_
    show Steps p.tables e below (T1.setTop (mkF m 14 #[.val (.ref o0), .val (.int p1), .val (.long q2), .second] [(.int (p1 &&& (1023 : Int32))), (.ref dA)])) _
    refine XS.lloadN X1.here hx rfl (hb hby d6_14) rfl ?_
    show Steps p.tables e below (T1.setTop (mkF m 15 #[.val (.ref o0), .val (.int p1), .val (.long q2), .second] [(.long q2), (.int (p1 &&& (1023 : Int32))), (.ref dA)])) _
    exact kZ
  obtain ⟨T2, h2, X2, e2, W2, V2, st2⟩ := AV.lastore ha2 X1 hx hZ e1 (j := (p1 &&& (1023 : Int32))) hj (Ls := #[.val (.ref o0), .val (.int p1), .val (.long q2), .second]) (rest := []) (hb hby d6_15) (x := q2)
  have N2 := Fr.snoc X2 N0 ha3
  have c3_0 := ha0.other W2 (Or.inl hne_o0_dA)
  have c3_1 := ha1.other W2 hne_cA_dA
  have K2 : Keep h0 h2 [dA] := (Keep.refl h0 [dA]).wr W2 (Or.inl (by simp))
  have Z2 : n0 ≤ h2.size := Nat.le_trans Z0 (Keep.of_wr W2).1
  refine Go.via st2 ?_
  show Go p e below _ (T2.setTop (mkF m 16 #[.val (.ref o0), .val (.int p1), .val (.long q2), .second] []))
  refine Go.retV X2 hx Bd.notSynchronized Bd.returns (hb hby d6_16) (by decide) (by decide) ?_
  rw [e2]
  exact ⟨rfl, N2, K2, c3_0, c3_1, V2⟩
theorem own_full0 (o : Addr) : ¬ f3 o 0 0 = 0 := by unfold f3; decide
theorem d5_0 : decode prog_14_method_7_code 0 = .ok (.aload_n 0, 1) := by decide +kernel
theorem pd_1 : parseMethodDescriptor "()Z" = some ⟨[], some .boolean⟩ := by decide +kernel
theorem d5_1 : decode prog_14_method_7_code 1 = .ok (.invokevirtual 26, 3) := by decide +kernel
theorem d5_4 : decode prog_14_method_7_code 4 = .ok (.ifCond .eq 56, 3) := by decide +kernel
theorem d5_7 : decode prog_14_method_7_code 7 = .ok (.aload_n 0, 1) := by decide +kernel
theorem d5_8 : decode prog_14_method_7_code 8 = .ok (.getfield 21, 3) := by decide +kernel
theorem d5_11 : decode prog_14_method_7_code 11 = .ok (.aload_n 0, 1) := by decide +kernel
theorem d5_12 : decode prog_14_method_7_code 12 = .ok (.getfield 13, 3) := by decide +kernel
theorem d5_15 : decode prog_14_method_7_code 15 = .ok (.arraylength, 1) := by decide +kernel
theorem d5_16 : decode prog_14_method_7_code 16 = .ok (.if_icmp .ne 23, 3) := by decide +kernel
theorem d5_39 : decode prog_14_method_7_code 39 = .ok (.aload_n 0, 1) := by decide +kernel
theorem d5_40 : decode prog_14_method_7_code 40 = .ok (.getfield 13, 3) := by decide +kernel
theorem d5_43 : decode prog_14_method_7_code 43 = .ok (.aload_n 0, 1) := by decide +kernel
theorem d5_44 : decode prog_14_method_7_code 44 = .ok (.dup, 1) := by decide +kernel
theorem d5_45 : decode prog_14_method_7_code 45 = .ok (.getfield 21, 3) := by decide +kernel
theorem d5_48 : decode prog_14_method_7_code 48 = .ok (.dup_x1, 1) := by decide +kernel
theorem d5_49 : decode prog_14_method_7_code 49 = .ok (.iconst 1, 1) := by decide +kernel
theorem d5_50 : decode prog_14_method_7_code 50 = .ok (.iadd, 1) := by decide +kernel
theorem d5_51 : decode prog_14_method_7_code 51 = .ok (.putfield 21, 3) := by decide +kernel
theorem d5_54 : decode prog_14_method_7_code 54 = .ok (.sipush 1024, 3) := by decide +kernel
theorem d5_57 : decode prog_14_method_7_code 57 = .ok (.newarray .long, 2) := by decide +kernel
theorem d5_59 : decode prog_14_method_7_code 59 = .ok (.aastore, 1) := by decide +kernel
theorem d5_60 : decode prog_14_method_7_code 60 = .ok (.aload_n 0, 1) := by decide +kernel
theorem d5_61 : decode prog_14_method_7_code 61 = .ok (.aload_n 0, 1) := by decide +kernel
theorem d5_62 : decode prog_14_method_7_code 62 = .ok (.dup, 1) := by decide +kernel
theorem d5_63 : decode prog_14_method_7_code 63 = .ok (.getfield 17, 3) := by decide +kernel
theorem d5_66 : decode prog_14_method_7_code 66 = .ok (.dup_x1, 1) := by decide +kernel
theorem d5_67 : decode prog_14_method_7_code 67 = .ok (.iconst 1, 1) := by decide +kernel
theorem d5_68 : decode prog_14_method_7_code 68 = .ok (.iadd, 1) := by decide +kernel
theorem d5_69 : decode prog_14_method_7_code 69 = .ok (.putfield 17, 3) := by decide +kernel
theorem d5_72 : decode prog_14_method_7_code 72 = .ok (.lload_n 1, 1) := by decide +kernel
theorem pd_4 : parseMethodDescriptor "(IJ)V" = some ⟨[.int, .long], none⟩ := by decide +kernel
theorem d5_73 : decode prog_14_method_7_code 73 = .ok (.invokevirtual 37, 3) := by decide +kernel
theorem d5_76 : decode prog_14_method_7_code 76 = .ok (.return_, 1) := by decide +kernel
def Q5a (Z : State) (o0 : Addr) (q1 : Int64) (cA : Addr) (gF : Nat → Value) (h0 : Heap) (n0 : Nat) (v : Option Value) (h : Heap) (L : List Loc) : Prop := v = none ∧ Fr n0 L ∧ ∃ b8 : Addr, h0.size ≤ b8 ∧ Keep h0 h [o0, cA] ∧ Exa Z h o0 "com/example/idle_surfer/idlesurfer/LongChunks" ∧ Fld Z h o0 "com/example/idle_surfer/idlesurfer/LongChunks" "chunks" "[[J" (.ref cA) ∧ Fld Z h o0 "com/example/idle_surfer/idlesurfer/LongChunks" "size" "I" (.int (1 : Int32)) ∧ Fld Z h o0 "com/example/idle_surfer/idlesurfer/LongChunks" "chunkCount" "I" (.int (1 : Int32)) ∧ AV Z h cA (.array .long) 16 (up gF (0 : Int32).toNatClampNeg (.ref b8)) ∧ OV Z h cA .long "[J" ∧ Exa Z h b8 "[J" ∧ AV Z h b8 .long 1024 (fun k => .long ((up (fun _ => (0 : Int64)) (0 : Int32).toNatClampNeg q1) k))
theorem ef_5_aa (m : MethodId) (x0 : Addr) (x1 : Int64) : entryFrame m #[(.ref x0), (.long x1)] 3 = mkF m 0 #[.val (.ref x0), .val (.long x1), .second] [] := by first | (simp [entryFrame, mkF, argsToLocals, Value.category]; done) | rfl
set_option maxRecDepth 65536 in
set_option maxHeartbeats 40000000 in
theorem rm5a (l : Launch) (Z : State) (a0 : Array Value) (hw : ∀ d ∈ tables_1, d.before a0 Z = true) (ws : List Jvm.Cond) (o0 : Addr) (q1 : Int64) (cA : Addr) (gF : Nat → Value) (h0 : Heap) (n0 : Nat) (Z0 : n0 ≤ h0.size) (ha0 : Exa Z h0 o0 "com/example/idle_surfer/idlesurfer/LongChunks") (ha1 : Fld Z h0 o0 "com/example/idle_surfer/idlesurfer/LongChunks" "chunks" "[[J" (.ref cA)) (ha2 : Fld Z h0 o0 "com/example/idle_surfer/idlesurfer/LongChunks" "size" "I" (.int (0 : Int32))) (ha3 : Fld Z h0 o0 "com/example/idle_surfer/idlesurfer/LongChunks" "chunkCount" "I" (.int (0 : Int32))) (ha4 : AV Z h0 cA (.array .long) 16 gF) (ha5 : OV Z h0 cA .long "[J") (ha6 : n0 ≤ o0) (ha7 : n0 ≤ cA) (hne_o0_cA : o0 ≠ cA) :
    MetFree l (⟨"com/example/idle_surfer/idlesurfer/LongChunks", "add", "(J)V"⟩ : MethodName) (head1 (Jvm.Cond.code (⟨"com/example/idle_surfer/idlesurfer/LongChunks", "add", "(J)V"⟩ : MethodName) prog_14_method_7_code 3 none :: ws) ({ frames := 1, cells := 1, slots := 1024, locals := 15 } : Room)) (fun a U => a = #[(.ref o0), (.long q1)] ∧ Z.Warmed39 U.vm ∧ U.heap = h0) (fun _ _ _ _ _ => True) (fun _ U o U' => ∃ v L, o = .returned v ∧ Q5a Z o0 q1 cA gF h0 n0 v U'.heap L ∧ FrameEnd U o U' L ({ frames := 1, cells := 1, slots := 1024, locals := 15 } : Room).cells ({ frames := 1, cells := 1, slots := 1024, locals := 15 } : Room).slots) := by
  refine MetFree.of_bodySF (plainFor_of_name pn_0) hisR ?_
  intro p e s m args below meth c s₁ Bd hml0 hP hK
  obtain ⟨rfl, hZ, hh⟩ := hP
  have hx := Bd.exec
  have hby := Bd.bytes
  have hml : c.maxLocals = 3 := hml0
  have hown : s.vm.findClass "com/example/idle_surfer/idlesurfer/LongChunks" = some m.cls := findClass_of_methodNamed Bd.named
  have hnm := (name_of_methodNamed Bd.named Bd.method).1
  have X0 : Stand p l e ({ frames := 1, cells := 1, slots := 1024, locals := 15 } : Room) s m #[(.ref o0), (.long q1)] below meth c s₁ [] 0 0 := Stand.of_body Bd
  have e0 : s₁.heap = h0 := by rw [← hh, Bd.state]; rfl
  have N0 := Fr.nil n0
  refine Go.into (P := fun oo uu => ∃ v L, oo = .returned v ∧ Q5a Z o0 q1 cA gF h0 n0 v uu.heap L ∧ FrameEnd s oo uu L ({ frames := 1, cells := 1, slots := 1024, locals := 15 } : Room).cells ({ frames := 1, cells := 1, slots := 1024, locals := 15 } : Room).slots) (ef_5_aa m o0 q1) ?_
  show Go p e below _ (s₁.setTop (mkF m 0 #[.val (.ref o0), .val (.long q1), .second] []))
  refine Go.via (T' := s₁.setTop (mkF m 1 #[.val (.ref o0), .val (.long q1), .second] [(.ref o0)])) (fun tZ kZ => ?_) ?_
  · show Steps p.tables e below (s₁.setTop (mkF m 0 #[.val (.ref o0), .val (.long q1), .second] [])) _
    refine XS.aloadN X0.here hx rfl (hb hby d5_0) rfl rfl ?_
    show Steps p.tables e below (s₁.setTop (mkF m 1 #[.val (.ref o0), .val (.long q1), .second] [(.ref o0)])) _
    exact kZ
  obtain ⟨cq1, kq1, q1a, q1b, q1c⟩ := isOf hZ e0 ha0
  obtain ⟨_, _, ⟨T1, L1, k1, n1⟩, -, X1, ⟨Lc1, hQ1, l1, y1, z1⟩, st1⟩ := X0.virtualBack hx (y := (⟨"com/example/idle_surfer/idlesurfer/LongChunks", "full", "()Z"⟩ : MethodName)) (z := (⟨"com/example/idle_surfer/idlesurfer/LongChunks", "full", "()Z"⟩ : MethodName)) hown (mvT hZ (hw _ (List.mem_of_getElem? (i := 33) rfl))) (mvT hZ (hw _ (List.mem_of_getElem? (i := 14) rfl))) (notFace_of_selects (args := #[]) (mvT hZ (hw _ (List.mem_of_getElem? (i := 16) rfl)))) (mvT hZ (hw _ (List.mem_of_getElem? (i := 16) rfl))) (mvT hZ (hw _ (List.mem_of_getElem? (i := 15) rfl))) (by decide) (backOf (W := 0) (rm3 l Z a0 hw [] o0 (0 : Int32) (0 : Int32) h0 n0 Z0 ha2 ha3) hZ (hw _ (List.mem_of_getElem? (i := 17) rfl)) (hw _ (List.mem_of_getElem? (i := 2) rfl)) (by decide) (by decide)) q1a q1c (g := (mkF m 1 #[.val (.ref o0), .val (.long q1), .second] [(.ref o0)])) rfl (by rw [hml]; rfl) (Steps.refl _) (argsL := []) (rest := []) (lenOf pd_1 rfl) rfl (by show 2 * 0 + _ ≤ _; exact Nat.le_of_eq rfl) (hb hby d5_1) (fun _ _ => ⟨rfl, e0, (by decide : 0 + 0 ≤ _), (by decide : 0 + 0 ≤ _)⟩)
  dsimp only [Pt.U, Pt.locs, Pt.cells, Pt.slots] at X1 l1 y1 z1 st1 hQ1
  subst l1 y1 z1
  obtain ⟨rfl, N1q, e1⟩ := hQ1
  have N1 := Fr.app N0 N1q
  refine Go.via (fun t k => st1.trans k) ?_
  show Go p e below _ (T1.setTop (mkF m 4 #[.val (.ref o0), .val (.long q1), .second] [(.int (f3 o0 (0 : Int32) (0 : Int32)))]))
  refine Go.via (T' := T1.setTop (mkF m 8 #[.val (.ref o0), .val (.long q1), .second] [(.ref o0)])) (fun tZ kZ => ?_) ?_
  · show Steps p.tables e below (T1.setTop (mkF m 4 #[.val (.ref o0), .val (.long q1), .second] [(.int (f3 o0 (0 : Int32) (0 : Int32)))])) _
    refine XS.ifNo X1.here hx rfl (hb hby d5_4) rfl ((if0 _ _).trans (feq (own_full0 _)).1) ?_
    show Steps p.tables e below (T1.setTop (mkF m 7 #[.val (.ref o0), .val (.long q1), .second] [])) _
    refine XS.aloadN X1.here hx rfl (hb hby d5_7) rfl rfl ?_
    show Steps p.tables e below (T1.setTop (mkF m 8 #[.val (.ref o0), .val (.long q1), .second] [(.ref o0)])) _
    exact kZ
  obtain ⟨T2, X2, e2, st2⟩ := getF X1 hx hZ hown (host := "") (Or.inl (hw _ (List.mem_of_getElem? (i := 20) rfl))) Via.refl e1 ha3 (g := (mkF m 8 #[.val (.ref o0), .val (.long q1), .second] [(.ref o0)])) rfl rfl (hb hby d5_8)
  refine Go.via st2 ?_
  show Go p e below _ (T2.setTop (mkF m 11 #[.val (.ref o0), .val (.long q1), .second] [(.int (0 : Int32))]))
  refine Go.via (T' := T2.setTop (mkF m 12 #[.val (.ref o0), .val (.long q1), .second] [(.ref o0), (.int (0 : Int32))])) (fun tZ kZ => ?_) ?_
  · show Steps p.tables e below (T2.setTop (mkF m 11 #[.val (.ref o0), .val (.long q1), .second] [(.int (0 : Int32))])) _
    refine XS.aloadN X2.here hx rfl (hb hby d5_11) rfl rfl ?_
    show Steps p.tables e below (T2.setTop (mkF m 12 #[.val (.ref o0), .val (.long q1), .second] [(.ref o0), (.int (0 : Int32))])) _
    exact kZ
  obtain ⟨T3, X3, e3, st3⟩ := getF X2 hx hZ hown (host := "") (Or.inl (hw _ (List.mem_of_getElem? (i := 11) rfl))) Via.refl e2 ha1 (g := (mkF m 12 #[.val (.ref o0), .val (.long q1), .second] [(.ref o0), (.int (0 : Int32))])) rfl rfl (hb hby d5_12)
  refine Go.via st3 ?_
  show Go p e below _ (T3.setTop (mkF m 15 #[.val (.ref o0), .val (.long q1), .second] [(.ref cA), (.int (0 : Int32))]))
  refine Go.via (T' := T3.setTop (mkF m 40 #[.val (.ref o0), .val (.long q1), .second] [(.ref o0)])) (fun tZ kZ => ?_) ?_
  · show Steps p.tables e below (T3.setTop (mkF m 15 #[.val (.ref o0), .val (.long q1), .second] [(.ref cA), (.int (0 : Int32))])) _
    refine AV.len ha4 X3 hx hZ e3 (hb hby d5_15) ?_
    show Steps p.tables e below (T3.setTop (mkF m 16 #[.val (.ref o0), .val (.long q1), .second] [(.int (16 : Int32)), (.int (0 : Int32))])) _
    refine XS.icmpYes X3.here hx rfl (pc0 := 16) (pc' := 39) rfl (hb hby d5_16) rfl (feq (by decide)).2 (by decide) (by decide) ?_
    show Steps p.tables e below (T3.setTop (mkF m 39 #[.val (.ref o0), .val (.long q1), .second] [])) _
    refine XS.aloadN X3.here hx rfl (hb hby d5_39) rfl rfl ?_
    show Steps p.tables e below (T3.setTop (mkF m 40 #[.val (.ref o0), .val (.long q1), .second] [(.ref o0)])) _
    exact kZ
  obtain ⟨T4, X4, e4, st4⟩ := getF X3 hx hZ hown (host := "") (Or.inl (hw _ (List.mem_of_getElem? (i := 11) rfl))) Via.refl e3 ha1 (g := (mkF m 40 #[.val (.ref o0), .val (.long q1), .second] [(.ref o0)])) rfl rfl (hb hby d5_40)
  refine Go.via st4 ?_
  show Go p e below _ (T4.setTop (mkF m 43 #[.val (.ref o0), .val (.long q1), .second] [(.ref cA)]))
  refine Go.via (T' := T4.setTop (mkF m 45 #[.val (.ref o0), .val (.long q1), .second] [(.ref o0), (.ref o0), (.ref cA)])) (fun tZ kZ => ?_) ?_
  · show Steps p.tables e below (T4.setTop (mkF m 43 #[.val (.ref o0), .val (.long q1), .second] [(.ref cA)])) _
    refine XS.aloadN X4.here hx rfl (hb hby d5_43) rfl rfl ?_
    show Steps p.tables e below (T4.setTop (mkF m 44 #[.val (.ref o0), .val (.long q1), .second] [(.ref o0), (.ref cA)])) _
    refine XS.dup X4.here hx rfl (hb hby d5_44) rfl rfl ?_
    show Steps p.tables e below (T4.setTop (mkF m 45 #[.val (.ref o0), .val (.long q1), .second] [(.ref o0), (.ref o0), (.ref cA)])) _
    exact kZ
  obtain ⟨T5, X5, e5, st5⟩ := getF X4 hx hZ hown (host := "") (Or.inl (hw _ (List.mem_of_getElem? (i := 20) rfl))) Via.refl e4 ha3 (g := (mkF m 45 #[.val (.ref o0), .val (.long q1), .second] [(.ref o0), (.ref o0), (.ref cA)])) rfl rfl (hb hby d5_45)
  refine Go.via st5 ?_
  show Go p e below _ (T5.setTop (mkF m 48 #[.val (.ref o0), .val (.long q1), .second] [(.int (0 : Int32)), (.ref o0), (.ref cA)]))
  refine Go.via (T' := T5.setTop (mkF m 51 #[.val (.ref o0), .val (.long q1), .second] [(.int (1 : Int32)), (.ref o0), (.int (0 : Int32)), (.ref cA)])) (fun tZ kZ => ?_) ?_
  · show Steps p.tables e below (T5.setTop (mkF m 48 #[.val (.ref o0), .val (.long q1), .second] [(.int (0 : Int32)), (.ref o0), (.ref cA)])) _
    refine XS.dupX1 X5.here hx rfl (hb hby d5_48) rfl rfl rfl ?_
    show Steps p.tables e below (T5.setTop (mkF m 49 #[.val (.ref o0), .val (.long q1), .second] [(.int (0 : Int32)), (.ref o0), (.int (0 : Int32)), (.ref cA)])) _
    refine XS.iconst X5.here hx rfl (hb hby d5_49) ?_
    show Steps p.tables e below (T5.setTop (mkF m 50 #[.val (.ref o0), .val (.long q1), .second] [(.int (1 : Int32)), (.int (0 : Int32)), (.ref o0), (.int (0 : Int32)), (.ref cA)])) _
    refine XS.iadd X5.here hx rfl (hb hby d5_50) rfl ?_
    show Steps p.tables e below (T5.setTop (mkF m 51 #[.val (.ref o0), .val (.long q1), .second] [(.int (1 : Int32)), (.ref o0), (.int (0 : Int32)), (.ref cA)])) _
    exact kZ
  obtain ⟨T6, h6, X6, e6, W6, st6⟩ := putF X5 hx hZ hown (host := "") (Or.inl (hw _ (List.mem_of_getElem? (i := 20) rfl))) Via.refl e5 ha3 ha0 (Or.inl (hw _ (List.mem_of_getElem? (i := 21) rfl))) (hw _ (List.mem_of_getElem? (i := 1) rfl)) (ty := .int) (by decide) rfl rfl (g := (mkF m 51 #[.val (.ref o0), .val (.long q1), .second] [(.int (1 : Int32)), (.ref o0), (.int (0 : Int32)), (.ref cA)])) rfl rfl (hb hby d5_51)
  have N6 := Fr.snoc X6 N1 ha6
  have c7_0 := ha0.wr W6
  have c7_1 := ha1.other W6 (Or.inr (slot_ne (Or.inl (hw _ (List.mem_of_getElem? (i := 12) rfl))) (Or.inl (hw _ (List.mem_of_getElem? (i := 21) rfl))) (by decide) (t := (.array (.array .long))) (t' := .int) (by decide) (by decide)))
  have c7_2 := ha2.other W6 (Or.inr (slot_ne (Or.inl (hw _ (List.mem_of_getElem? (i := 19) rfl))) (Or.inl (hw _ (List.mem_of_getElem? (i := 21) rfl))) (by decide) (t := .int) (t' := .int) (by decide) (by decide)))
  have c7_4 := ha4.other W6 (Ne.symm hne_o0_cA)
  have c7_5 := ha5.wr W6
  have K6 : Keep h0 h6 [o0, cA] := (Keep.refl h0 [o0, cA]).wr W6 (Or.inl (by simp))
  have Z6 : n0 ≤ h6.size := Nat.le_trans Z0 (Keep.of_wr W6).1
  have Fw6 := ha3.same W6
  refine Go.via st6 ?_
  show Go p e below _ (T6.setTop (mkF m 54 #[.val (.ref o0), .val (.long q1), .second] [(.int (0 : Int32)), (.ref cA)]))
  refine Go.via (T' := T6.setTop (mkF m 57 #[.val (.ref o0), .val (.long q1), .second] [(.int (1024 : Int32)), (.int (0 : Int32)), (.ref cA)])) (fun tZ kZ => ?_) ?_
  · show Steps p.tables e below (T6.setTop (mkF m 54 #[.val (.ref o0), .val (.long q1), .second] [(.int (0 : Int32)), (.ref cA)])) _
    refine XS.sipush X6.here hx rfl (hb hby d5_54) ?_
    show Steps p.tables e below (T6.setTop (mkF m 57 #[.val (.ref o0), .val (.long q1), .second] [(.int (1024 : Int32)), (.int (0 : Int32)), (.ref cA)])) _
    exact kZ
  obtain ⟨T8, h8, k8, X8, e8, E8, A8, B8, st8⟩ := newPE X6 hx hZ (hw _ (List.mem_of_getElem? (i := 34) rfl)) e6 (g := (mkF m 57 #[.val (.ref o0), .val (.long q1), .second] [(.int (1024 : Int32)), (.int (0 : Int32)), (.ref cA)])) rfl (hb hby d5_57) rfl (by decide) (cap := 1024) (by decide) (by decide) (by decide) (by decide) (ad := "[J") rfl
  obtain ⟨b8, g8⟩ : ∃ z, z = h6.size := ⟨_, rfl⟩
  rw [← g8] at A8 B8 st8
  have g_b8 : n0 ≤ b8 := Nat.le_trans Z6 (Nat.le_of_eq g8.symm)
  have sz_b8 : h0.size ≤ b8 := Nat.le_trans (K6).1 (Nat.le_of_eq g8.symm)
  have ne_o0_b8 : o0 ≠ b8 := Nat.ne_of_lt (Nat.lt_of_lt_of_le c7_0.lt (Nat.le_of_eq g8.symm))
  have ne_cA_b8 : cA ≠ b8 := Nat.ne_of_lt (Nat.lt_of_lt_of_le c7_4.lt (Nat.le_of_eq g8.symm))
  have c9_0 := c7_0.ext E8
  have c9_1 := c7_1.ext E8
  have c9_2 := c7_2.ext E8
  have c9_3 := Fw6.ext E8
  have c9_4 := c7_4.ext E8
  have c9_5 := c7_5.ext E8
  have K8 : Keep h0 h8 [o0, cA] := K6.ext E8
  have Z8 : n0 ≤ h8.size := Nat.le_trans Z6 E8.1
  have V8 : AV Z h8 b8 .long 1024 (fun k => .long ((fun _ => (0 : Int64)) k)) := by have q := AV.new A8; exact q
  refine Go.via st8 ?_
  show Go p e below _ (T8.setTop (mkF m 59 #[.val (.ref o0), .val (.long q1), .second] [(.ref b8), (.int (0 : Int32)), (.ref cA)]))
  obtain ⟨T10, h10, X10, e10, W10, V10, st10⟩ := AV.aastore c9_4 rfl (OV.sto c9_5 c9_4 (Ins.self B8)) X8 hx hZ e8 (j := (0 : Int32)) (by decide) (Ls := #[.val (.ref o0), .val (.long q1), .second]) (rest := []) (hb hby d5_59) (v := (.ref b8))
  have N10 := Fr.snoc X10 N6 ha7
  have c11_0 := c9_0.wr W10
  have c11_1 := c9_1.other W10 (Or.inl hne_o0_cA)
  have c11_2 := c9_2.other W10 (Or.inl hne_o0_cA)
  have c11_3 := c9_3.other W10 (Or.inl hne_o0_cA)
  have c11_5 := c9_5.wr W10
  have c11_9 := B8.wr W10
  have c11_10 := V8.other W10 (Ne.symm ne_cA_b8)
  have K10 : Keep h0 h10 [o0, cA] := K8.wr W10 (Or.inl (by simp))
  have Z10 : n0 ≤ h10.size := Nat.le_trans Z8 (Keep.of_wr W10).1
  refine Go.via st10 ?_
  show Go p e below _ (T10.setTop (mkF m 60 #[.val (.ref o0), .val (.long q1), .second] []))
  refine Go.via (T' := T10.setTop (mkF m 63 #[.val (.ref o0), .val (.long q1), .second] [(.ref o0), (.ref o0), (.ref o0)])) (fun tZ kZ => ?_) ?_
  · show Steps p.tables e below (T10.setTop (mkF m 60 #[.val (.ref o0), .val (.long q1), .second] [])) _
    refine XS.aloadN X10.here hx rfl (hb hby d5_60) rfl rfl ?_
    show Steps p.tables e below (T10.setTop (mkF m 61 #[.val (.ref o0), .val (.long q1), .second] [(.ref o0)])) _
    refine XS.aloadN X10.here hx rfl (hb hby d5_61) rfl rfl ?_
    show Steps p.tables e below (T10.setTop (mkF m 62 #[.val (.ref o0), .val (.long q1), .second] [(.ref o0), (.ref o0)])) _
    refine XS.dup X10.here hx rfl (hb hby d5_62) rfl rfl ?_
    show Steps p.tables e below (T10.setTop (mkF m 63 #[.val (.ref o0), .val (.long q1), .second] [(.ref o0), (.ref o0), (.ref o0)])) _
    exact kZ
  obtain ⟨T12, X12, e12, st12⟩ := getF X10 hx hZ hown (host := "") (Or.inl (hw _ (List.mem_of_getElem? (i := 18) rfl))) Via.refl e10 c11_2 (g := (mkF m 63 #[.val (.ref o0), .val (.long q1), .second] [(.ref o0), (.ref o0), (.ref o0)])) rfl rfl (hb hby d5_63)
  refine Go.via st12 ?_
  show Go p e below _ (T12.setTop (mkF m 66 #[.val (.ref o0), .val (.long q1), .second] [(.int (0 : Int32)), (.ref o0), (.ref o0)]))
  refine Go.via (T' := T12.setTop (mkF m 69 #[.val (.ref o0), .val (.long q1), .second] [(.int (1 : Int32)), (.ref o0), (.int (0 : Int32)), (.ref o0)])) (fun tZ kZ => ?_) ?_
  · show Steps p.tables e below (T12.setTop (mkF m 66 #[.val (.ref o0), .val (.long q1), .second] [(.int (0 : Int32)), (.ref o0), (.ref o0)])) _
    refine XS.dupX1 X12.here hx rfl (hb hby d5_66) rfl rfl rfl ?_
    show Steps p.tables e below (T12.setTop (mkF m 67 #[.val (.ref o0), .val (.long q1), .second] [(.int (0 : Int32)), (.ref o0), (.int (0 : Int32)), (.ref o0)])) _
    refine XS.iconst X12.here hx rfl (hb hby d5_67) ?_
    show Steps p.tables e below (T12.setTop (mkF m 68 #[.val (.ref o0), .val (.long q1), .second] [(.int (1 : Int32)), (.int (0 : Int32)), (.ref o0), (.int (0 : Int32)), (.ref o0)])) _
    refine XS.iadd X12.here hx rfl (hb hby d5_68) rfl ?_
    show Steps p.tables e below (T12.setTop (mkF m 69 #[.val (.ref o0), .val (.long q1), .second] [(.int (1 : Int32)), (.ref o0), (.int (0 : Int32)), (.ref o0)])) _
    exact kZ
  obtain ⟨T13, h13, X13, e13, W13, st13⟩ := putF X12 hx hZ hown (host := "") (Or.inl (hw _ (List.mem_of_getElem? (i := 18) rfl))) Via.refl e12 c11_2 c11_0 (Or.inl (hw _ (List.mem_of_getElem? (i := 19) rfl))) (hw _ (List.mem_of_getElem? (i := 1) rfl)) (ty := .int) (by decide) rfl rfl (g := (mkF m 69 #[.val (.ref o0), .val (.long q1), .second] [(.int (1 : Int32)), (.ref o0), (.int (0 : Int32)), (.ref o0)])) rfl rfl (hb hby d5_69)
  have N13 := Fr.snoc X13 N10 ha6
  have c14_0 := c11_0.wr W13
  have c14_1 := c11_1.other W13 (Or.inr (slot_ne (Or.inl (hw _ (List.mem_of_getElem? (i := 12) rfl))) (Or.inl (hw _ (List.mem_of_getElem? (i := 19) rfl))) (by decide) (t := (.array (.array .long))) (t' := .int) (by decide) (by decide)))
  have c14_3 := c11_3.other W13 (Or.inr (slot_ne (Or.inl (hw _ (List.mem_of_getElem? (i := 21) rfl))) (Or.inl (hw _ (List.mem_of_getElem? (i := 19) rfl))) (by decide) (t := .int) (t' := .int) (by decide) (by decide)))
  have c14_4 := V10.other W13 (Ne.symm hne_o0_cA)
  have c14_5 := c11_5.wr W13
  have c14_9 := c11_9.wr W13
  have c14_10 := c11_10.other W13 (Ne.symm ne_o0_b8)
  have K13 : Keep h0 h13 [o0, cA] := K10.wr W13 (Or.inl (by simp))
  have Z13 : n0 ≤ h13.size := Nat.le_trans Z10 (Keep.of_wr W13).1
  have Fw13 := c11_2.same W13
  refine Go.via st13 ?_
  show Go p e below _ (T13.setTop (mkF m 72 #[.val (.ref o0), .val (.long q1), .second] [(.int (0 : Int32)), (.ref o0)]))
  refine Go.via (T' := T13.setTop (mkF m 73 #[.val (.ref o0), .val (.long q1), .second] [(.long q1), (.int (0 : Int32)), (.ref o0)])) (fun tZ kZ => ?_) ?_
  · show Steps p.tables e below (T13.setTop (mkF m 72 #[.val (.ref o0), .val (.long q1), .second] [(.int (0 : Int32)), (.ref o0)])) _
    refine XS.lloadN X13.here hx rfl (hb hby d5_72) rfl ?_
    show Steps p.tables e below (T13.setTop (mkF m 73 #[.val (.ref o0), .val (.long q1), .second] [(.long q1), (.int (0 : Int32)), (.ref o0)])) _
    exact kZ
  obtain ⟨cq15, kq15, q15a, q15b, q15c⟩ := isOf hZ e13 c14_0
  obtain ⟨_, _, ⟨T15, L15, k15, n15⟩, -, X15, ⟨Lc15, hQ15, l15, y15, z15⟩, st15⟩ := X13.virtualBack hx (y := (⟨"com/example/idle_surfer/idlesurfer/LongChunks", "set", "(IJ)V"⟩ : MethodName)) (z := (⟨"com/example/idle_surfer/idlesurfer/LongChunks", "set", "(IJ)V"⟩ : MethodName)) hown (mvT hZ (hw _ (List.mem_of_getElem? (i := 36) rfl))) (mvT hZ (hw _ (List.mem_of_getElem? (i := 37) rfl))) (notFace_of_selects (args := #[]) (mvT hZ (hw _ (List.mem_of_getElem? (i := 39) rfl)))) (mvT hZ (hw _ (List.mem_of_getElem? (i := 39) rfl))) (mvT hZ (hw _ (List.mem_of_getElem? (i := 38) rfl))) (by decide) (backOf (W := 0) (rm6 l Z a0 hw [] o0 (0 : Int32) q1 cA b8 (up gF (0 : Int32).toNatClampNeg (.ref b8)) (fun _ => (0 : Int64)) h13 n0 Z13 c14_1 c14_4 c14_10 g_b8 ne_o0_b8 ne_cA_b8 (by simp [up]) (by decide) (by decide)) hZ (hw _ (List.mem_of_getElem? (i := 40) rfl)) (hw _ (List.mem_of_getElem? (i := 2) rfl)) (by decide) (by decide)) q15a q15c (g := (mkF m 73 #[.val (.ref o0), .val (.long q1), .second] [(.long q1), (.int (0 : Int32)), (.ref o0)])) rfl (by rw [hml]; rfl) (Steps.refl _) (argsL := [(.int (0 : Int32)), (.long q1)]) (rest := []) (lenOf pd_4 rfl) rfl (by show 2 * 0 + _ ≤ _; exact Nat.le_of_eq rfl) (hb hby d5_73) (fun _ _ => ⟨rfl, e13, (by decide : 0 + 0 + 1 + 0 ≤ _), (by decide : 0 + 0 + 1024 + 0 ≤ _)⟩)
  dsimp only [Pt.U, Pt.locs, Pt.cells, Pt.slots] at X15 l15 y15 z15 st15 hQ15
  subst l15 y15 z15
  obtain ⟨rfl, N15q, Kq15, f15_0, f15_1, f15_2⟩ := hQ15
  have c16_0 := c14_0.keep Kq15
  have c16_2 := Fw13.keep Kq15 (ninS ne_o0_b8 nin0)
  have c16_3 := c14_3.keep Kq15 (ninS ne_o0_b8 nin0)
  have c16_5 := c14_5.keep Kq15
  have c16_9 := c14_9.keep Kq15
  have K15 : Keep h0 T15.heap [o0, cA] := K13.trans Kq15 (allS (Or.inr sz_b8) all0)
  have Z15 : n0 ≤ T15.heap.size := Nat.le_trans Z13 Kq15.1
  have N15 := Fr.app N13 N15q
  refine Go.via (fun t k => st15.trans k) ?_
  show Go p e below _ (T15.setTop (mkF m 76 #[.val (.ref o0), .val (.long q1), .second] []))
  refine Go.retV X15 hx Bd.notSynchronized Bd.returns (hb hby d5_76) (by decide) (by decide) ?_
  exact ⟨rfl, N15, b8, sz_b8, K15, c16_0, f15_0, c16_2, c16_3, f15_1, c16_5, c16_9, f15_2⟩
def Q5b (Z : State) (o0 : Addr) (q1 : Int64) (cA : Addr) (dA : Addr) (u : Int32) (gF : Nat → Value) (fF : Nat → Int64) (h0 : Heap) (n0 : Nat) (v : Option Value) (h : Heap) (L : List Loc) : Prop := v = none ∧ Fr n0 L ∧ Keep h0 h [o0, dA] ∧ Exa Z h o0 "com/example/idle_surfer/idlesurfer/LongChunks" ∧ Fld Z h o0 "com/example/idle_surfer/idlesurfer/LongChunks" "chunks" "[[J" (.ref cA) ∧ Fld Z h o0 "com/example/idle_surfer/idlesurfer/LongChunks" "size" "I" (.int (u + (1 : Int32))) ∧ Fld Z h o0 "com/example/idle_surfer/idlesurfer/LongChunks" "chunkCount" "I" (.int (1 : Int32)) ∧ AV Z h cA (.array .long) 16 gF ∧ OV Z h cA .long "[J" ∧ AV Z h dA .long 1024 (fun k => .long ((up fF (u &&& (1023 : Int32)).toNatClampNeg q1) k))
set_option maxRecDepth 65536 in
set_option maxHeartbeats 40000000 in
theorem rm5b (l : Launch) (Z : State) (a0 : Array Value) (hw : ∀ d ∈ tables_1, d.before a0 Z = true) (ws : List Jvm.Cond) (o0 : Addr) (q1 : Int64) (cA : Addr) (dA : Addr) (u : Int32) (gF : Nat → Value) (fF : Nat → Int64) (h0 : Heap) (n0 : Nat) (Z0 : n0 ≤ h0.size) (ha0 : Exa Z h0 o0 "com/example/idle_surfer/idlesurfer/LongChunks") (ha1 : Fld Z h0 o0 "com/example/idle_surfer/idlesurfer/LongChunks" "chunks" "[[J" (.ref cA)) (ha2 : Fld Z h0 o0 "com/example/idle_surfer/idlesurfer/LongChunks" "size" "I" (.int u)) (ha3 : Fld Z h0 o0 "com/example/idle_surfer/idlesurfer/LongChunks" "chunkCount" "I" (.int (1 : Int32))) (ha4 : AV Z h0 cA (.array .long) 16 gF) (ha5 : OV Z h0 cA .long "[J") (ha6 : n0 ≤ o0) (ha7 : n0 ≤ cA) (ha8 : AV Z h0 dA .long 1024 (fun k => .long (fF k))) (ha9 : n0 ≤ dA) (hne_o0_cA : o0 ≠ cA) (hne_o0_dA : o0 ≠ dA) (hne_cA_dA : cA ≠ dA) (hful : f3 o0 u (1 : Int32) = 0) (hg : gF (0 : Int32).toNatClampNeg = .ref dA) (hz : ((u.toUInt32 >>> ((10 : Int32) &&& 31).toUInt32).toInt32) = 0) (hj : ¬ (u &&& (1023 : Int32)) < 0 ∧ (u &&& (1023 : Int32)).toNatClampNeg < 1024) :
    MetFree l (⟨"com/example/idle_surfer/idlesurfer/LongChunks", "add", "(J)V"⟩ : MethodName) (head1 (Jvm.Cond.code (⟨"com/example/idle_surfer/idlesurfer/LongChunks", "add", "(J)V"⟩ : MethodName) prog_14_method_7_code 3 none :: ws) ({ frames := 1, cells := 0, slots := 0, locals := 15 } : Room)) (fun a U => a = #[(.ref o0), (.long q1)] ∧ Z.Warmed39 U.vm ∧ U.heap = h0) (fun _ _ _ _ _ => True) (fun _ U o U' => ∃ v L, o = .returned v ∧ Q5b Z o0 q1 cA dA u gF fF h0 n0 v U'.heap L ∧ FrameEnd U o U' L ({ frames := 1, cells := 0, slots := 0, locals := 15 } : Room).cells ({ frames := 1, cells := 0, slots := 0, locals := 15 } : Room).slots) := by
  refine MetFree.of_bodySF (plainFor_of_name pn_0) hisR ?_
  intro p e s m args below meth c s₁ Bd hml0 hP hK
  obtain ⟨rfl, hZ, hh⟩ := hP
  have hx := Bd.exec
  have hby := Bd.bytes
  have hml : c.maxLocals = 3 := hml0
  have hown : s.vm.findClass "com/example/idle_surfer/idlesurfer/LongChunks" = some m.cls := findClass_of_methodNamed Bd.named
  have hnm := (name_of_methodNamed Bd.named Bd.method).1
  have X0 : Stand p l e ({ frames := 1, cells := 0, slots := 0, locals := 15 } : Room) s m #[(.ref o0), (.long q1)] below meth c s₁ [] 0 0 := Stand.of_body Bd
  have e0 : s₁.heap = h0 := by rw [← hh, Bd.state]; rfl
  have N0 := Fr.nil n0
  refine Go.into (P := fun oo uu => ∃ v L, oo = .returned v ∧ Q5b Z o0 q1 cA dA u gF fF h0 n0 v uu.heap L ∧ FrameEnd s oo uu L ({ frames := 1, cells := 0, slots := 0, locals := 15 } : Room).cells ({ frames := 1, cells := 0, slots := 0, locals := 15 } : Room).slots) (ef_5_aa m o0 q1) ?_
  show Go p e below _ (s₁.setTop (mkF m 0 #[.val (.ref o0), .val (.long q1), .second] []))
  refine Go.via (T' := s₁.setTop (mkF m 1 #[.val (.ref o0), .val (.long q1), .second] [(.ref o0)])) (fun tZ kZ => ?_) ?_
  · show Steps p.tables e below (s₁.setTop (mkF m 0 #[.val (.ref o0), .val (.long q1), .second] [])) _
    refine XS.aloadN X0.here hx rfl (hb hby d5_0) rfl rfl ?_
    show Steps p.tables e below (s₁.setTop (mkF m 1 #[.val (.ref o0), .val (.long q1), .second] [(.ref o0)])) _
    exact kZ
  obtain ⟨cq1, kq1, q1a, q1b, q1c⟩ := isOf hZ e0 ha0
  obtain ⟨_, _, ⟨T1, L1, k1, n1⟩, -, X1, ⟨Lc1, hQ1, l1, y1, z1⟩, st1⟩ := X0.virtualBack hx (y := (⟨"com/example/idle_surfer/idlesurfer/LongChunks", "full", "()Z"⟩ : MethodName)) (z := (⟨"com/example/idle_surfer/idlesurfer/LongChunks", "full", "()Z"⟩ : MethodName)) hown (mvT hZ (hw _ (List.mem_of_getElem? (i := 33) rfl))) (mvT hZ (hw _ (List.mem_of_getElem? (i := 14) rfl))) (notFace_of_selects (args := #[]) (mvT hZ (hw _ (List.mem_of_getElem? (i := 16) rfl)))) (mvT hZ (hw _ (List.mem_of_getElem? (i := 16) rfl))) (mvT hZ (hw _ (List.mem_of_getElem? (i := 15) rfl))) (by decide) (backOf (W := 0) (rm3 l Z a0 hw [] o0 u (1 : Int32) h0 n0 Z0 ha2 ha3) hZ (hw _ (List.mem_of_getElem? (i := 17) rfl)) (hw _ (List.mem_of_getElem? (i := 2) rfl)) (by decide) (by decide)) q1a q1c (g := (mkF m 1 #[.val (.ref o0), .val (.long q1), .second] [(.ref o0)])) rfl (by rw [hml]; rfl) (Steps.refl _) (argsL := []) (rest := []) (lenOf pd_1 rfl) rfl (by show 2 * 0 + _ ≤ _; exact Nat.le_of_eq rfl) (hb hby d5_1) (fun _ _ => ⟨rfl, e0, (by decide : 0 + 0 ≤ _), (by decide : 0 + 0 ≤ _)⟩)
  dsimp only [Pt.U, Pt.locs, Pt.cells, Pt.slots] at X1 l1 y1 z1 st1 hQ1
  subst l1 y1 z1
  obtain ⟨rfl, N1q, e1⟩ := hQ1
  have N1 := Fr.app N0 N1q
  refine Go.via (fun t k => st1.trans k) ?_
  show Go p e below _ (T1.setTop (mkF m 4 #[.val (.ref o0), .val (.long q1), .second] [(.int (f3 o0 u (1 : Int32)))]))
  refine Go.via (T' := T1.setTop (mkF m 63 #[.val (.ref o0), .val (.long q1), .second] [(.ref o0), (.ref o0), (.ref o0)])) (fun tZ kZ => ?_) ?_
  · show Steps p.tables e below (T1.setTop (mkF m 4 #[.val (.ref o0), .val (.long q1), .second] [(.int (f3 o0 u (1 : Int32)))])) _
    refine XS.ifYes X1.here hx rfl (pc0 := 4) (pc' := 60) rfl (hb hby d5_4) rfl ((if0 _ _).trans (teq hful).1) (by decide) (by decide) ?_
    show Steps p.tables e below (T1.setTop (mkF m 60 #[.val (.ref o0), .val (.long q1), .second] [])) _
    refine XS.aloadN X1.here hx rfl (hb hby d5_60) rfl rfl ?_
    show Steps p.tables e below (T1.setTop (mkF m 61 #[.val (.ref o0), .val (.long q1), .second] [(.ref o0)])) _
    refine XS.aloadN X1.here hx rfl (hb hby d5_61) rfl rfl ?_
    show Steps p.tables e below (T1.setTop (mkF m 62 #[.val (.ref o0), .val (.long q1), .second] [(.ref o0), (.ref o0)])) _
    refine XS.dup X1.here hx rfl (hb hby d5_62) rfl rfl ?_
    show Steps p.tables e below (T1.setTop (mkF m 63 #[.val (.ref o0), .val (.long q1), .second] [(.ref o0), (.ref o0), (.ref o0)])) _
    exact kZ
  obtain ⟨T2, X2, e2, st2⟩ := getF X1 hx hZ hown (host := "") (Or.inl (hw _ (List.mem_of_getElem? (i := 18) rfl))) Via.refl e1 ha2 (g := (mkF m 63 #[.val (.ref o0), .val (.long q1), .second] [(.ref o0), (.ref o0), (.ref o0)])) rfl rfl (hb hby d5_63)
  refine Go.via st2 ?_
  show Go p e below _ (T2.setTop (mkF m 66 #[.val (.ref o0), .val (.long q1), .second] [(.int u), (.ref o0), (.ref o0)]))
  refine Go.via (T' := T2.setTop (mkF m 69 #[.val (.ref o0), .val (.long q1), .second] [(.int (u + (1 : Int32))), (.ref o0), (.int u), (.ref o0)])) (fun tZ kZ => ?_) ?_
  · show Steps p.tables e below (T2.setTop (mkF m 66 #[.val (.ref o0), .val (.long q1), .second] [(.int u), (.ref o0), (.ref o0)])) _
    refine XS.dupX1 X2.here hx rfl (hb hby d5_66) rfl rfl rfl ?_
    show Steps p.tables e below (T2.setTop (mkF m 67 #[.val (.ref o0), .val (.long q1), .second] [(.int u), (.ref o0), (.int u), (.ref o0)])) _
    refine XS.iconst X2.here hx rfl (hb hby d5_67) ?_
    show Steps p.tables e below (T2.setTop (mkF m 68 #[.val (.ref o0), .val (.long q1), .second] [(.int (1 : Int32)), (.int u), (.ref o0), (.int u), (.ref o0)])) _
    refine XS.iadd X2.here hx rfl (hb hby d5_68) rfl ?_
    show Steps p.tables e below (T2.setTop (mkF m 69 #[.val (.ref o0), .val (.long q1), .second] [(.int (u + (1 : Int32))), (.ref o0), (.int u), (.ref o0)])) _
    exact kZ
  obtain ⟨T3, h3, X3, e3, W3, st3⟩ := putF X2 hx hZ hown (host := "") (Or.inl (hw _ (List.mem_of_getElem? (i := 18) rfl))) Via.refl e2 ha2 ha0 (Or.inl (hw _ (List.mem_of_getElem? (i := 19) rfl))) (hw _ (List.mem_of_getElem? (i := 1) rfl)) (ty := .int) (by decide) rfl rfl (g := (mkF m 69 #[.val (.ref o0), .val (.long q1), .second] [(.int (u + (1 : Int32))), (.ref o0), (.int u), (.ref o0)])) rfl rfl (hb hby d5_69)
  have N3 := Fr.snoc X3 N1 ha6
  have c4_0 := ha0.wr W3
  have c4_1 := ha1.other W3 (Or.inr (slot_ne (Or.inl (hw _ (List.mem_of_getElem? (i := 12) rfl))) (Or.inl (hw _ (List.mem_of_getElem? (i := 19) rfl))) (by decide) (t := (.array (.array .long))) (t' := .int) (by decide) (by decide)))
  have c4_3 := ha3.other W3 (Or.inr (slot_ne (Or.inl (hw _ (List.mem_of_getElem? (i := 21) rfl))) (Or.inl (hw _ (List.mem_of_getElem? (i := 19) rfl))) (by decide) (t := .int) (t' := .int) (by decide) (by decide)))
  have c4_4 := ha4.other W3 (Ne.symm hne_o0_cA)
  have c4_5 := ha5.wr W3
  have c4_8 := ha8.other W3 (Ne.symm hne_o0_dA)
  have K3 : Keep h0 h3 [o0, dA] := (Keep.refl h0 [o0, dA]).wr W3 (Or.inl (by simp))
  have Z3 : n0 ≤ h3.size := Nat.le_trans Z0 (Keep.of_wr W3).1
  have Fw3 := ha2.same W3
  refine Go.via st3 ?_
  show Go p e below _ (T3.setTop (mkF m 72 #[.val (.ref o0), .val (.long q1), .second] [(.int u), (.ref o0)]))
  refine Go.via (T' := T3.setTop (mkF m 73 #[.val (.ref o0), .val (.long q1), .second] [(.long q1), (.int u), (.ref o0)])) (fun tZ kZ => ?_) ?_
  · show Steps p.tables e below (T3.setTop (mkF m 72 #[.val (.ref o0), .val (.long q1), .second] [(.int u), (.ref o0)])) _
    refine XS.lloadN X3.here hx rfl (hb hby d5_72) rfl ?_
    show Steps p.tables e below (T3.setTop (mkF m 73 #[.val (.ref o0), .val (.long q1), .second] [(.long q1), (.int u), (.ref o0)])) _
    exact kZ
  obtain ⟨cq5, kq5, q5a, q5b, q5c⟩ := isOf hZ e3 c4_0
  obtain ⟨_, _, ⟨T5, L5, k5, n5⟩, -, X5, ⟨Lc5, hQ5, l5, y5, z5⟩, st5⟩ := X3.virtualBack hx (y := (⟨"com/example/idle_surfer/idlesurfer/LongChunks", "set", "(IJ)V"⟩ : MethodName)) (z := (⟨"com/example/idle_surfer/idlesurfer/LongChunks", "set", "(IJ)V"⟩ : MethodName)) hown (mvT hZ (hw _ (List.mem_of_getElem? (i := 36) rfl))) (mvT hZ (hw _ (List.mem_of_getElem? (i := 37) rfl))) (notFace_of_selects (args := #[]) (mvT hZ (hw _ (List.mem_of_getElem? (i := 39) rfl)))) (mvT hZ (hw _ (List.mem_of_getElem? (i := 39) rfl))) (mvT hZ (hw _ (List.mem_of_getElem? (i := 38) rfl))) (by decide) (backOf (W := 0) (rm6 l Z a0 hw [] o0 u q1 cA dA gF fF h3 n0 Z3 c4_1 c4_4 c4_8 ha9 hne_o0_dA hne_cA_dA hg hz hj) hZ (hw _ (List.mem_of_getElem? (i := 40) rfl)) (hw _ (List.mem_of_getElem? (i := 2) rfl)) (by decide) (by decide)) q5a q5c (g := (mkF m 73 #[.val (.ref o0), .val (.long q1), .second] [(.long q1), (.int u), (.ref o0)])) rfl (by rw [hml]; rfl) (Steps.refl _) (argsL := [(.int u), (.long q1)]) (rest := []) (lenOf pd_4 rfl) rfl (by show 2 * 0 + _ ≤ _; exact Nat.le_of_eq rfl) (hb hby d5_73) (fun _ _ => ⟨rfl, e3, (by decide : 0 + 0 + 0 ≤ _), (by decide : 0 + 0 + 0 ≤ _)⟩)
  dsimp only [Pt.U, Pt.locs, Pt.cells, Pt.slots] at X5 l5 y5 z5 st5 hQ5
  subst l5 y5 z5
  obtain ⟨rfl, N5q, Kq5, f5_0, f5_1, f5_2⟩ := hQ5
  have c6_0 := c4_0.keep Kq5
  have c6_2 := Fw3.keep Kq5 (ninS hne_o0_dA nin0)
  have c6_3 := c4_3.keep Kq5 (ninS hne_o0_dA nin0)
  have c6_5 := c4_5.keep Kq5
  have K5 : Keep h0 T5.heap [o0, dA] := K3.trans Kq5 (allS (Or.inl (by simp)) all0)
  have Z5 : n0 ≤ T5.heap.size := Nat.le_trans Z3 Kq5.1
  have N5 := Fr.app N3 N5q
  refine Go.via (fun t k => st5.trans k) ?_
  show Go p e below _ (T5.setTop (mkF m 76 #[.val (.ref o0), .val (.long q1), .second] []))
  refine Go.retV X5 hx Bd.notSynchronized Bd.returns (hb hby d5_76) (by decide) (by decide) ?_
  exact ⟨rfl, N5, K5, c6_0, f5_0, c6_2, c6_3, f5_1, c6_5, f5_2⟩
theorem d4_0 : decode prog_14_method_6_code 0 = .ok (.ldc2_w 24, 3) := by decide +kernel
theorem d4_3 : decode prog_14_method_6_code 3 = .ok (.aload_n 0, 1) := by decide +kernel
theorem d4_4 : decode prog_14_method_6_code 4 = .ok (.getfield 21, 3) := by decide +kernel
theorem d4_7 : decode prog_14_method_6_code 7 = .ok (.i2l, 1) := by decide +kernel
theorem d4_8 : decode prog_14_method_6_code 8 = .ok (.lmul, 1) := by decide +kernel
theorem d4_9 : decode prog_14_method_6_code 9 = .ok (.lreturn, 1) := by decide +kernel
def Q4 (Z : State) (o0 : Addr) (u : Int32) (h0 : Heap) (n0 : Nat) (v : Option Value) (h : Heap) (L : List Loc) : Prop := v = some (.long ((8192 : Int64) * (u.toInt64))) ∧ Fr n0 L ∧ h = h0
theorem ef_4_a (m : MethodId) (x0 : Addr) : entryFrame m #[(.ref x0)] 1 = mkF m 0 #[.val (.ref x0)] [] := by first | (simp [entryFrame, mkF, argsToLocals, Value.category]; done) | rfl
set_option maxRecDepth 65536 in
set_option maxHeartbeats 40000000 in
theorem rm4 (l : Launch) (Z : State) (a0 : Array Value) (hw : ∀ d ∈ tables_1, d.before a0 Z = true) (ws : List Jvm.Cond) (o0 : Addr) (u : Int32) (h0 : Heap) (n0 : Nat) (Z0 : n0 ≤ h0.size) (ha0 : Fld Z h0 o0 "com/example/idle_surfer/idlesurfer/LongChunks" "chunkCount" "I" (.int u)) :
    MetFree l (⟨"com/example/idle_surfer/idlesurfer/LongChunks", "bytes", "()J"⟩ : MethodName) (head1 (Jvm.Cond.code (⟨"com/example/idle_surfer/idlesurfer/LongChunks", "bytes", "()J"⟩ : MethodName) prog_14_method_6_code 1 (some .long) :: ws) ({ frames := 0, cells := 0, slots := 0, locals := 0 } : Room)) (fun a U => a = #[(.ref o0)] ∧ Z.Warmed39 U.vm ∧ U.heap = h0) (fun _ _ _ _ _ => True) (fun _ U o U' => ∃ v L, o = .returned v ∧ Q4 Z o0 u h0 n0 v U'.heap L ∧ FrameEnd U o U' L ({ frames := 0, cells := 0, slots := 0, locals := 0 } : Room).cells ({ frames := 0, cells := 0, slots := 0, locals := 0 } : Room).slots) := by
  refine MetFree.of_bodySF (plainFor_of_name pn_0) hisR ?_
  intro p e s m args below meth c s₁ Bd hml0 hP hK
  obtain ⟨rfl, hZ, hh⟩ := hP
  have hx := Bd.exec
  have hby := Bd.bytes
  have hml : c.maxLocals = 1 := hml0
  have hown : s.vm.findClass "com/example/idle_surfer/idlesurfer/LongChunks" = some m.cls := findClass_of_methodNamed Bd.named
  have hnm := (name_of_methodNamed Bd.named Bd.method).1
  have X0 : Stand p l e ({ frames := 0, cells := 0, slots := 0, locals := 0 } : Room) s m #[(.ref o0)] below meth c s₁ [] 0 0 := Stand.of_body Bd
  have e0 : s₁.heap = h0 := by rw [← hh, Bd.state]; rfl
  have N0 := Fr.nil n0
  refine Go.into (P := fun oo uu => ∃ v L, oo = .returned v ∧ Q4 Z o0 u h0 n0 v uu.heap L ∧ FrameEnd s oo uu L ({ frames := 0, cells := 0, slots := 0, locals := 0 } : Room).cells ({ frames := 0, cells := 0, slots := 0, locals := 0 } : Room).slots) (ef_4_a m o0) ?_
  show Go p e below _ (s₁.setTop (mkF m 0 #[.val (.ref o0)] []))
  refine Go.via (T' := s₁.setTop (mkF m 4 #[.val (.ref o0)] [(.ref o0), (.long (8192 : Int64))])) (fun tZ kZ => ?_) ?_
  · show Steps p.tables e below (s₁.setTop (mkF m 0 #[.val (.ref o0)] [])) _
    refine X0.ldc2Long hx hown (mvT hZ (hw _ (List.mem_of_getElem? (i := 27) rfl))) (g := (mkF m 0 #[.val (.ref o0)] [])) rfl (hb hby d4_0) _ ?_
    show Steps p.tables e below (s₁.setTop (mkF m 3 #[.val (.ref o0)] [(.long (8192 : Int64))])) _
    refine XS.aloadN X0.here hx rfl (hb hby d4_3) rfl rfl ?_
    show Steps p.tables e below (s₁.setTop (mkF m 4 #[.val (.ref o0)] [(.ref o0), (.long (8192 : Int64))])) _
    exact kZ
  obtain ⟨T1, X1, e1, st1⟩ := getF X0 hx hZ hown (host := "") (Or.inl (hw _ (List.mem_of_getElem? (i := 20) rfl))) Via.refl e0 ha0 (g := (mkF m 4 #[.val (.ref o0)] [(.ref o0), (.long (8192 : Int64))])) rfl rfl (hb hby d4_4)
  refine Go.via st1 ?_
  show Go p e below _ (T1.setTop (mkF m 7 #[.val (.ref o0)] [(.int u), (.long (8192 : Int64))]))
  refine Go.via (T' := T1.setTop (mkF m 9 #[.val (.ref o0)] [(.long ((8192 : Int64) * (u.toInt64)))])) (fun tZ kZ => ?_) ?_
  · show Steps p.tables e below (T1.setTop (mkF m 7 #[.val (.ref o0)] [(.int u), (.long (8192 : Int64))])) _
    refine XS.i2l X1.here hx rfl (hb hby d4_7) rfl ?_
    show Steps p.tables e below (T1.setTop (mkF m 8 #[.val (.ref o0)] [(.long (u.toInt64)), (.long (8192 : Int64))])) _
    refine XS.lmul X1.here hx rfl (hb hby d4_8) rfl ?_
    show Steps p.tables e below (T1.setTop (mkF m 9 #[.val (.ref o0)] [(.long ((8192 : Int64) * (u.toInt64)))])) _
    exact kZ
  refine Go.retJ X1 hx Bd.notSynchronized Bd.returns (hb hby d4_9) (by decide) (by decide) ?_
  rw [e1]
  exact ⟨rfl, N0, rfl⟩
theorem own_and3 (x : Int32) : x &&& 3 = 0 ∨ x &&& 3 = 1 ∨ x &&& 3 = 2 ∨ x &&& 3 = 3 := by
  have e := Jvm.Kit.i32_mask x 3 (k := 2) (by decide) (by decide)
  have : (x &&& 3).toInt = 0 ∨ (x &&& 3).toInt = 1 ∨ (x &&& 3).toInt = 2 ∨ (x &&& 3).toInt = 3 := by omega
  rcases this with q | q | q | q
  · left; exact Int32.toInt_inj.mp q
  · right; left; exact Int32.toInt_inj.mp q
  · right; right; left; exact Int32.toInt_inj.mp q
  · right; right; right; exact Int32.toInt_inj.mp q
def Q0 (n0 : Nat) (v : Option Value) (h : Heap) (L : List Loc) : Prop := v = some (.int 1) ∧ Fr n0 L
theorem pd_0 : parseMethodDescriptor "()V" = some ⟨[], none⟩ := by decide +kernel
theorem pd_2 : parseMethodDescriptor "()J" = some ⟨[], some .long⟩ := by decide +kernel
theorem pd_3 : parseMethodDescriptor "(J)V" = some ⟨[.long], none⟩ := by decide +kernel
theorem pn_1 : plainName "com/example/idle_surfer/idlesurfer/LongChunksFullPinLaw" = true := by first | (simp [plainName, overriddenIn]; done) | decide +kernel
theorem ef_0_aa (m : MethodId) (x0 : Int32) (x1 : Int64) : entryFrame m #[(.int x0), (.long x1)] maxLocals = mkF m 0 #[.val (.int x0), .val (.long x1), .second, .unset, .unset, .unset, .unset, .unset, .unset, .unset, .unset, .unset, .unset, .unset] [] := by first | (simp [entryFrame, mkF, argsToLocals, Value.category, maxLocals]; done) | rfl
set_option maxRecDepth 65536 in
set_option maxHeartbeats 40000000 in
theorem rm0 (l : Launch) (Z : State) (a0 : Array Value) (hw : ∀ d ∈ tables_1, d.before a0 Z = true) (ws : List Jvm.Cond) (p0 : Int32) (q1 : Int64) (h0 : Heap) (n0 : Nat) (Z0 : n0 ≤ h0.size) :
    MetFree l x (head1 (Jvm.Cond.code x code maxLocals ret :: ws) room_1) (fun a U => a = #[(.int p0), (.long q1)] ∧ Z.Warmed39 U.vm ∧ U.heap = h0) (fun _ _ _ _ _ => True) (fun _ U o U' => ∃ v L, o = .returned v ∧ Q0 n0 v U'.heap L ∧ FrameEnd U o U' L 16 2176) := by
  refine MetFree.of_bodySF (plainFor_of_name pn_1) hisR ?_
  intro p e s m args below meth c s₁ Bd hml0 hP hK
  obtain ⟨rfl, hZ, hh⟩ := hP
  have hx := Bd.exec
  have hby := Bd.bytes
  have hml : c.maxLocals = 14 := hml0
  have hown : s.vm.findClass "com/example/idle_surfer/idlesurfer/LongChunksFullPinLaw" = some m.cls := findClass_of_methodNamed Bd.named
  have hnm := (name_of_methodNamed Bd.named Bd.method).1
  have X0 : Stand p l e room_1 s m #[(.int p0), (.long q1)] below meth c s₁ [] 0 0 := Stand.of_body Bd
  have e0 : s₁.heap = h0 := by rw [← hh, Bd.state]; rfl
  have N0 := Fr.nil n0
  refine Go.into (P := fun oo uu => ∃ v L, oo = .returned v ∧ Q0 n0 v uu.heap L ∧ FrameEnd s oo uu L 16 2176) (ef_0_aa m p0 q1) ?_
  show Go p e below _ (s₁.setTop (mkF m 0 #[.val (.int p0), .val (.long q1), .second, .unset, .unset, .unset, .unset, .unset, .unset, .unset, .unset, .unset, .unset, .unset] []))
  obtain ⟨T1, h1, X1, e1, E1, A1, D1, -, st1⟩ := newO X0 hx hZ hown (hw _ (List.mem_of_getElem? (i := 0) rfl)) (hw _ (List.mem_of_getElem? (i := 1) rfl)) (hw _ (List.mem_of_getElem? (i := 2) rfl)) e0 (g := (mkF m 0 #[.val (.int p0), .val (.long q1), .second, .unset, .unset, .unset, .unset, .unset, .unset, .unset, .unset, .unset, .unset, .unset] [])) rfl (hb hby at_0) (by decide) (by decide)
  obtain ⟨b1, g1⟩ : ∃ z, z = h0.size := ⟨_, rfl⟩
  rw [← g1] at A1 D1 st1
  have g_b1 : n0 ≤ b1 := Nat.le_trans Z0 (Nat.le_of_eq g1.symm)
  have sz_b1 : h0.size ≤ b1 := Nat.le_trans ((Keep.refl h0 [])).1 (Nat.le_of_eq g1.symm)
  have K1 : Keep h0 h1 [] := (Keep.refl h0 []).ext E1
  have Z1 : n0 ≤ h1.size := Nat.le_trans Z0 E1.1
  have F1_chunks : Fld Z h1 b1 "com/example/idle_surfer/idlesurfer/LongChunks" "chunks" "[[J" .null := D1 (Or.inl (hw _ (List.mem_of_getElem? (i := 12) rfl))) (ty := (.array (.array .long))) (by decide)
  have F1_size : Fld Z h1 b1 "com/example/idle_surfer/idlesurfer/LongChunks" "size" "I" (.int (0 : Int32)) := D1 (Or.inl (hw _ (List.mem_of_getElem? (i := 19) rfl))) (ty := .int) (by decide)
  have F1_chunkCount : Fld Z h1 b1 "com/example/idle_surfer/idlesurfer/LongChunks" "chunkCount" "I" (.int (0 : Int32)) := D1 (Or.inl (hw _ (List.mem_of_getElem? (i := 21) rfl))) (ty := .int) (by decide)
  refine Go.via st1 ?_
  show Go p e below _ (T1.setTop (mkF m 3 #[.val (.int p0), .val (.long q1), .second, .unset, .unset, .unset, .unset, .unset, .unset, .unset, .unset, .unset, .unset, .unset] [(.ref b1)]))
  refine Go.via (T' := T1.setTop (mkF m 4 #[.val (.int p0), .val (.long q1), .second, .unset, .unset, .unset, .unset, .unset, .unset, .unset, .unset, .unset, .unset, .unset] [(.ref b1), (.ref b1)])) (fun tZ kZ => ?_) ?_
  · show Steps p.tables e below (T1.setTop (mkF m 3 #[.val (.int p0), .val (.long q1), .second, .unset, .unset, .unset, .unset, .unset, .unset, .unset, .unset, .unset, .unset, .unset] [(.ref b1)])) _
    refine XS.dup X1.here hx rfl (hb hby at_3) rfl rfl ?_
    show Steps p.tables e below (T1.setTop (mkF m 4 #[.val (.int p0), .val (.long q1), .second, .unset, .unset, .unset, .unset, .unset, .unset, .unset, .unset, .unset, .unset, .unset] [(.ref b1), (.ref b1)])) _
    exact kZ
  obtain ⟨_, _, ⟨T3, L3, k3, n3⟩, -, X3, ⟨Lc3, hQ3, l3, y3, z3⟩, st3⟩ := X1.specialBack hx (y := (⟨"com/example/idle_surfer/idlesurfer/LongChunks", "<init>", "()V"⟩ : MethodName)) rfl hown (mvT hZ (hw _ (List.mem_of_getElem? (i := 3) rfl))) (mvT hZ (hw _ (List.mem_of_getElem? (i := 4) rfl))) (mvT hZ (hw _ (List.mem_of_getElem? (i := 5) rfl))) (by decide) (backOf (W := 1) (rm1 l Z a0 hw [] b1 h1 n0 Z1 A1 F1_chunks F1_size F1_chunkCount g_b1) hZ (hw _ (List.mem_of_getElem? (i := 5) rfl)) (hw _ (List.mem_of_getElem? (i := 2) rfl)) (by decide) (by decide)) (g := (mkF m 4 #[.val (.int p0), .val (.long q1), .second, .unset, .unset, .unset, .unset, .unset, .unset, .unset, .unset, .unset, .unset, .unset] [(.ref b1), (.ref b1)])) rfl (by rw [hml]; rfl) (Steps.refl _) (a := b1) (argsL := []) (rest := [(.ref b1)]) (lenOf pd_0 rfl) rfl (by show 2 * 0 + _ ≤ _; exact Nat.le_of_eq rfl) (hb hby at_4) (fun _ _ => ⟨rfl, e1, (by decide : 0 + 1 + 1 ≤ _), (by decide : 0 + 3 + 16 ≤ _)⟩)
  dsimp only [Pt.U, Pt.locs, Pt.cells, Pt.slots] at X3 l3 y3 z3 st3 hQ3
  subst l3 y3 z3
  obtain ⟨rfl, N3q, b3_0, hz_b3_0, Kq3, f3_0, f3_1, f3_2, f3_3, f3_4, f3_5, f3_6⟩ := hQ3
  have g_b3_0 : n0 ≤ b3_0 := Nat.le_trans Z1 hz_b3_0
  have sz_b3_0 : h0.size ≤ b3_0 := Nat.le_trans (K1).1 hz_b3_0
  have ne_b1_b3_0 : b1 ≠ b3_0 := Nat.ne_of_lt (Nat.lt_of_lt_of_le A1.lt hz_b3_0)
  have K3 : Keep h0 T3.heap [] := K1.trans Kq3 (allS (Or.inr sz_b1) all0)
  have Z3 : n0 ≤ T3.heap.size := Nat.le_trans Z1 Kq3.1
  have N3 := Fr.app N0 N3q
  refine Go.via (fun t k => st3.trans k) ?_
  show Go p e below _ (T3.setTop (mkF m 7 #[.val (.int p0), .val (.long q1), .second, .unset, .unset, .unset, .unset, .unset, .unset, .unset, .unset, .unset, .unset, .unset] [(.ref b1)]))
  refine Go.via (T' := T3.setTop (mkF m 13 #[.val (.int p0), .val (.long q1), .second, .val (.ref b1), .val (.int (p0 &&& (3 : Int32))), .unset, .unset, .unset, .unset, .unset, .unset, .unset, .unset, .unset] [])) (fun tZ kZ => ?_) ?_
  · show Steps p.tables e below (T3.setTop (mkF m 7 #[.val (.int p0), .val (.long q1), .second, .unset, .unset, .unset, .unset, .unset, .unset, .unset, .unset, .unset, .unset, .unset] [(.ref b1)])) _
    refine XS.astoreN X3.here hx rfl (hb hby at_7) rfl rfl (l' := #[.val (.int p0), .val (.long q1), .second, .val (.ref b1), .unset, .unset, .unset, .unset, .unset, .unset, .unset, .unset, .unset, .unset]) rfl ?_
    show Steps p.tables e below (T3.setTop (mkF m 8 #[.val (.int p0), .val (.long q1), .second, .val (.ref b1), .unset, .unset, .unset, .unset, .unset, .unset, .unset, .unset, .unset, .unset] [])) _
    refine XS.iloadN X3.here hx rfl (hb hby at_8) rfl ?_
    show Steps p.tables e below (T3.setTop (mkF m 9 #[.val (.int p0), .val (.long q1), .second, .val (.ref b1), .unset, .unset, .unset, .unset, .unset, .unset, .unset, .unset, .unset, .unset] [(.int p0)])) _
    refine XS.iconst X3.here hx rfl (hb hby at_9) ?_
    show Steps p.tables e below (T3.setTop (mkF m 10 #[.val (.int p0), .val (.long q1), .second, .val (.ref b1), .unset, .unset, .unset, .unset, .unset, .unset, .unset, .unset, .unset, .unset] [(.int (3 : Int32)), (.int p0)])) _
    refine XS.iand X3.here hx rfl (hb hby at_10) rfl ?_
    show Steps p.tables e below (T3.setTop (mkF m 11 #[.val (.int p0), .val (.long q1), .second, .val (.ref b1), .unset, .unset, .unset, .unset, .unset, .unset, .unset, .unset, .unset, .unset] [(.int (p0 &&& (3 : Int32)))])) _
    refine XS.istore X3.here hx rfl (hb hby at_11) rfl (l' := #[.val (.int p0), .val (.long q1), .second, .val (.ref b1), .val (.int (p0 &&& (3 : Int32))), .unset, .unset, .unset, .unset, .unset, .unset, .unset, .unset, .unset]) rfl ?_
    show Steps p.tables e below (T3.setTop (mkF m 13 #[.val (.int p0), .val (.long q1), .second, .val (.ref b1), .val (.int (p0 &&& (3 : Int32))), .unset, .unset, .unset, .unset, .unset, .unset, .unset, .unset, .unset] [])) _
    exact kZ
  rcases own_and3 p0 with hi | hi | hi | hi
  · rw [hi]
    show Go p e below _ (T3.setTop (mkF m 13 #[.val (.int p0), .val (.long q1), .second, .val (.ref b1), .val (.int (0 : Int32)), .unset, .unset, .unset, .unset, .unset, .unset, .unset, .unset, .unset] []))
    refine Go.via (T' := T3.setTop (mkF m 47 #[.val (.int p0), .val (.long q1), .second, .val (.ref b1), .val (.int (0 : Int32)), .unset, .unset, .unset, .unset, .unset, .unset, .unset, .unset, .unset] [(.ref b1)])) (fun tZ kZ => ?_) ?_
    · show Steps p.tables e below (T3.setTop (mkF m 13 #[.val (.int p0), .val (.long q1), .second, .val (.ref b1), .val (.int (0 : Int32)), .unset, .unset, .unset, .unset, .unset, .unset, .unset, .unset, .unset] [])) _
      refine XS.iload X3.here hx rfl (hb hby at_13) rfl ?_
      show Steps p.tables e below (T3.setTop (mkF m 15 #[.val (.int p0), .val (.long q1), .second, .val (.ref b1), .val (.int (0 : Int32)), .unset, .unset, .unset, .unset, .unset, .unset, .unset, .unset, .unset] [(.int (0 : Int32))])) _
      refine XS.iconst X3.here hx rfl (hb hby at_15) ?_
      show Steps p.tables e below (T3.setTop (mkF m 16 #[.val (.int p0), .val (.long q1), .second, .val (.ref b1), .val (.int (0 : Int32)), .unset, .unset, .unset, .unset, .unset, .unset, .unset, .unset, .unset] [(.int (1 : Int32)), (.int (0 : Int32))])) _
      refine XS.icmpYes X3.here hx rfl (pc0 := 16) (pc' := 24) rfl (hb hby at_16) rfl (tlt (by decide)).1 (by decide) (by decide) ?_
      show Steps p.tables e below (T3.setTop (mkF m 24 #[.val (.int p0), .val (.long q1), .second, .val (.ref b1), .val (.int (0 : Int32)), .unset, .unset, .unset, .unset, .unset, .unset, .unset, .unset, .unset] [])) _
      refine XS.iload X3.here hx rfl (hb hby at_24) rfl ?_
      show Steps p.tables e below (T3.setTop (mkF m 26 #[.val (.int p0), .val (.long q1), .second, .val (.ref b1), .val (.int (0 : Int32)), .unset, .unset, .unset, .unset, .unset, .unset, .unset, .unset, .unset] [(.int (0 : Int32))])) _
      refine XS.iconst X3.here hx rfl (hb hby at_26) ?_
      show Steps p.tables e below (T3.setTop (mkF m 27 #[.val (.int p0), .val (.long q1), .second, .val (.ref b1), .val (.int (0 : Int32)), .unset, .unset, .unset, .unset, .unset, .unset, .unset, .unset, .unset] [(.int (2 : Int32)), (.int (0 : Int32))])) _
      refine XS.icmpYes X3.here hx rfl (pc0 := 27) (pc' := 35) rfl (hb hby at_27) rfl (tlt (by decide)).1 (by decide) (by decide) ?_
      show Steps p.tables e below (T3.setTop (mkF m 35 #[.val (.int p0), .val (.long q1), .second, .val (.ref b1), .val (.int (0 : Int32)), .unset, .unset, .unset, .unset, .unset, .unset, .unset, .unset, .unset] [])) _
      refine XS.iload X3.here hx rfl (hb hby at_35) rfl ?_
      show Steps p.tables e below (T3.setTop (mkF m 37 #[.val (.int p0), .val (.long q1), .second, .val (.ref b1), .val (.int (0 : Int32)), .unset, .unset, .unset, .unset, .unset, .unset, .unset, .unset, .unset] [(.int (0 : Int32))])) _
      refine XS.iconst X3.here hx rfl (hb hby at_37) ?_
      show Steps p.tables e below (T3.setTop (mkF m 38 #[.val (.int p0), .val (.long q1), .second, .val (.ref b1), .val (.int (0 : Int32)), .unset, .unset, .unset, .unset, .unset, .unset, .unset, .unset, .unset] [(.int (3 : Int32)), (.int (0 : Int32))])) _
      refine XS.icmpYes X3.here hx rfl (pc0 := 38) (pc' := 46) rfl (hb hby at_38) rfl (tlt (by decide)).1 (by decide) (by decide) ?_
      show Steps p.tables e below (T3.setTop (mkF m 46 #[.val (.int p0), .val (.long q1), .second, .val (.ref b1), .val (.int (0 : Int32)), .unset, .unset, .unset, .unset, .unset, .unset, .unset, .unset, .unset] [])) _
      refine XS.aloadN X3.here hx rfl (hb hby at_46) rfl rfl ?_
      show Steps p.tables e below (T3.setTop (mkF m 47 #[.val (.int p0), .val (.long q1), .second, .val (.ref b1), .val (.int (0 : Int32)), .unset, .unset, .unset, .unset, .unset, .unset, .unset, .unset, .unset] [(.ref b1)])) _
      exact kZ
    obtain ⟨cq5, kq5, q5a, q5b, q5c⟩ := isOf hZ rfl f3_0
    obtain ⟨_, _, ⟨T5, L5, k5, n5⟩, -, X5, ⟨Lc5, hQ5, l5, y5, z5⟩, st5⟩ := X3.virtualBack hx (y := (⟨"com/example/idle_surfer/idlesurfer/LongChunks", "full", "()Z"⟩ : MethodName)) (z := (⟨"com/example/idle_surfer/idlesurfer/LongChunks", "full", "()Z"⟩ : MethodName)) hown (mvT hZ (hw _ (List.mem_of_getElem? (i := 13) rfl))) (mvT hZ (hw _ (List.mem_of_getElem? (i := 14) rfl))) (notFace_of_selects (args := #[]) (mvT hZ (hw _ (List.mem_of_getElem? (i := 16) rfl)))) (mvT hZ (hw _ (List.mem_of_getElem? (i := 16) rfl))) (mvT hZ (hw _ (List.mem_of_getElem? (i := 15) rfl))) (by decide) (backOf (W := 0) (rm3 l Z a0 hw [] b1 (0 : Int32) (0 : Int32) T3.heap n0 Z3 f3_2 f3_3) hZ (hw _ (List.mem_of_getElem? (i := 17) rfl)) (hw _ (List.mem_of_getElem? (i := 2) rfl)) (by decide) (by decide)) q5a q5c (g := (mkF m 47 #[.val (.int p0), .val (.long q1), .second, .val (.ref b1), .val (.int (0 : Int32)), .unset, .unset, .unset, .unset, .unset, .unset, .unset, .unset, .unset] [(.ref b1)])) rfl (by rw [hml]; rfl) (Steps.refl _) (argsL := []) (rest := []) (lenOf pd_1 rfl) rfl (by show 2 * 0 + _ ≤ _; exact Nat.le_of_eq rfl) (hb hby at_47) (fun _ _ => ⟨rfl, rfl, (by decide : 0 + 1 + 1 + 0 ≤ _), (by decide : 0 + 3 + 16 + 0 ≤ _)⟩)
    dsimp only [Pt.U, Pt.locs, Pt.cells, Pt.slots] at X5 l5 y5 z5 st5 hQ5
    subst l5 y5 z5
    obtain ⟨rfl, N5q, e5⟩ := hQ5
    have hv5 : (f3 b1 (0 : Int32) (0 : Int32)) = (1 : Int32) := by unfold f3; decide
    rw [hv5] at st5
    have N5 := Fr.app N3 N5q
    refine Go.via (fun t k => st5.trans k) ?_
    show Go p e below _ (T5.setTop (mkF m 50 #[.val (.int p0), .val (.long q1), .second, .val (.ref b1), .val (.int (0 : Int32)), .unset, .unset, .unset, .unset, .unset, .unset, .unset, .unset, .unset] [(.int (1 : Int32))]))
    refine Go.via (T' := T5.setTop (mkF m 53 #[.val (.int p0), .val (.long q1), .second, .val (.ref b1), .val (.int (0 : Int32)), .val (.int (1 : Int32)), .unset, .unset, .unset, .unset, .unset, .unset, .unset, .unset] [(.ref b1)])) (fun tZ kZ => ?_) ?_
    · show Steps p.tables e below (T5.setTop (mkF m 50 #[.val (.int p0), .val (.long q1), .second, .val (.ref b1), .val (.int (0 : Int32)), .unset, .unset, .unset, .unset, .unset, .unset, .unset, .unset, .unset] [(.int (1 : Int32))])) _
      refine XS.istore X5.here hx rfl (hb hby at_50) rfl (l' := #[.val (.int p0), .val (.long q1), .second, .val (.ref b1), .val (.int (0 : Int32)), .val (.int (1 : Int32)), .unset, .unset, .unset, .unset, .unset, .unset, .unset, .unset]) rfl ?_
      show Steps p.tables e below (T5.setTop (mkF m 52 #[.val (.int p0), .val (.long q1), .second, .val (.ref b1), .val (.int (0 : Int32)), .val (.int (1 : Int32)), .unset, .unset, .unset, .unset, .unset, .unset, .unset, .unset] [])) _
      refine XS.aloadN X5.here hx rfl (hb hby at_52) rfl rfl ?_
      show Steps p.tables e below (T5.setTop (mkF m 53 #[.val (.int p0), .val (.long q1), .second, .val (.ref b1), .val (.int (0 : Int32)), .val (.int (1 : Int32)), .unset, .unset, .unset, .unset, .unset, .unset, .unset, .unset] [(.ref b1)])) _
      exact kZ
    obtain ⟨cq6, kq6, q6a, q6b, q6c⟩ := isOf hZ e5 f3_0
    obtain ⟨_, _, ⟨T6, L6, k6, n6⟩, -, X6, ⟨Lc6, hQ6, l6, y6, z6⟩, st6⟩ := X5.virtualBack hx (y := (⟨"com/example/idle_surfer/idlesurfer/LongChunks", "bytes", "()J"⟩ : MethodName)) (z := (⟨"com/example/idle_surfer/idlesurfer/LongChunks", "bytes", "()J"⟩ : MethodName)) hown (mvT hZ (hw _ (List.mem_of_getElem? (i := 22) rfl))) (mvT hZ (hw _ (List.mem_of_getElem? (i := 23) rfl))) (notFace_of_selects (args := #[]) (mvT hZ (hw _ (List.mem_of_getElem? (i := 25) rfl)))) (mvT hZ (hw _ (List.mem_of_getElem? (i := 25) rfl))) (mvT hZ (hw _ (List.mem_of_getElem? (i := 24) rfl))) (by decide) (backOf (W := 0) (rm4 l Z a0 hw [] b1 (0 : Int32) T3.heap n0 Z3 f3_3) hZ (hw _ (List.mem_of_getElem? (i := 26) rfl)) (hw _ (List.mem_of_getElem? (i := 2) rfl)) (by decide) (by decide)) q6a q6c (g := (mkF m 53 #[.val (.int p0), .val (.long q1), .second, .val (.ref b1), .val (.int (0 : Int32)), .val (.int (1 : Int32)), .unset, .unset, .unset, .unset, .unset, .unset, .unset, .unset] [(.ref b1)])) rfl (by rw [hml]; rfl) (Steps.refl _) (argsL := []) (rest := []) (lenOf pd_2 rfl) rfl (by show 2 * 0 + _ ≤ _; exact Nat.le_of_eq rfl) (hb hby at_53) (fun _ _ => ⟨rfl, e5, (by decide : 0 + 1 + 1 + 0 + 0 ≤ _), (by decide : 0 + 3 + 16 + 0 + 0 ≤ _)⟩)
    dsimp only [Pt.U, Pt.locs, Pt.cells, Pt.slots] at X6 l6 y6 z6 st6 hQ6
    subst l6 y6 z6
    obtain ⟨rfl, N6q, e6⟩ := hQ6
    have N6 := Fr.app N5 N6q
    refine Go.via (fun t k => st6.trans k) ?_
    show Go p e below _ (T6.setTop (mkF m 56 #[.val (.int p0), .val (.long q1), .second, .val (.ref b1), .val (.int (0 : Int32)), .val (.int (1 : Int32)), .unset, .unset, .unset, .unset, .unset, .unset, .unset, .unset] [(.long (0 : Int64))]))
    refine Go.via (T' := T6.setTop (mkF m 60 #[.val (.int p0), .val (.long q1), .second, .val (.ref b1), .val (.int (0 : Int32)), .val (.int (1 : Int32)), .val (.long (0 : Int64)), .second, .unset, .unset, .unset, .unset, .unset, .unset] [(.long q1), (.ref b1)])) (fun tZ kZ => ?_) ?_
    · show Steps p.tables e below (T6.setTop (mkF m 56 #[.val (.int p0), .val (.long q1), .second, .val (.ref b1), .val (.int (0 : Int32)), .val (.int (1 : Int32)), .unset, .unset, .unset, .unset, .unset, .unset, .unset, .unset] [(.long (0 : Int64))])) _
      refine XS.lstore X6.here hx rfl (hb hby at_56) rfl (l' := #[.val (.int p0), .val (.long q1), .second, .val (.ref b1), .val (.int (0 : Int32)), .val (.int (1 : Int32)), .val (.long (0 : Int64)), .second, .unset, .unset, .unset, .unset, .unset, .unset]) rfl ?_
      show Steps p.tables e below (T6.setTop (mkF m 58 #[.val (.int p0), .val (.long q1), .second, .val (.ref b1), .val (.int (0 : Int32)), .val (.int (1 : Int32)), .val (.long (0 : Int64)), .second, .unset, .unset, .unset, .unset, .unset, .unset] [])) _
      refine XS.aloadN X6.here hx rfl (hb hby at_58) rfl rfl ?_
      show Steps p.tables e below (T6.setTop (mkF m 59 #[.val (.int p0), .val (.long q1), .second, .val (.ref b1), .val (.int (0 : Int32)), .val (.int (1 : Int32)), .val (.long (0 : Int64)), .second, .unset, .unset, .unset, .unset, .unset, .unset] [(.ref b1)])) _
      refine XS.lloadN X6.here hx rfl (hb hby at_59) rfl ?_
      show Steps p.tables e below (T6.setTop (mkF m 60 #[.val (.int p0), .val (.long q1), .second, .val (.ref b1), .val (.int (0 : Int32)), .val (.int (1 : Int32)), .val (.long (0 : Int64)), .second, .unset, .unset, .unset, .unset, .unset, .unset] [(.long q1), (.ref b1)])) _
      exact kZ
    obtain ⟨cq7, kq7, q7a, q7b, q7c⟩ := isOf hZ e6 f3_0
    obtain ⟨_, _, ⟨T7, L7, k7, n7⟩, -, X7, ⟨Lc7, hQ7, l7, y7, z7⟩, st7⟩ := X6.virtualBack hx (y := (⟨"com/example/idle_surfer/idlesurfer/LongChunks", "add", "(J)V"⟩ : MethodName)) (z := (⟨"com/example/idle_surfer/idlesurfer/LongChunks", "add", "(J)V"⟩ : MethodName)) hown (mvT hZ (hw _ (List.mem_of_getElem? (i := 28) rfl))) (mvT hZ (hw _ (List.mem_of_getElem? (i := 29) rfl))) (notFace_of_selects (args := #[]) (mvT hZ (hw _ (List.mem_of_getElem? (i := 31) rfl)))) (mvT hZ (hw _ (List.mem_of_getElem? (i := 31) rfl))) (mvT hZ (hw _ (List.mem_of_getElem? (i := 30) rfl))) (by decide) (backOf (W := 0) (rm5a l Z a0 hw [] b1 q1 b3_0 (fun _ => Value.null) T3.heap n0 Z3 f3_0 f3_1 f3_2 f3_3 f3_4 f3_6 g_b1 g_b3_0 ne_b1_b3_0) hZ (hw _ (List.mem_of_getElem? (i := 32) rfl)) (hw _ (List.mem_of_getElem? (i := 2) rfl)) (by decide) (by decide)) q7a q7c (g := (mkF m 60 #[.val (.int p0), .val (.long q1), .second, .val (.ref b1), .val (.int (0 : Int32)), .val (.int (1 : Int32)), .val (.long (0 : Int64)), .second, .unset, .unset, .unset, .unset, .unset, .unset] [(.long q1), (.ref b1)])) rfl (by rw [hml]; rfl) (Steps.refl _) (argsL := [(.long q1)]) (rest := []) (lenOf pd_3 rfl) rfl (by show 2 * 0 + _ ≤ _; exact Nat.le_of_eq rfl) (hb hby at_60) (fun _ _ => ⟨rfl, e6, (by decide : 0 + 1 + 1 + 0 + 0 + 1 ≤ _), (by decide : 0 + 3 + 16 + 0 + 0 + 1024 ≤ _)⟩)
    dsimp only [Pt.U, Pt.locs, Pt.cells, Pt.slots] at X7 l7 y7 z7 st7 hQ7
    subst l7 y7 z7
    obtain ⟨rfl, N7q, b7_0, hz_b7_0, Kq7, f7_0, f7_1, f7_2, f7_3, f7_4, f7_5, f7_6, f7_7⟩ := hQ7
    have g_b7_0 : n0 ≤ b7_0 := Nat.le_trans Z3 hz_b7_0
    have sz_b7_0 : h0.size ≤ b7_0 := Nat.le_trans (K3).1 hz_b7_0
    have ne_b1_b7_0 : b1 ≠ b7_0 := Nat.ne_of_lt (Nat.lt_of_lt_of_le f3_0.lt hz_b7_0)
    have ne_b3_0_b7_0 : b3_0 ≠ b7_0 := Nat.ne_of_lt (Nat.lt_of_lt_of_le f3_4.lt hz_b7_0)
    have c8_6 := f3_5.keep Kq7
    have K7 : Keep h0 T7.heap [] := K3.trans Kq7 (allS (Or.inr sz_b1) (allS (Or.inr sz_b3_0) all0))
    have Z7 : n0 ≤ T7.heap.size := Nat.le_trans Z3 Kq7.1
    have N7 := Fr.app N6 N7q
    refine Go.via (fun t k => st7.trans k) ?_
    show Go p e below _ (T7.setTop (mkF m 63 #[.val (.int p0), .val (.long q1), .second, .val (.ref b1), .val (.int (0 : Int32)), .val (.int (1 : Int32)), .val (.long (0 : Int64)), .second, .unset, .unset, .unset, .unset, .unset, .unset] []))
    refine Go.via (T' := T7.setTop (mkF m 64 #[.val (.int p0), .val (.long q1), .second, .val (.ref b1), .val (.int (0 : Int32)), .val (.int (1 : Int32)), .val (.long (0 : Int64)), .second, .unset, .unset, .unset, .unset, .unset, .unset] [(.ref b1)])) (fun tZ kZ => ?_) ?_
    · show Steps p.tables e below (T7.setTop (mkF m 63 #[.val (.int p0), .val (.long q1), .second, .val (.ref b1), .val (.int (0 : Int32)), .val (.int (1 : Int32)), .val (.long (0 : Int64)), .second, .unset, .unset, .unset, .unset, .unset, .unset] [])) _
      refine XS.aloadN X7.here hx rfl (hb hby at_63) rfl rfl ?_
      show Steps p.tables e below (T7.setTop (mkF m 64 #[.val (.int p0), .val (.long q1), .second, .val (.ref b1), .val (.int (0 : Int32)), .val (.int (1 : Int32)), .val (.long (0 : Int64)), .second, .unset, .unset, .unset, .unset, .unset, .unset] [(.ref b1)])) _
      exact kZ
    obtain ⟨cq9, kq9, q9a, q9b, q9c⟩ := isOf hZ rfl f7_0
    obtain ⟨_, _, ⟨T9, L9, k9, n9⟩, -, X9, ⟨Lc9, hQ9, l9, y9, z9⟩, st9⟩ := X7.virtualBack hx (y := (⟨"com/example/idle_surfer/idlesurfer/LongChunks", "bytes", "()J"⟩ : MethodName)) (z := (⟨"com/example/idle_surfer/idlesurfer/LongChunks", "bytes", "()J"⟩ : MethodName)) hown (mvT hZ (hw _ (List.mem_of_getElem? (i := 22) rfl))) (mvT hZ (hw _ (List.mem_of_getElem? (i := 23) rfl))) (notFace_of_selects (args := #[]) (mvT hZ (hw _ (List.mem_of_getElem? (i := 25) rfl)))) (mvT hZ (hw _ (List.mem_of_getElem? (i := 25) rfl))) (mvT hZ (hw _ (List.mem_of_getElem? (i := 24) rfl))) (by decide) (backOf (W := 0) (rm4 l Z a0 hw [] b1 (1 : Int32) T7.heap n0 Z7 f7_3) hZ (hw _ (List.mem_of_getElem? (i := 26) rfl)) (hw _ (List.mem_of_getElem? (i := 2) rfl)) (by decide) (by decide)) q9a q9c (g := (mkF m 64 #[.val (.int p0), .val (.long q1), .second, .val (.ref b1), .val (.int (0 : Int32)), .val (.int (1 : Int32)), .val (.long (0 : Int64)), .second, .unset, .unset, .unset, .unset, .unset, .unset] [(.ref b1)])) rfl (by rw [hml]; rfl) (Steps.refl _) (argsL := []) (rest := []) (lenOf pd_2 rfl) rfl (by show 2 * 0 + _ ≤ _; exact Nat.le_of_eq rfl) (hb hby at_64) (fun _ _ => ⟨rfl, rfl, (by decide : 0 + 1 + 1 + 0 + 0 + 1 + 0 ≤ _), (by decide : 0 + 3 + 16 + 0 + 0 + 1024 + 0 ≤ _)⟩)
    dsimp only [Pt.U, Pt.locs, Pt.cells, Pt.slots] at X9 l9 y9 z9 st9 hQ9
    subst l9 y9 z9
    obtain ⟨rfl, N9q, e9⟩ := hQ9
    have N9 := Fr.app N7 N9q
    refine Go.via (fun t k => st9.trans k) ?_
    show Go p e below _ (T9.setTop (mkF m 67 #[.val (.int p0), .val (.long q1), .second, .val (.ref b1), .val (.int (0 : Int32)), .val (.int (1 : Int32)), .val (.long (0 : Int64)), .second, .unset, .unset, .unset, .unset, .unset, .unset] [(.long (8192 : Int64))]))
    refine Go.via (T' := T9.setTop (mkF m 70 #[.val (.int p0), .val (.long q1), .second, .val (.ref b1), .val (.int (0 : Int32)), .val (.int (1 : Int32)), .val (.long (0 : Int64)), .second, .val (.long (8192 : Int64)), .second, .unset, .unset, .unset, .unset] [(.ref b1)])) (fun tZ kZ => ?_) ?_
    · show Steps p.tables e below (T9.setTop (mkF m 67 #[.val (.int p0), .val (.long q1), .second, .val (.ref b1), .val (.int (0 : Int32)), .val (.int (1 : Int32)), .val (.long (0 : Int64)), .second, .unset, .unset, .unset, .unset, .unset, .unset] [(.long (8192 : Int64))])) _
      refine XS.lstore X9.here hx rfl (hb hby at_67) rfl (l' := #[.val (.int p0), .val (.long q1), .second, .val (.ref b1), .val (.int (0 : Int32)), .val (.int (1 : Int32)), .val (.long (0 : Int64)), .second, .val (.long (8192 : Int64)), .second, .unset, .unset, .unset, .unset]) rfl ?_
      show Steps p.tables e below (T9.setTop (mkF m 69 #[.val (.int p0), .val (.long q1), .second, .val (.ref b1), .val (.int (0 : Int32)), .val (.int (1 : Int32)), .val (.long (0 : Int64)), .second, .val (.long (8192 : Int64)), .second, .unset, .unset, .unset, .unset] [])) _
      refine XS.aloadN X9.here hx rfl (hb hby at_69) rfl rfl ?_
      show Steps p.tables e below (T9.setTop (mkF m 70 #[.val (.int p0), .val (.long q1), .second, .val (.ref b1), .val (.int (0 : Int32)), .val (.int (1 : Int32)), .val (.long (0 : Int64)), .second, .val (.long (8192 : Int64)), .second, .unset, .unset, .unset, .unset] [(.ref b1)])) _
      exact kZ
    obtain ⟨cq10, kq10, q10a, q10b, q10c⟩ := isOf hZ e9 f7_0
    obtain ⟨_, _, ⟨T10, L10, k10, n10⟩, -, X10, ⟨Lc10, hQ10, l10, y10, z10⟩, st10⟩ := X9.virtualBack hx (y := (⟨"com/example/idle_surfer/idlesurfer/LongChunks", "full", "()Z"⟩ : MethodName)) (z := (⟨"com/example/idle_surfer/idlesurfer/LongChunks", "full", "()Z"⟩ : MethodName)) hown (mvT hZ (hw _ (List.mem_of_getElem? (i := 13) rfl))) (mvT hZ (hw _ (List.mem_of_getElem? (i := 14) rfl))) (notFace_of_selects (args := #[]) (mvT hZ (hw _ (List.mem_of_getElem? (i := 16) rfl)))) (mvT hZ (hw _ (List.mem_of_getElem? (i := 16) rfl))) (mvT hZ (hw _ (List.mem_of_getElem? (i := 15) rfl))) (by decide) (backOf (W := 0) (rm3 l Z a0 hw [] b1 (1 : Int32) (1 : Int32) T7.heap n0 Z7 f7_2 f7_3) hZ (hw _ (List.mem_of_getElem? (i := 17) rfl)) (hw _ (List.mem_of_getElem? (i := 2) rfl)) (by decide) (by decide)) q10a q10c (g := (mkF m 70 #[.val (.int p0), .val (.long q1), .second, .val (.ref b1), .val (.int (0 : Int32)), .val (.int (1 : Int32)), .val (.long (0 : Int64)), .second, .val (.long (8192 : Int64)), .second, .unset, .unset, .unset, .unset] [(.ref b1)])) rfl (by rw [hml]; rfl) (Steps.refl _) (argsL := []) (rest := []) (lenOf pd_1 rfl) rfl (by show 2 * 0 + _ ≤ _; exact Nat.le_of_eq rfl) (hb hby at_70) (fun _ _ => ⟨rfl, e9, (by decide : 0 + 1 + 1 + 0 + 0 + 1 + 0 + 0 ≤ _), (by decide : 0 + 3 + 16 + 0 + 0 + 1024 + 0 + 0 ≤ _)⟩)
    dsimp only [Pt.U, Pt.locs, Pt.cells, Pt.slots] at X10 l10 y10 z10 st10 hQ10
    subst l10 y10 z10
    obtain ⟨rfl, N10q, e10⟩ := hQ10
    have hv10 : (f3 b1 (1 : Int32) (1 : Int32)) = (0 : Int32) := by unfold f3; decide
    rw [hv10] at st10
    have N10 := Fr.app N9 N10q
    refine Go.via (fun t k => st10.trans k) ?_
    show Go p e below _ (T10.setTop (mkF m 73 #[.val (.int p0), .val (.long q1), .second, .val (.ref b1), .val (.int (0 : Int32)), .val (.int (1 : Int32)), .val (.long (0 : Int64)), .second, .val (.long (8192 : Int64)), .second, .unset, .unset, .unset, .unset] [(.int (0 : Int32))]))
    refine Go.via (T' := T10.setTop (mkF m 155 #[.val (.int p0), .val (.long q1), .second, .val (.ref b1), .val (.int (0 : Int32)), .val (.int (1 : Int32)), .val (.long (0 : Int64)), .second, .val (.long (8192 : Int64)), .second, .val (.int (0 : Int32)), .val (.int (1 : Int32)), .val (.int (1 : Int32)), .val (.int (0 : Int32))] [(.int (1 : Int32))])) (fun tZ kZ => ?_) ?_
    · show Steps p.tables e below (T10.setTop (mkF m 73 #[.val (.int p0), .val (.long q1), .second, .val (.ref b1), .val (.int (0 : Int32)), .val (.int (1 : Int32)), .val (.long (0 : Int64)), .second, .val (.long (8192 : Int64)), .second, .unset, .unset, .unset, .unset] [(.int (0 : Int32))])) _
      refine XS.istore X10.here hx rfl (hb hby at_73) rfl (l' := #[.val (.int p0), .val (.long q1), .second, .val (.ref b1), .val (.int (0 : Int32)), .val (.int (1 : Int32)), .val (.long (0 : Int64)), .second, .val (.long (8192 : Int64)), .second, .val (.int (0 : Int32)), .unset, .unset, .unset]) rfl ?_
      show Steps p.tables e below (T10.setTop (mkF m 75 #[.val (.int p0), .val (.long q1), .second, .val (.ref b1), .val (.int (0 : Int32)), .val (.int (1 : Int32)), .val (.long (0 : Int64)), .second, .val (.long (8192 : Int64)), .second, .val (.int (0 : Int32)), .unset, .unset, .unset] [])) _
      refine XS.iload X10.here hx rfl (hb hby at_75) rfl ?_
      show Steps p.tables e below (T10.setTop (mkF m 77 #[.val (.int p0), .val (.long q1), .second, .val (.ref b1), .val (.int (0 : Int32)), .val (.int (1 : Int32)), .val (.long (0 : Int64)), .second, .val (.long (8192 : Int64)), .second, .val (.int (0 : Int32)), .unset, .unset, .unset] [(.int (0 : Int32))])) _
      refine XS.ifNo X10.here hx rfl (hb hby at_77) rfl ((if0 _ _).trans (teq (by decide)).2) ?_
      show Steps p.tables e below (T10.setTop (mkF m 80 #[.val (.int p0), .val (.long q1), .second, .val (.ref b1), .val (.int (0 : Int32)), .val (.int (1 : Int32)), .val (.long (0 : Int64)), .second, .val (.long (8192 : Int64)), .second, .val (.int (0 : Int32)), .unset, .unset, .unset] [])) _
      refine XS.iconst X10.here hx rfl (hb hby at_80) ?_
      show Steps p.tables e below (T10.setTop (mkF m 81 #[.val (.int p0), .val (.long q1), .second, .val (.ref b1), .val (.int (0 : Int32)), .val (.int (1 : Int32)), .val (.long (0 : Int64)), .second, .val (.long (8192 : Int64)), .second, .val (.int (0 : Int32)), .unset, .unset, .unset] [(.int (1 : Int32))])) _
      refine XS.goto X10.here hx rfl (pc0 := 81) (pc' := 85) rfl (hb hby at_81) (by decide) (by decide) ?_
      show Steps p.tables e below (T10.setTop (mkF m 85 #[.val (.int p0), .val (.long q1), .second, .val (.ref b1), .val (.int (0 : Int32)), .val (.int (1 : Int32)), .val (.long (0 : Int64)), .second, .val (.long (8192 : Int64)), .second, .val (.int (0 : Int32)), .unset, .unset, .unset] [(.int (1 : Int32))])) _
      refine XS.istore X10.here hx rfl (hb hby at_85) rfl (l' := #[.val (.int p0), .val (.long q1), .second, .val (.ref b1), .val (.int (0 : Int32)), .val (.int (1 : Int32)), .val (.long (0 : Int64)), .second, .val (.long (8192 : Int64)), .second, .val (.int (0 : Int32)), .val (.int (1 : Int32)), .unset, .unset]) rfl ?_
      show Steps p.tables e below (T10.setTop (mkF m 87 #[.val (.int p0), .val (.long q1), .second, .val (.ref b1), .val (.int (0 : Int32)), .val (.int (1 : Int32)), .val (.long (0 : Int64)), .second, .val (.long (8192 : Int64)), .second, .val (.int (0 : Int32)), .val (.int (1 : Int32)), .unset, .unset] [])) _
      refine XS.lload X10.here hx rfl (hb hby at_87) rfl ?_
      show Steps p.tables e below (T10.setTop (mkF m 89 #[.val (.int p0), .val (.long q1), .second, .val (.ref b1), .val (.int (0 : Int32)), .val (.int (1 : Int32)), .val (.long (0 : Int64)), .second, .val (.long (8192 : Int64)), .second, .val (.int (0 : Int32)), .val (.int (1 : Int32)), .unset, .unset] [(.long (8192 : Int64))])) _
      refine XS.lload X10.here hx rfl (hb hby at_89) rfl ?_
      show Steps p.tables e below (T10.setTop (mkF m 91 #[.val (.int p0), .val (.long q1), .second, .val (.ref b1), .val (.int (0 : Int32)), .val (.int (1 : Int32)), .val (.long (0 : Int64)), .second, .val (.long (8192 : Int64)), .second, .val (.int (0 : Int32)), .val (.int (1 : Int32)), .unset, .unset] [(.long (0 : Int64)), (.long (8192 : Int64))])) _
      refine X10.ldc2Long hx hown (mvT hZ (hw _ (List.mem_of_getElem? (i := 41) rfl))) (g := (mkF m 91 #[.val (.int p0), .val (.long q1), .second, .val (.ref b1), .val (.int (0 : Int32)), .val (.int (1 : Int32)), .val (.long (0 : Int64)), .second, .val (.long (8192 : Int64)), .second, .val (.int (0 : Int32)), .val (.int (1 : Int32)), .unset, .unset] [(.long (0 : Int64)), (.long (8192 : Int64))])) rfl (hb hby at_91) _ ?_
      show Steps p.tables e below (T10.setTop (mkF m 94 #[.val (.int p0), .val (.long q1), .second, .val (.ref b1), .val (.int (0 : Int32)), .val (.int (1 : Int32)), .val (.long (0 : Int64)), .second, .val (.long (8192 : Int64)), .second, .val (.int (0 : Int32)), .val (.int (1 : Int32)), .unset, .unset] [(.long (8192 : Int64)), (.long (0 : Int64)), (.long (8192 : Int64))])) _
      refine XS.ladd X10.here hx rfl (hb hby at_94) rfl ?_
      show Steps p.tables e below (T10.setTop (mkF m 95 #[.val (.int p0), .val (.long q1), .second, .val (.ref b1), .val (.int (0 : Int32)), .val (.int (1 : Int32)), .val (.long (0 : Int64)), .second, .val (.long (8192 : Int64)), .second, .val (.int (0 : Int32)), .val (.int (1 : Int32)), .unset, .unset] [(.long (8192 : Int64)), (.long (8192 : Int64))])) _
      refine XS.lcmp X10.here hx rfl (hb hby at_95) rfl ?_
      show Steps p.tables e below (T10.setTop (mkF m 96 #[.val (.int p0), .val (.long q1), .second, .val (.ref b1), .val (.int (0 : Int32)), .val (.int (1 : Int32)), .val (.long (0 : Int64)), .second, .val (.long (8192 : Int64)), .second, .val (.int (0 : Int32)), .val (.int (1 : Int32)), .unset, .unset] [(.int (lcmpW (8192 : Int64) (8192 : Int64)))])) _
      refine XS.ifNo X10.here hx rfl (hb hby at_96) rfl ((if0 _ _).trans (teq ((lw_eq _ _).mpr (by decide))).2) ?_
      show Steps p.tables e below (T10.setTop (mkF m 99 #[.val (.int p0), .val (.long q1), .second, .val (.ref b1), .val (.int (0 : Int32)), .val (.int (1 : Int32)), .val (.long (0 : Int64)), .second, .val (.long (8192 : Int64)), .second, .val (.int (0 : Int32)), .val (.int (1 : Int32)), .unset, .unset] [])) _
      refine XS.iconst X10.here hx rfl (hb hby at_99) ?_
      show Steps p.tables e below (T10.setTop (mkF m 100 #[.val (.int p0), .val (.long q1), .second, .val (.ref b1), .val (.int (0 : Int32)), .val (.int (1 : Int32)), .val (.long (0 : Int64)), .second, .val (.long (8192 : Int64)), .second, .val (.int (0 : Int32)), .val (.int (1 : Int32)), .unset, .unset] [(.int (1 : Int32))])) _
      refine XS.goto X10.here hx rfl (pc0 := 100) (pc' := 104) rfl (hb hby at_100) (by decide) (by decide) ?_
      show Steps p.tables e below (T10.setTop (mkF m 104 #[.val (.int p0), .val (.long q1), .second, .val (.ref b1), .val (.int (0 : Int32)), .val (.int (1 : Int32)), .val (.long (0 : Int64)), .second, .val (.long (8192 : Int64)), .second, .val (.int (0 : Int32)), .val (.int (1 : Int32)), .unset, .unset] [(.int (1 : Int32))])) _
      refine XS.istore X10.here hx rfl (hb hby at_104) rfl (l' := #[.val (.int p0), .val (.long q1), .second, .val (.ref b1), .val (.int (0 : Int32)), .val (.int (1 : Int32)), .val (.long (0 : Int64)), .second, .val (.long (8192 : Int64)), .second, .val (.int (0 : Int32)), .val (.int (1 : Int32)), .val (.int (1 : Int32)), .unset]) rfl ?_
      show Steps p.tables e below (T10.setTop (mkF m 106 #[.val (.int p0), .val (.long q1), .second, .val (.ref b1), .val (.int (0 : Int32)), .val (.int (1 : Int32)), .val (.long (0 : Int64)), .second, .val (.long (8192 : Int64)), .second, .val (.int (0 : Int32)), .val (.int (1 : Int32)), .val (.int (1 : Int32)), .unset] [])) _
      refine XS.lload X10.here hx rfl (hb hby at_106) rfl ?_
      show Steps p.tables e below (T10.setTop (mkF m 108 #[.val (.int p0), .val (.long q1), .second, .val (.ref b1), .val (.int (0 : Int32)), .val (.int (1 : Int32)), .val (.long (0 : Int64)), .second, .val (.long (8192 : Int64)), .second, .val (.int (0 : Int32)), .val (.int (1 : Int32)), .val (.int (1 : Int32)), .unset] [(.long (8192 : Int64))])) _
      refine XS.lload X10.here hx rfl (hb hby at_108) rfl ?_
      show Steps p.tables e below (T10.setTop (mkF m 110 #[.val (.int p0), .val (.long q1), .second, .val (.ref b1), .val (.int (0 : Int32)), .val (.int (1 : Int32)), .val (.long (0 : Int64)), .second, .val (.long (8192 : Int64)), .second, .val (.int (0 : Int32)), .val (.int (1 : Int32)), .val (.int (1 : Int32)), .unset] [(.long (0 : Int64)), (.long (8192 : Int64))])) _
      refine XS.lcmp X10.here hx rfl (hb hby at_110) rfl ?_
      show Steps p.tables e below (T10.setTop (mkF m 111 #[.val (.int p0), .val (.long q1), .second, .val (.ref b1), .val (.int (0 : Int32)), .val (.int (1 : Int32)), .val (.long (0 : Int64)), .second, .val (.long (8192 : Int64)), .second, .val (.int (0 : Int32)), .val (.int (1 : Int32)), .val (.int (1 : Int32)), .unset] [(.int (lcmpW (8192 : Int64) (0 : Int64)))])) _
      refine XS.ifYes X10.here hx rfl (pc0 := 111) (pc' := 118) rfl (hb hby at_111) rfl ((if0 _ _).trans (feq (fun q => absurd ((lw_eq _ _).mp q) (by decide))).2) (by decide) (by decide) ?_
      show Steps p.tables e below (T10.setTop (mkF m 118 #[.val (.int p0), .val (.long q1), .second, .val (.ref b1), .val (.int (0 : Int32)), .val (.int (1 : Int32)), .val (.long (0 : Int64)), .second, .val (.long (8192 : Int64)), .second, .val (.int (0 : Int32)), .val (.int (1 : Int32)), .val (.int (1 : Int32)), .unset] [])) _
      refine XS.iconst X10.here hx rfl (hb hby at_118) ?_
      show Steps p.tables e below (T10.setTop (mkF m 119 #[.val (.int p0), .val (.long q1), .second, .val (.ref b1), .val (.int (0 : Int32)), .val (.int (1 : Int32)), .val (.long (0 : Int64)), .second, .val (.long (8192 : Int64)), .second, .val (.int (0 : Int32)), .val (.int (1 : Int32)), .val (.int (1 : Int32)), .unset] [(.int (0 : Int32))])) _
      refine XS.istore X10.here hx rfl (hb hby at_119) rfl (l' := #[.val (.int p0), .val (.long q1), .second, .val (.ref b1), .val (.int (0 : Int32)), .val (.int (1 : Int32)), .val (.long (0 : Int64)), .second, .val (.long (8192 : Int64)), .second, .val (.int (0 : Int32)), .val (.int (1 : Int32)), .val (.int (1 : Int32)), .val (.int (0 : Int32))]) rfl ?_
      show Steps p.tables e below (T10.setTop (mkF m 121 #[.val (.int p0), .val (.long q1), .second, .val (.ref b1), .val (.int (0 : Int32)), .val (.int (1 : Int32)), .val (.long (0 : Int64)), .second, .val (.long (8192 : Int64)), .second, .val (.int (0 : Int32)), .val (.int (1 : Int32)), .val (.int (1 : Int32)), .val (.int (0 : Int32))] [])) _
      refine XS.iload X10.here hx rfl (hb hby at_121) rfl ?_
      show Steps p.tables e below (T10.setTop (mkF m 123 #[.val (.int p0), .val (.long q1), .second, .val (.ref b1), .val (.int (0 : Int32)), .val (.int (1 : Int32)), .val (.long (0 : Int64)), .second, .val (.long (8192 : Int64)), .second, .val (.int (0 : Int32)), .val (.int (1 : Int32)), .val (.int (1 : Int32)), .val (.int (0 : Int32))] [(.int (1 : Int32))])) _
      refine XS.iload X10.here hx rfl (hb hby at_123) rfl ?_
      show Steps p.tables e below (T10.setTop (mkF m 125 #[.val (.int p0), .val (.long q1), .second, .val (.ref b1), .val (.int (0 : Int32)), .val (.int (1 : Int32)), .val (.long (0 : Int64)), .second, .val (.long (8192 : Int64)), .second, .val (.int (0 : Int32)), .val (.int (1 : Int32)), .val (.int (1 : Int32)), .val (.int (0 : Int32))] [(.int (1 : Int32)), (.int (1 : Int32))])) _
      refine XS.icmpNo X10.here hx rfl (hb hby at_125) rfl (teq (by decide)).2 ?_
      show Steps p.tables e below (T10.setTop (mkF m 128 #[.val (.int p0), .val (.long q1), .second, .val (.ref b1), .val (.int (0 : Int32)), .val (.int (1 : Int32)), .val (.long (0 : Int64)), .second, .val (.long (8192 : Int64)), .second, .val (.int (0 : Int32)), .val (.int (1 : Int32)), .val (.int (1 : Int32)), .val (.int (0 : Int32))] [])) _
      refine XS.iload X10.here hx rfl (hb hby at_128) rfl ?_
      show Steps p.tables e below (T10.setTop (mkF m 130 #[.val (.int p0), .val (.long q1), .second, .val (.ref b1), .val (.int (0 : Int32)), .val (.int (1 : Int32)), .val (.long (0 : Int64)), .second, .val (.long (8192 : Int64)), .second, .val (.int (0 : Int32)), .val (.int (1 : Int32)), .val (.int (1 : Int32)), .val (.int (0 : Int32))] [(.int (1 : Int32))])) _
      refine XS.iload X10.here hx rfl (hb hby at_130) rfl ?_
      show Steps p.tables e below (T10.setTop (mkF m 132 #[.val (.int p0), .val (.long q1), .second, .val (.ref b1), .val (.int (0 : Int32)), .val (.int (1 : Int32)), .val (.long (0 : Int64)), .second, .val (.long (8192 : Int64)), .second, .val (.int (0 : Int32)), .val (.int (1 : Int32)), .val (.int (1 : Int32)), .val (.int (0 : Int32))] [(.int (1 : Int32)), (.int (1 : Int32))])) _
      refine XS.icmpNo X10.here hx rfl (hb hby at_132) rfl (teq (by decide)).2 ?_
      show Steps p.tables e below (T10.setTop (mkF m 135 #[.val (.int p0), .val (.long q1), .second, .val (.ref b1), .val (.int (0 : Int32)), .val (.int (1 : Int32)), .val (.long (0 : Int64)), .second, .val (.long (8192 : Int64)), .second, .val (.int (0 : Int32)), .val (.int (1 : Int32)), .val (.int (1 : Int32)), .val (.int (0 : Int32))] [])) _
      refine XS.iload X10.here hx rfl (hb hby at_135) rfl ?_
      show Steps p.tables e below (T10.setTop (mkF m 137 #[.val (.int p0), .val (.long q1), .second, .val (.ref b1), .val (.int (0 : Int32)), .val (.int (1 : Int32)), .val (.long (0 : Int64)), .second, .val (.long (8192 : Int64)), .second, .val (.int (0 : Int32)), .val (.int (1 : Int32)), .val (.int (1 : Int32)), .val (.int (0 : Int32))] [(.int (1 : Int32))])) _
      refine XS.ifYes X10.here hx rfl (pc0 := 137) (pc' := 145) rfl (hb hby at_137) rfl ((if0 _ _).trans (feq (by decide)).2) (by decide) (by decide) ?_
      show Steps p.tables e below (T10.setTop (mkF m 145 #[.val (.int p0), .val (.long q1), .second, .val (.ref b1), .val (.int (0 : Int32)), .val (.int (1 : Int32)), .val (.long (0 : Int64)), .second, .val (.long (8192 : Int64)), .second, .val (.int (0 : Int32)), .val (.int (1 : Int32)), .val (.int (1 : Int32)), .val (.int (0 : Int32))] [])) _
      refine XS.iload X10.here hx rfl (hb hby at_145) rfl ?_
      show Steps p.tables e below (T10.setTop (mkF m 147 #[.val (.int p0), .val (.long q1), .second, .val (.ref b1), .val (.int (0 : Int32)), .val (.int (1 : Int32)), .val (.long (0 : Int64)), .second, .val (.long (8192 : Int64)), .second, .val (.int (0 : Int32)), .val (.int (1 : Int32)), .val (.int (1 : Int32)), .val (.int (0 : Int32))] [(.int (0 : Int32))])) _
      refine XS.ifNo X10.here hx rfl (hb hby at_147) rfl ((if0 _ _).trans (teq (by decide)).2) ?_
      show Steps p.tables e below (T10.setTop (mkF m 150 #[.val (.int p0), .val (.long q1), .second, .val (.ref b1), .val (.int (0 : Int32)), .val (.int (1 : Int32)), .val (.long (0 : Int64)), .second, .val (.long (8192 : Int64)), .second, .val (.int (0 : Int32)), .val (.int (1 : Int32)), .val (.int (1 : Int32)), .val (.int (0 : Int32))] [])) _
      refine XS.iconst X10.here hx rfl (hb hby at_150) ?_
      show Steps p.tables e below (T10.setTop (mkF m 151 #[.val (.int p0), .val (.long q1), .second, .val (.ref b1), .val (.int (0 : Int32)), .val (.int (1 : Int32)), .val (.long (0 : Int64)), .second, .val (.long (8192 : Int64)), .second, .val (.int (0 : Int32)), .val (.int (1 : Int32)), .val (.int (1 : Int32)), .val (.int (0 : Int32))] [(.int (1 : Int32))])) _
      refine XS.goto X10.here hx rfl (pc0 := 151) (pc' := 155) rfl (hb hby at_151) (by decide) (by decide) ?_
      show Steps p.tables e below (T10.setTop (mkF m 155 #[.val (.int p0), .val (.long q1), .second, .val (.ref b1), .val (.int (0 : Int32)), .val (.int (1 : Int32)), .val (.long (0 : Int64)), .second, .val (.long (8192 : Int64)), .second, .val (.int (0 : Int32)), .val (.int (1 : Int32)), .val (.int (1 : Int32)), .val (.int (0 : Int32))] [(.int (1 : Int32))])) _
      exact kZ
    refine Go.retN X10 hx Bd.notSynchronized (t := .boolean) Bd.returns (by simp) (hb hby at_155) (by decide) (by decide) ?_
    exact ⟨rfl, N10⟩
  · rw [hi]
    show Go p e below _ (T3.setTop (mkF m 13 #[.val (.int p0), .val (.long q1), .second, .val (.ref b1), .val (.int (1 : Int32)), .unset, .unset, .unset, .unset, .unset, .unset, .unset, .unset, .unset] []))
    refine Go.via (T' := T3.setTop (mkF m 21 #[.val (.int p0), .val (.long q1), .second, .val (.ref b1), .val (.int (1 : Int32)), .unset, .unset, .unset, .unset, .unset, .unset, .unset, .unset, .unset] [(.long q1), (.ref b1)])) (fun tZ kZ => ?_) ?_
    · show Steps p.tables e below (T3.setTop (mkF m 13 #[.val (.int p0), .val (.long q1), .second, .val (.ref b1), .val (.int (1 : Int32)), .unset, .unset, .unset, .unset, .unset, .unset, .unset, .unset, .unset] [])) _
      refine XS.iload X3.here hx rfl (hb hby at_13) rfl ?_
      show Steps p.tables e below (T3.setTop (mkF m 15 #[.val (.int p0), .val (.long q1), .second, .val (.ref b1), .val (.int (1 : Int32)), .unset, .unset, .unset, .unset, .unset, .unset, .unset, .unset, .unset] [(.int (1 : Int32))])) _
      refine XS.iconst X3.here hx rfl (hb hby at_15) ?_
      show Steps p.tables e below (T3.setTop (mkF m 16 #[.val (.int p0), .val (.long q1), .second, .val (.ref b1), .val (.int (1 : Int32)), .unset, .unset, .unset, .unset, .unset, .unset, .unset, .unset, .unset] [(.int (1 : Int32)), (.int (1 : Int32))])) _
      refine XS.icmpNo X3.here hx rfl (hb hby at_16) rfl (flt (by decide)).1 ?_
      show Steps p.tables e below (T3.setTop (mkF m 19 #[.val (.int p0), .val (.long q1), .second, .val (.ref b1), .val (.int (1 : Int32)), .unset, .unset, .unset, .unset, .unset, .unset, .unset, .unset, .unset] [])) _
      refine XS.aloadN X3.here hx rfl (hb hby at_19) rfl rfl ?_
      show Steps p.tables e below (T3.setTop (mkF m 20 #[.val (.int p0), .val (.long q1), .second, .val (.ref b1), .val (.int (1 : Int32)), .unset, .unset, .unset, .unset, .unset, .unset, .unset, .unset, .unset] [(.ref b1)])) _
      refine XS.lloadN X3.here hx rfl (hb hby at_20) rfl ?_
      show Steps p.tables e below (T3.setTop (mkF m 21 #[.val (.int p0), .val (.long q1), .second, .val (.ref b1), .val (.int (1 : Int32)), .unset, .unset, .unset, .unset, .unset, .unset, .unset, .unset, .unset] [(.long q1), (.ref b1)])) _
      exact kZ
    obtain ⟨cq11, kq11, q11a, q11b, q11c⟩ := isOf hZ rfl f3_0
    obtain ⟨_, _, ⟨T11, L11, k11, n11⟩, -, X11, ⟨Lc11, hQ11, l11, y11, z11⟩, st11⟩ := X3.virtualBack hx (y := (⟨"com/example/idle_surfer/idlesurfer/LongChunks", "add", "(J)V"⟩ : MethodName)) (z := (⟨"com/example/idle_surfer/idlesurfer/LongChunks", "add", "(J)V"⟩ : MethodName)) hown (mvT hZ (hw _ (List.mem_of_getElem? (i := 28) rfl))) (mvT hZ (hw _ (List.mem_of_getElem? (i := 29) rfl))) (notFace_of_selects (args := #[]) (mvT hZ (hw _ (List.mem_of_getElem? (i := 31) rfl)))) (mvT hZ (hw _ (List.mem_of_getElem? (i := 31) rfl))) (mvT hZ (hw _ (List.mem_of_getElem? (i := 30) rfl))) (by decide) (backOf (W := 0) (rm5a l Z a0 hw [] b1 q1 b3_0 (fun _ => Value.null) T3.heap n0 Z3 f3_0 f3_1 f3_2 f3_3 f3_4 f3_6 g_b1 g_b3_0 ne_b1_b3_0) hZ (hw _ (List.mem_of_getElem? (i := 32) rfl)) (hw _ (List.mem_of_getElem? (i := 2) rfl)) (by decide) (by decide)) q11a q11c (g := (mkF m 21 #[.val (.int p0), .val (.long q1), .second, .val (.ref b1), .val (.int (1 : Int32)), .unset, .unset, .unset, .unset, .unset, .unset, .unset, .unset, .unset] [(.long q1), (.ref b1)])) rfl (by rw [hml]; rfl) (Steps.refl _) (argsL := [(.long q1)]) (rest := []) (lenOf pd_3 rfl) rfl (by show 2 * 0 + _ ≤ _; exact Nat.le_of_eq rfl) (hb hby at_21) (fun _ _ => ⟨rfl, rfl, (by decide : 0 + 1 + 1 + 1 ≤ _), (by decide : 0 + 3 + 16 + 1024 ≤ _)⟩)
    dsimp only [Pt.U, Pt.locs, Pt.cells, Pt.slots] at X11 l11 y11 z11 st11 hQ11
    subst l11 y11 z11
    obtain ⟨rfl, N11q, b11_0, hz_b11_0, Kq11, f11_0, f11_1, f11_2, f11_3, f11_4, f11_5, f11_6, f11_7⟩ := hQ11
    have g_b11_0 : n0 ≤ b11_0 := Nat.le_trans Z3 hz_b11_0
    have sz_b11_0 : h0.size ≤ b11_0 := Nat.le_trans (K3).1 hz_b11_0
    have ne_b1_b11_0 : b1 ≠ b11_0 := Nat.ne_of_lt (Nat.lt_of_lt_of_le f3_0.lt hz_b11_0)
    have ne_b3_0_b11_0 : b3_0 ≠ b11_0 := Nat.ne_of_lt (Nat.lt_of_lt_of_le f3_4.lt hz_b11_0)
    have c12_6 := f3_5.keep Kq11
    have K11 : Keep h0 T11.heap [] := K3.trans Kq11 (allS (Or.inr sz_b1) (allS (Or.inr sz_b3_0) all0))
    have Z11 : n0 ≤ T11.heap.size := Nat.le_trans Z3 Kq11.1
    have N11 := Fr.app N3 N11q
    refine Go.via (fun t k => st11.trans k) ?_
    show Go p e below _ (T11.setTop (mkF m 24 #[.val (.int p0), .val (.long q1), .second, .val (.ref b1), .val (.int (1 : Int32)), .unset, .unset, .unset, .unset, .unset, .unset, .unset, .unset, .unset] []))
    refine Go.via (T' := T11.setTop (mkF m 47 #[.val (.int p0), .val (.long q1), .second, .val (.ref b1), .val (.int (1 : Int32)), .unset, .unset, .unset, .unset, .unset, .unset, .unset, .unset, .unset] [(.ref b1)])) (fun tZ kZ => ?_) ?_
    · show Steps p.tables e below (T11.setTop (mkF m 24 #[.val (.int p0), .val (.long q1), .second, .val (.ref b1), .val (.int (1 : Int32)), .unset, .unset, .unset, .unset, .unset, .unset, .unset, .unset, .unset] [])) _
      refine XS.iload X11.here hx rfl (hb hby at_24) rfl ?_
      show Steps p.tables e below (T11.setTop (mkF m 26 #[.val (.int p0), .val (.long q1), .second, .val (.ref b1), .val (.int (1 : Int32)), .unset, .unset, .unset, .unset, .unset, .unset, .unset, .unset, .unset] [(.int (1 : Int32))])) _
      refine XS.iconst X11.here hx rfl (hb hby at_26) ?_
      show Steps p.tables e below (T11.setTop (mkF m 27 #[.val (.int p0), .val (.long q1), .second, .val (.ref b1), .val (.int (1 : Int32)), .unset, .unset, .unset, .unset, .unset, .unset, .unset, .unset, .unset] [(.int (2 : Int32)), (.int (1 : Int32))])) _
      refine XS.icmpYes X11.here hx rfl (pc0 := 27) (pc' := 35) rfl (hb hby at_27) rfl (tlt (by decide)).1 (by decide) (by decide) ?_
      show Steps p.tables e below (T11.setTop (mkF m 35 #[.val (.int p0), .val (.long q1), .second, .val (.ref b1), .val (.int (1 : Int32)), .unset, .unset, .unset, .unset, .unset, .unset, .unset, .unset, .unset] [])) _
      refine XS.iload X11.here hx rfl (hb hby at_35) rfl ?_
      show Steps p.tables e below (T11.setTop (mkF m 37 #[.val (.int p0), .val (.long q1), .second, .val (.ref b1), .val (.int (1 : Int32)), .unset, .unset, .unset, .unset, .unset, .unset, .unset, .unset, .unset] [(.int (1 : Int32))])) _
      refine XS.iconst X11.here hx rfl (hb hby at_37) ?_
      show Steps p.tables e below (T11.setTop (mkF m 38 #[.val (.int p0), .val (.long q1), .second, .val (.ref b1), .val (.int (1 : Int32)), .unset, .unset, .unset, .unset, .unset, .unset, .unset, .unset, .unset] [(.int (3 : Int32)), (.int (1 : Int32))])) _
      refine XS.icmpYes X11.here hx rfl (pc0 := 38) (pc' := 46) rfl (hb hby at_38) rfl (tlt (by decide)).1 (by decide) (by decide) ?_
      show Steps p.tables e below (T11.setTop (mkF m 46 #[.val (.int p0), .val (.long q1), .second, .val (.ref b1), .val (.int (1 : Int32)), .unset, .unset, .unset, .unset, .unset, .unset, .unset, .unset, .unset] [])) _
      refine XS.aloadN X11.here hx rfl (hb hby at_46) rfl rfl ?_
      show Steps p.tables e below (T11.setTop (mkF m 47 #[.val (.int p0), .val (.long q1), .second, .val (.ref b1), .val (.int (1 : Int32)), .unset, .unset, .unset, .unset, .unset, .unset, .unset, .unset, .unset] [(.ref b1)])) _
      exact kZ
    obtain ⟨cq13, kq13, q13a, q13b, q13c⟩ := isOf hZ rfl f11_0
    obtain ⟨_, _, ⟨T13, L13, k13, n13⟩, -, X13, ⟨Lc13, hQ13, l13, y13, z13⟩, st13⟩ := X11.virtualBack hx (y := (⟨"com/example/idle_surfer/idlesurfer/LongChunks", "full", "()Z"⟩ : MethodName)) (z := (⟨"com/example/idle_surfer/idlesurfer/LongChunks", "full", "()Z"⟩ : MethodName)) hown (mvT hZ (hw _ (List.mem_of_getElem? (i := 13) rfl))) (mvT hZ (hw _ (List.mem_of_getElem? (i := 14) rfl))) (notFace_of_selects (args := #[]) (mvT hZ (hw _ (List.mem_of_getElem? (i := 16) rfl)))) (mvT hZ (hw _ (List.mem_of_getElem? (i := 16) rfl))) (mvT hZ (hw _ (List.mem_of_getElem? (i := 15) rfl))) (by decide) (backOf (W := 0) (rm3 l Z a0 hw [] b1 (1 : Int32) (1 : Int32) T11.heap n0 Z11 f11_2 f11_3) hZ (hw _ (List.mem_of_getElem? (i := 17) rfl)) (hw _ (List.mem_of_getElem? (i := 2) rfl)) (by decide) (by decide)) q13a q13c (g := (mkF m 47 #[.val (.int p0), .val (.long q1), .second, .val (.ref b1), .val (.int (1 : Int32)), .unset, .unset, .unset, .unset, .unset, .unset, .unset, .unset, .unset] [(.ref b1)])) rfl (by rw [hml]; rfl) (Steps.refl _) (argsL := []) (rest := []) (lenOf pd_1 rfl) rfl (by show 2 * 0 + _ ≤ _; exact Nat.le_of_eq rfl) (hb hby at_47) (fun _ _ => ⟨rfl, rfl, (by decide : 0 + 1 + 1 + 1 + 0 ≤ _), (by decide : 0 + 3 + 16 + 1024 + 0 ≤ _)⟩)
    dsimp only [Pt.U, Pt.locs, Pt.cells, Pt.slots] at X13 l13 y13 z13 st13 hQ13
    subst l13 y13 z13
    obtain ⟨rfl, N13q, e13⟩ := hQ13
    have hv13 : (f3 b1 (1 : Int32) (1 : Int32)) = (0 : Int32) := by unfold f3; decide
    rw [hv13] at st13
    have N13 := Fr.app N11 N13q
    refine Go.via (fun t k => st13.trans k) ?_
    show Go p e below _ (T13.setTop (mkF m 50 #[.val (.int p0), .val (.long q1), .second, .val (.ref b1), .val (.int (1 : Int32)), .unset, .unset, .unset, .unset, .unset, .unset, .unset, .unset, .unset] [(.int (0 : Int32))]))
    refine Go.via (T' := T13.setTop (mkF m 53 #[.val (.int p0), .val (.long q1), .second, .val (.ref b1), .val (.int (1 : Int32)), .val (.int (0 : Int32)), .unset, .unset, .unset, .unset, .unset, .unset, .unset, .unset] [(.ref b1)])) (fun tZ kZ => ?_) ?_
    · show Steps p.tables e below (T13.setTop (mkF m 50 #[.val (.int p0), .val (.long q1), .second, .val (.ref b1), .val (.int (1 : Int32)), .unset, .unset, .unset, .unset, .unset, .unset, .unset, .unset, .unset] [(.int (0 : Int32))])) _
      refine XS.istore X13.here hx rfl (hb hby at_50) rfl (l' := #[.val (.int p0), .val (.long q1), .second, .val (.ref b1), .val (.int (1 : Int32)), .val (.int (0 : Int32)), .unset, .unset, .unset, .unset, .unset, .unset, .unset, .unset]) rfl ?_
      show Steps p.tables e below (T13.setTop (mkF m 52 #[.val (.int p0), .val (.long q1), .second, .val (.ref b1), .val (.int (1 : Int32)), .val (.int (0 : Int32)), .unset, .unset, .unset, .unset, .unset, .unset, .unset, .unset] [])) _
      refine XS.aloadN X13.here hx rfl (hb hby at_52) rfl rfl ?_
      show Steps p.tables e below (T13.setTop (mkF m 53 #[.val (.int p0), .val (.long q1), .second, .val (.ref b1), .val (.int (1 : Int32)), .val (.int (0 : Int32)), .unset, .unset, .unset, .unset, .unset, .unset, .unset, .unset] [(.ref b1)])) _
      exact kZ
    obtain ⟨cq14, kq14, q14a, q14b, q14c⟩ := isOf hZ e13 f11_0
    obtain ⟨_, _, ⟨T14, L14, k14, n14⟩, -, X14, ⟨Lc14, hQ14, l14, y14, z14⟩, st14⟩ := X13.virtualBack hx (y := (⟨"com/example/idle_surfer/idlesurfer/LongChunks", "bytes", "()J"⟩ : MethodName)) (z := (⟨"com/example/idle_surfer/idlesurfer/LongChunks", "bytes", "()J"⟩ : MethodName)) hown (mvT hZ (hw _ (List.mem_of_getElem? (i := 22) rfl))) (mvT hZ (hw _ (List.mem_of_getElem? (i := 23) rfl))) (notFace_of_selects (args := #[]) (mvT hZ (hw _ (List.mem_of_getElem? (i := 25) rfl)))) (mvT hZ (hw _ (List.mem_of_getElem? (i := 25) rfl))) (mvT hZ (hw _ (List.mem_of_getElem? (i := 24) rfl))) (by decide) (backOf (W := 0) (rm4 l Z a0 hw [] b1 (1 : Int32) T11.heap n0 Z11 f11_3) hZ (hw _ (List.mem_of_getElem? (i := 26) rfl)) (hw _ (List.mem_of_getElem? (i := 2) rfl)) (by decide) (by decide)) q14a q14c (g := (mkF m 53 #[.val (.int p0), .val (.long q1), .second, .val (.ref b1), .val (.int (1 : Int32)), .val (.int (0 : Int32)), .unset, .unset, .unset, .unset, .unset, .unset, .unset, .unset] [(.ref b1)])) rfl (by rw [hml]; rfl) (Steps.refl _) (argsL := []) (rest := []) (lenOf pd_2 rfl) rfl (by show 2 * 0 + _ ≤ _; exact Nat.le_of_eq rfl) (hb hby at_53) (fun _ _ => ⟨rfl, e13, (by decide : 0 + 1 + 1 + 1 + 0 + 0 ≤ _), (by decide : 0 + 3 + 16 + 1024 + 0 + 0 ≤ _)⟩)
    dsimp only [Pt.U, Pt.locs, Pt.cells, Pt.slots] at X14 l14 y14 z14 st14 hQ14
    subst l14 y14 z14
    obtain ⟨rfl, N14q, e14⟩ := hQ14
    have N14 := Fr.app N13 N14q
    refine Go.via (fun t k => st14.trans k) ?_
    show Go p e below _ (T14.setTop (mkF m 56 #[.val (.int p0), .val (.long q1), .second, .val (.ref b1), .val (.int (1 : Int32)), .val (.int (0 : Int32)), .unset, .unset, .unset, .unset, .unset, .unset, .unset, .unset] [(.long (8192 : Int64))]))
    refine Go.via (T' := T14.setTop (mkF m 60 #[.val (.int p0), .val (.long q1), .second, .val (.ref b1), .val (.int (1 : Int32)), .val (.int (0 : Int32)), .val (.long (8192 : Int64)), .second, .unset, .unset, .unset, .unset, .unset, .unset] [(.long q1), (.ref b1)])) (fun tZ kZ => ?_) ?_
    · show Steps p.tables e below (T14.setTop (mkF m 56 #[.val (.int p0), .val (.long q1), .second, .val (.ref b1), .val (.int (1 : Int32)), .val (.int (0 : Int32)), .unset, .unset, .unset, .unset, .unset, .unset, .unset, .unset] [(.long (8192 : Int64))])) _
      refine XS.lstore X14.here hx rfl (hb hby at_56) rfl (l' := #[.val (.int p0), .val (.long q1), .second, .val (.ref b1), .val (.int (1 : Int32)), .val (.int (0 : Int32)), .val (.long (8192 : Int64)), .second, .unset, .unset, .unset, .unset, .unset, .unset]) rfl ?_
      show Steps p.tables e below (T14.setTop (mkF m 58 #[.val (.int p0), .val (.long q1), .second, .val (.ref b1), .val (.int (1 : Int32)), .val (.int (0 : Int32)), .val (.long (8192 : Int64)), .second, .unset, .unset, .unset, .unset, .unset, .unset] [])) _
      refine XS.aloadN X14.here hx rfl (hb hby at_58) rfl rfl ?_
      show Steps p.tables e below (T14.setTop (mkF m 59 #[.val (.int p0), .val (.long q1), .second, .val (.ref b1), .val (.int (1 : Int32)), .val (.int (0 : Int32)), .val (.long (8192 : Int64)), .second, .unset, .unset, .unset, .unset, .unset, .unset] [(.ref b1)])) _
      refine XS.lloadN X14.here hx rfl (hb hby at_59) rfl ?_
      show Steps p.tables e below (T14.setTop (mkF m 60 #[.val (.int p0), .val (.long q1), .second, .val (.ref b1), .val (.int (1 : Int32)), .val (.int (0 : Int32)), .val (.long (8192 : Int64)), .second, .unset, .unset, .unset, .unset, .unset, .unset] [(.long q1), (.ref b1)])) _
      exact kZ
    obtain ⟨cq15, kq15, q15a, q15b, q15c⟩ := isOf hZ e14 f11_0
    obtain ⟨_, _, ⟨T15, L15, k15, n15⟩, -, X15, ⟨Lc15, hQ15, l15, y15, z15⟩, st15⟩ := X14.virtualBack hx (y := (⟨"com/example/idle_surfer/idlesurfer/LongChunks", "add", "(J)V"⟩ : MethodName)) (z := (⟨"com/example/idle_surfer/idlesurfer/LongChunks", "add", "(J)V"⟩ : MethodName)) hown (mvT hZ (hw _ (List.mem_of_getElem? (i := 28) rfl))) (mvT hZ (hw _ (List.mem_of_getElem? (i := 29) rfl))) (notFace_of_selects (args := #[]) (mvT hZ (hw _ (List.mem_of_getElem? (i := 31) rfl)))) (mvT hZ (hw _ (List.mem_of_getElem? (i := 31) rfl))) (mvT hZ (hw _ (List.mem_of_getElem? (i := 30) rfl))) (by decide) (backOf (W := 0) (rm5b l Z a0 hw [] b1 q1 b3_0 b11_0 (1 : Int32) (up (fun _ => Value.null) (0 : Int32).toNatClampNeg (.ref b11_0)) (up (fun _ => (0 : Int64)) (0 : Int32).toNatClampNeg q1) T11.heap n0 Z11 f11_0 f11_1 f11_2 f11_3 f11_4 f11_5 g_b1 g_b3_0 f11_7 g_b11_0 ne_b1_b3_0 ne_b1_b11_0 ne_b3_0_b11_0 (by unfold f3; decide) (by simp [up]) (by decide) (by decide)) hZ (hw _ (List.mem_of_getElem? (i := 32) rfl)) (hw _ (List.mem_of_getElem? (i := 2) rfl)) (by decide) (by decide)) q15a q15c (g := (mkF m 60 #[.val (.int p0), .val (.long q1), .second, .val (.ref b1), .val (.int (1 : Int32)), .val (.int (0 : Int32)), .val (.long (8192 : Int64)), .second, .unset, .unset, .unset, .unset, .unset, .unset] [(.long q1), (.ref b1)])) rfl (by rw [hml]; rfl) (Steps.refl _) (argsL := [(.long q1)]) (rest := []) (lenOf pd_3 rfl) rfl (by show 2 * 0 + _ ≤ _; exact Nat.le_of_eq rfl) (hb hby at_60) (fun _ _ => ⟨rfl, e14, (by decide : 0 + 1 + 1 + 1 + 0 + 0 + 0 ≤ _), (by decide : 0 + 3 + 16 + 1024 + 0 + 0 + 0 ≤ _)⟩)
    dsimp only [Pt.U, Pt.locs, Pt.cells, Pt.slots] at X15 l15 y15 z15 st15 hQ15
    subst l15 y15 z15
    obtain ⟨rfl, N15q, Kq15, f15_0, f15_1, f15_2, f15_3, f15_4, f15_5, f15_6⟩ := hQ15
    have c16_6 := c12_6.keep Kq15
    have c16_9 := f11_6.keep Kq15
    have K15 : Keep h0 T15.heap [] := K11.trans Kq15 (allS (Or.inr sz_b1) (allS (Or.inr sz_b11_0) all0))
    have Z15 : n0 ≤ T15.heap.size := Nat.le_trans Z11 Kq15.1
    have N15 := Fr.app N14 N15q
    refine Go.via (fun t k => st15.trans k) ?_
    show Go p e below _ (T15.setTop (mkF m 63 #[.val (.int p0), .val (.long q1), .second, .val (.ref b1), .val (.int (1 : Int32)), .val (.int (0 : Int32)), .val (.long (8192 : Int64)), .second, .unset, .unset, .unset, .unset, .unset, .unset] []))
    refine Go.via (T' := T15.setTop (mkF m 64 #[.val (.int p0), .val (.long q1), .second, .val (.ref b1), .val (.int (1 : Int32)), .val (.int (0 : Int32)), .val (.long (8192 : Int64)), .second, .unset, .unset, .unset, .unset, .unset, .unset] [(.ref b1)])) (fun tZ kZ => ?_) ?_
    · show Steps p.tables e below (T15.setTop (mkF m 63 #[.val (.int p0), .val (.long q1), .second, .val (.ref b1), .val (.int (1 : Int32)), .val (.int (0 : Int32)), .val (.long (8192 : Int64)), .second, .unset, .unset, .unset, .unset, .unset, .unset] [])) _
      refine XS.aloadN X15.here hx rfl (hb hby at_63) rfl rfl ?_
      show Steps p.tables e below (T15.setTop (mkF m 64 #[.val (.int p0), .val (.long q1), .second, .val (.ref b1), .val (.int (1 : Int32)), .val (.int (0 : Int32)), .val (.long (8192 : Int64)), .second, .unset, .unset, .unset, .unset, .unset, .unset] [(.ref b1)])) _
      exact kZ
    obtain ⟨cq17, kq17, q17a, q17b, q17c⟩ := isOf hZ rfl f15_0
    obtain ⟨_, _, ⟨T17, L17, k17, n17⟩, -, X17, ⟨Lc17, hQ17, l17, y17, z17⟩, st17⟩ := X15.virtualBack hx (y := (⟨"com/example/idle_surfer/idlesurfer/LongChunks", "bytes", "()J"⟩ : MethodName)) (z := (⟨"com/example/idle_surfer/idlesurfer/LongChunks", "bytes", "()J"⟩ : MethodName)) hown (mvT hZ (hw _ (List.mem_of_getElem? (i := 22) rfl))) (mvT hZ (hw _ (List.mem_of_getElem? (i := 23) rfl))) (notFace_of_selects (args := #[]) (mvT hZ (hw _ (List.mem_of_getElem? (i := 25) rfl)))) (mvT hZ (hw _ (List.mem_of_getElem? (i := 25) rfl))) (mvT hZ (hw _ (List.mem_of_getElem? (i := 24) rfl))) (by decide) (backOf (W := 0) (rm4 l Z a0 hw [] b1 (1 : Int32) T15.heap n0 Z15 f15_3) hZ (hw _ (List.mem_of_getElem? (i := 26) rfl)) (hw _ (List.mem_of_getElem? (i := 2) rfl)) (by decide) (by decide)) q17a q17c (g := (mkF m 64 #[.val (.int p0), .val (.long q1), .second, .val (.ref b1), .val (.int (1 : Int32)), .val (.int (0 : Int32)), .val (.long (8192 : Int64)), .second, .unset, .unset, .unset, .unset, .unset, .unset] [(.ref b1)])) rfl (by rw [hml]; rfl) (Steps.refl _) (argsL := []) (rest := []) (lenOf pd_2 rfl) rfl (by show 2 * 0 + _ ≤ _; exact Nat.le_of_eq rfl) (hb hby at_64) (fun _ _ => ⟨rfl, rfl, (by decide : 0 + 1 + 1 + 1 + 0 + 0 + 0 + 0 ≤ _), (by decide : 0 + 3 + 16 + 1024 + 0 + 0 + 0 + 0 ≤ _)⟩)
    dsimp only [Pt.U, Pt.locs, Pt.cells, Pt.slots] at X17 l17 y17 z17 st17 hQ17
    subst l17 y17 z17
    obtain ⟨rfl, N17q, e17⟩ := hQ17
    have N17 := Fr.app N15 N17q
    refine Go.via (fun t k => st17.trans k) ?_
    show Go p e below _ (T17.setTop (mkF m 67 #[.val (.int p0), .val (.long q1), .second, .val (.ref b1), .val (.int (1 : Int32)), .val (.int (0 : Int32)), .val (.long (8192 : Int64)), .second, .unset, .unset, .unset, .unset, .unset, .unset] [(.long (8192 : Int64))]))
    refine Go.via (T' := T17.setTop (mkF m 70 #[.val (.int p0), .val (.long q1), .second, .val (.ref b1), .val (.int (1 : Int32)), .val (.int (0 : Int32)), .val (.long (8192 : Int64)), .second, .val (.long (8192 : Int64)), .second, .unset, .unset, .unset, .unset] [(.ref b1)])) (fun tZ kZ => ?_) ?_
    · show Steps p.tables e below (T17.setTop (mkF m 67 #[.val (.int p0), .val (.long q1), .second, .val (.ref b1), .val (.int (1 : Int32)), .val (.int (0 : Int32)), .val (.long (8192 : Int64)), .second, .unset, .unset, .unset, .unset, .unset, .unset] [(.long (8192 : Int64))])) _
      refine XS.lstore X17.here hx rfl (hb hby at_67) rfl (l' := #[.val (.int p0), .val (.long q1), .second, .val (.ref b1), .val (.int (1 : Int32)), .val (.int (0 : Int32)), .val (.long (8192 : Int64)), .second, .val (.long (8192 : Int64)), .second, .unset, .unset, .unset, .unset]) rfl ?_
      show Steps p.tables e below (T17.setTop (mkF m 69 #[.val (.int p0), .val (.long q1), .second, .val (.ref b1), .val (.int (1 : Int32)), .val (.int (0 : Int32)), .val (.long (8192 : Int64)), .second, .val (.long (8192 : Int64)), .second, .unset, .unset, .unset, .unset] [])) _
      refine XS.aloadN X17.here hx rfl (hb hby at_69) rfl rfl ?_
      show Steps p.tables e below (T17.setTop (mkF m 70 #[.val (.int p0), .val (.long q1), .second, .val (.ref b1), .val (.int (1 : Int32)), .val (.int (0 : Int32)), .val (.long (8192 : Int64)), .second, .val (.long (8192 : Int64)), .second, .unset, .unset, .unset, .unset] [(.ref b1)])) _
      exact kZ
    obtain ⟨cq18, kq18, q18a, q18b, q18c⟩ := isOf hZ e17 f15_0
    obtain ⟨_, _, ⟨T18, L18, k18, n18⟩, -, X18, ⟨Lc18, hQ18, l18, y18, z18⟩, st18⟩ := X17.virtualBack hx (y := (⟨"com/example/idle_surfer/idlesurfer/LongChunks", "full", "()Z"⟩ : MethodName)) (z := (⟨"com/example/idle_surfer/idlesurfer/LongChunks", "full", "()Z"⟩ : MethodName)) hown (mvT hZ (hw _ (List.mem_of_getElem? (i := 13) rfl))) (mvT hZ (hw _ (List.mem_of_getElem? (i := 14) rfl))) (notFace_of_selects (args := #[]) (mvT hZ (hw _ (List.mem_of_getElem? (i := 16) rfl)))) (mvT hZ (hw _ (List.mem_of_getElem? (i := 16) rfl))) (mvT hZ (hw _ (List.mem_of_getElem? (i := 15) rfl))) (by decide) (backOf (W := 0) (rm3 l Z a0 hw [] b1 (2 : Int32) (1 : Int32) T15.heap n0 Z15 f15_2 f15_3) hZ (hw _ (List.mem_of_getElem? (i := 17) rfl)) (hw _ (List.mem_of_getElem? (i := 2) rfl)) (by decide) (by decide)) q18a q18c (g := (mkF m 70 #[.val (.int p0), .val (.long q1), .second, .val (.ref b1), .val (.int (1 : Int32)), .val (.int (0 : Int32)), .val (.long (8192 : Int64)), .second, .val (.long (8192 : Int64)), .second, .unset, .unset, .unset, .unset] [(.ref b1)])) rfl (by rw [hml]; rfl) (Steps.refl _) (argsL := []) (rest := []) (lenOf pd_1 rfl) rfl (by show 2 * 0 + _ ≤ _; exact Nat.le_of_eq rfl) (hb hby at_70) (fun _ _ => ⟨rfl, e17, (by decide : 0 + 1 + 1 + 1 + 0 + 0 + 0 + 0 + 0 ≤ _), (by decide : 0 + 3 + 16 + 1024 + 0 + 0 + 0 + 0 + 0 ≤ _)⟩)
    dsimp only [Pt.U, Pt.locs, Pt.cells, Pt.slots] at X18 l18 y18 z18 st18 hQ18
    subst l18 y18 z18
    obtain ⟨rfl, N18q, e18⟩ := hQ18
    have hv18 : (f3 b1 (2 : Int32) (1 : Int32)) = (0 : Int32) := by unfold f3; decide
    rw [hv18] at st18
    have N18 := Fr.app N17 N18q
    refine Go.via (fun t k => st18.trans k) ?_
    show Go p e below _ (T18.setTop (mkF m 73 #[.val (.int p0), .val (.long q1), .second, .val (.ref b1), .val (.int (1 : Int32)), .val (.int (0 : Int32)), .val (.long (8192 : Int64)), .second, .val (.long (8192 : Int64)), .second, .unset, .unset, .unset, .unset] [(.int (0 : Int32))]))
    refine Go.via (T' := T18.setTop (mkF m 155 #[.val (.int p0), .val (.long q1), .second, .val (.ref b1), .val (.int (1 : Int32)), .val (.int (0 : Int32)), .val (.long (8192 : Int64)), .second, .val (.long (8192 : Int64)), .second, .val (.int (0 : Int32)), .val (.int (0 : Int32)), .val (.int (0 : Int32)), .val (.int (1 : Int32))] [(.int (1 : Int32))])) (fun tZ kZ => ?_) ?_
    · show Steps p.tables e below (T18.setTop (mkF m 73 #[.val (.int p0), .val (.long q1), .second, .val (.ref b1), .val (.int (1 : Int32)), .val (.int (0 : Int32)), .val (.long (8192 : Int64)), .second, .val (.long (8192 : Int64)), .second, .unset, .unset, .unset, .unset] [(.int (0 : Int32))])) _
      refine XS.istore X18.here hx rfl (hb hby at_73) rfl (l' := #[.val (.int p0), .val (.long q1), .second, .val (.ref b1), .val (.int (1 : Int32)), .val (.int (0 : Int32)), .val (.long (8192 : Int64)), .second, .val (.long (8192 : Int64)), .second, .val (.int (0 : Int32)), .unset, .unset, .unset]) rfl ?_
      show Steps p.tables e below (T18.setTop (mkF m 75 #[.val (.int p0), .val (.long q1), .second, .val (.ref b1), .val (.int (1 : Int32)), .val (.int (0 : Int32)), .val (.long (8192 : Int64)), .second, .val (.long (8192 : Int64)), .second, .val (.int (0 : Int32)), .unset, .unset, .unset] [])) _
      refine XS.iload X18.here hx rfl (hb hby at_75) rfl ?_
      show Steps p.tables e below (T18.setTop (mkF m 77 #[.val (.int p0), .val (.long q1), .second, .val (.ref b1), .val (.int (1 : Int32)), .val (.int (0 : Int32)), .val (.long (8192 : Int64)), .second, .val (.long (8192 : Int64)), .second, .val (.int (0 : Int32)), .unset, .unset, .unset] [(.int (1 : Int32))])) _
      refine XS.ifYes X18.here hx rfl (pc0 := 77) (pc' := 84) rfl (hb hby at_77) rfl ((if0 _ _).trans (feq (by decide)).2) (by decide) (by decide) ?_
      show Steps p.tables e below (T18.setTop (mkF m 84 #[.val (.int p0), .val (.long q1), .second, .val (.ref b1), .val (.int (1 : Int32)), .val (.int (0 : Int32)), .val (.long (8192 : Int64)), .second, .val (.long (8192 : Int64)), .second, .val (.int (0 : Int32)), .unset, .unset, .unset] [])) _
      refine XS.iconst X18.here hx rfl (hb hby at_84) ?_
      show Steps p.tables e below (T18.setTop (mkF m 85 #[.val (.int p0), .val (.long q1), .second, .val (.ref b1), .val (.int (1 : Int32)), .val (.int (0 : Int32)), .val (.long (8192 : Int64)), .second, .val (.long (8192 : Int64)), .second, .val (.int (0 : Int32)), .unset, .unset, .unset] [(.int (0 : Int32))])) _
      refine XS.istore X18.here hx rfl (hb hby at_85) rfl (l' := #[.val (.int p0), .val (.long q1), .second, .val (.ref b1), .val (.int (1 : Int32)), .val (.int (0 : Int32)), .val (.long (8192 : Int64)), .second, .val (.long (8192 : Int64)), .second, .val (.int (0 : Int32)), .val (.int (0 : Int32)), .unset, .unset]) rfl ?_
      show Steps p.tables e below (T18.setTop (mkF m 87 #[.val (.int p0), .val (.long q1), .second, .val (.ref b1), .val (.int (1 : Int32)), .val (.int (0 : Int32)), .val (.long (8192 : Int64)), .second, .val (.long (8192 : Int64)), .second, .val (.int (0 : Int32)), .val (.int (0 : Int32)), .unset, .unset] [])) _
      refine XS.lload X18.here hx rfl (hb hby at_87) rfl ?_
      show Steps p.tables e below (T18.setTop (mkF m 89 #[.val (.int p0), .val (.long q1), .second, .val (.ref b1), .val (.int (1 : Int32)), .val (.int (0 : Int32)), .val (.long (8192 : Int64)), .second, .val (.long (8192 : Int64)), .second, .val (.int (0 : Int32)), .val (.int (0 : Int32)), .unset, .unset] [(.long (8192 : Int64))])) _
      refine XS.lload X18.here hx rfl (hb hby at_89) rfl ?_
      show Steps p.tables e below (T18.setTop (mkF m 91 #[.val (.int p0), .val (.long q1), .second, .val (.ref b1), .val (.int (1 : Int32)), .val (.int (0 : Int32)), .val (.long (8192 : Int64)), .second, .val (.long (8192 : Int64)), .second, .val (.int (0 : Int32)), .val (.int (0 : Int32)), .unset, .unset] [(.long (8192 : Int64)), (.long (8192 : Int64))])) _
      refine X18.ldc2Long hx hown (mvT hZ (hw _ (List.mem_of_getElem? (i := 41) rfl))) (g := (mkF m 91 #[.val (.int p0), .val (.long q1), .second, .val (.ref b1), .val (.int (1 : Int32)), .val (.int (0 : Int32)), .val (.long (8192 : Int64)), .second, .val (.long (8192 : Int64)), .second, .val (.int (0 : Int32)), .val (.int (0 : Int32)), .unset, .unset] [(.long (8192 : Int64)), (.long (8192 : Int64))])) rfl (hb hby at_91) _ ?_
      show Steps p.tables e below (T18.setTop (mkF m 94 #[.val (.int p0), .val (.long q1), .second, .val (.ref b1), .val (.int (1 : Int32)), .val (.int (0 : Int32)), .val (.long (8192 : Int64)), .second, .val (.long (8192 : Int64)), .second, .val (.int (0 : Int32)), .val (.int (0 : Int32)), .unset, .unset] [(.long (8192 : Int64)), (.long (8192 : Int64)), (.long (8192 : Int64))])) _
      refine XS.ladd X18.here hx rfl (hb hby at_94) rfl ?_
      show Steps p.tables e below (T18.setTop (mkF m 95 #[.val (.int p0), .val (.long q1), .second, .val (.ref b1), .val (.int (1 : Int32)), .val (.int (0 : Int32)), .val (.long (8192 : Int64)), .second, .val (.long (8192 : Int64)), .second, .val (.int (0 : Int32)), .val (.int (0 : Int32)), .unset, .unset] [(.long (16384 : Int64)), (.long (8192 : Int64))])) _
      refine XS.lcmp X18.here hx rfl (hb hby at_95) rfl ?_
      show Steps p.tables e below (T18.setTop (mkF m 96 #[.val (.int p0), .val (.long q1), .second, .val (.ref b1), .val (.int (1 : Int32)), .val (.int (0 : Int32)), .val (.long (8192 : Int64)), .second, .val (.long (8192 : Int64)), .second, .val (.int (0 : Int32)), .val (.int (0 : Int32)), .unset, .unset] [(.int (lcmpW (8192 : Int64) (16384 : Int64)))])) _
      refine XS.ifYes X18.here hx rfl (pc0 := 96) (pc' := 103) rfl (hb hby at_96) rfl ((if0 _ _).trans (feq (fun q => absurd ((lw_eq _ _).mp q) (by decide))).2) (by decide) (by decide) ?_
      show Steps p.tables e below (T18.setTop (mkF m 103 #[.val (.int p0), .val (.long q1), .second, .val (.ref b1), .val (.int (1 : Int32)), .val (.int (0 : Int32)), .val (.long (8192 : Int64)), .second, .val (.long (8192 : Int64)), .second, .val (.int (0 : Int32)), .val (.int (0 : Int32)), .unset, .unset] [])) _
      refine XS.iconst X18.here hx rfl (hb hby at_103) ?_
      show Steps p.tables e below (T18.setTop (mkF m 104 #[.val (.int p0), .val (.long q1), .second, .val (.ref b1), .val (.int (1 : Int32)), .val (.int (0 : Int32)), .val (.long (8192 : Int64)), .second, .val (.long (8192 : Int64)), .second, .val (.int (0 : Int32)), .val (.int (0 : Int32)), .unset, .unset] [(.int (0 : Int32))])) _
      refine XS.istore X18.here hx rfl (hb hby at_104) rfl (l' := #[.val (.int p0), .val (.long q1), .second, .val (.ref b1), .val (.int (1 : Int32)), .val (.int (0 : Int32)), .val (.long (8192 : Int64)), .second, .val (.long (8192 : Int64)), .second, .val (.int (0 : Int32)), .val (.int (0 : Int32)), .val (.int (0 : Int32)), .unset]) rfl ?_
      show Steps p.tables e below (T18.setTop (mkF m 106 #[.val (.int p0), .val (.long q1), .second, .val (.ref b1), .val (.int (1 : Int32)), .val (.int (0 : Int32)), .val (.long (8192 : Int64)), .second, .val (.long (8192 : Int64)), .second, .val (.int (0 : Int32)), .val (.int (0 : Int32)), .val (.int (0 : Int32)), .unset] [])) _
      refine XS.lload X18.here hx rfl (hb hby at_106) rfl ?_
      show Steps p.tables e below (T18.setTop (mkF m 108 #[.val (.int p0), .val (.long q1), .second, .val (.ref b1), .val (.int (1 : Int32)), .val (.int (0 : Int32)), .val (.long (8192 : Int64)), .second, .val (.long (8192 : Int64)), .second, .val (.int (0 : Int32)), .val (.int (0 : Int32)), .val (.int (0 : Int32)), .unset] [(.long (8192 : Int64))])) _
      refine XS.lload X18.here hx rfl (hb hby at_108) rfl ?_
      show Steps p.tables e below (T18.setTop (mkF m 110 #[.val (.int p0), .val (.long q1), .second, .val (.ref b1), .val (.int (1 : Int32)), .val (.int (0 : Int32)), .val (.long (8192 : Int64)), .second, .val (.long (8192 : Int64)), .second, .val (.int (0 : Int32)), .val (.int (0 : Int32)), .val (.int (0 : Int32)), .unset] [(.long (8192 : Int64)), (.long (8192 : Int64))])) _
      refine XS.lcmp X18.here hx rfl (hb hby at_110) rfl ?_
      show Steps p.tables e below (T18.setTop (mkF m 111 #[.val (.int p0), .val (.long q1), .second, .val (.ref b1), .val (.int (1 : Int32)), .val (.int (0 : Int32)), .val (.long (8192 : Int64)), .second, .val (.long (8192 : Int64)), .second, .val (.int (0 : Int32)), .val (.int (0 : Int32)), .val (.int (0 : Int32)), .unset] [(.int (lcmpW (8192 : Int64) (8192 : Int64)))])) _
      refine XS.ifNo X18.here hx rfl (hb hby at_111) rfl ((if0 _ _).trans (teq ((lw_eq _ _).mpr (by decide))).2) ?_
      show Steps p.tables e below (T18.setTop (mkF m 114 #[.val (.int p0), .val (.long q1), .second, .val (.ref b1), .val (.int (1 : Int32)), .val (.int (0 : Int32)), .val (.long (8192 : Int64)), .second, .val (.long (8192 : Int64)), .second, .val (.int (0 : Int32)), .val (.int (0 : Int32)), .val (.int (0 : Int32)), .unset] [])) _
      refine XS.iconst X18.here hx rfl (hb hby at_114) ?_
      show Steps p.tables e below (T18.setTop (mkF m 115 #[.val (.int p0), .val (.long q1), .second, .val (.ref b1), .val (.int (1 : Int32)), .val (.int (0 : Int32)), .val (.long (8192 : Int64)), .second, .val (.long (8192 : Int64)), .second, .val (.int (0 : Int32)), .val (.int (0 : Int32)), .val (.int (0 : Int32)), .unset] [(.int (1 : Int32))])) _
      refine XS.goto X18.here hx rfl (pc0 := 115) (pc' := 119) rfl (hb hby at_115) (by decide) (by decide) ?_
      show Steps p.tables e below (T18.setTop (mkF m 119 #[.val (.int p0), .val (.long q1), .second, .val (.ref b1), .val (.int (1 : Int32)), .val (.int (0 : Int32)), .val (.long (8192 : Int64)), .second, .val (.long (8192 : Int64)), .second, .val (.int (0 : Int32)), .val (.int (0 : Int32)), .val (.int (0 : Int32)), .unset] [(.int (1 : Int32))])) _
      refine XS.istore X18.here hx rfl (hb hby at_119) rfl (l' := #[.val (.int p0), .val (.long q1), .second, .val (.ref b1), .val (.int (1 : Int32)), .val (.int (0 : Int32)), .val (.long (8192 : Int64)), .second, .val (.long (8192 : Int64)), .second, .val (.int (0 : Int32)), .val (.int (0 : Int32)), .val (.int (0 : Int32)), .val (.int (1 : Int32))]) rfl ?_
      show Steps p.tables e below (T18.setTop (mkF m 121 #[.val (.int p0), .val (.long q1), .second, .val (.ref b1), .val (.int (1 : Int32)), .val (.int (0 : Int32)), .val (.long (8192 : Int64)), .second, .val (.long (8192 : Int64)), .second, .val (.int (0 : Int32)), .val (.int (0 : Int32)), .val (.int (0 : Int32)), .val (.int (1 : Int32))] [])) _
      refine XS.iload X18.here hx rfl (hb hby at_121) rfl ?_
      show Steps p.tables e below (T18.setTop (mkF m 123 #[.val (.int p0), .val (.long q1), .second, .val (.ref b1), .val (.int (1 : Int32)), .val (.int (0 : Int32)), .val (.long (8192 : Int64)), .second, .val (.long (8192 : Int64)), .second, .val (.int (0 : Int32)), .val (.int (0 : Int32)), .val (.int (0 : Int32)), .val (.int (1 : Int32))] [(.int (0 : Int32))])) _
      refine XS.iload X18.here hx rfl (hb hby at_123) rfl ?_
      show Steps p.tables e below (T18.setTop (mkF m 125 #[.val (.int p0), .val (.long q1), .second, .val (.ref b1), .val (.int (1 : Int32)), .val (.int (0 : Int32)), .val (.long (8192 : Int64)), .second, .val (.long (8192 : Int64)), .second, .val (.int (0 : Int32)), .val (.int (0 : Int32)), .val (.int (0 : Int32)), .val (.int (1 : Int32))] [(.int (0 : Int32)), (.int (0 : Int32))])) _
      refine XS.icmpNo X18.here hx rfl (hb hby at_125) rfl (teq (by decide)).2 ?_
      show Steps p.tables e below (T18.setTop (mkF m 128 #[.val (.int p0), .val (.long q1), .second, .val (.ref b1), .val (.int (1 : Int32)), .val (.int (0 : Int32)), .val (.long (8192 : Int64)), .second, .val (.long (8192 : Int64)), .second, .val (.int (0 : Int32)), .val (.int (0 : Int32)), .val (.int (0 : Int32)), .val (.int (1 : Int32))] [])) _
      refine XS.iload X18.here hx rfl (hb hby at_128) rfl ?_
      show Steps p.tables e below (T18.setTop (mkF m 130 #[.val (.int p0), .val (.long q1), .second, .val (.ref b1), .val (.int (1 : Int32)), .val (.int (0 : Int32)), .val (.long (8192 : Int64)), .second, .val (.long (8192 : Int64)), .second, .val (.int (0 : Int32)), .val (.int (0 : Int32)), .val (.int (0 : Int32)), .val (.int (1 : Int32))] [(.int (0 : Int32))])) _
      refine XS.iload X18.here hx rfl (hb hby at_130) rfl ?_
      show Steps p.tables e below (T18.setTop (mkF m 132 #[.val (.int p0), .val (.long q1), .second, .val (.ref b1), .val (.int (1 : Int32)), .val (.int (0 : Int32)), .val (.long (8192 : Int64)), .second, .val (.long (8192 : Int64)), .second, .val (.int (0 : Int32)), .val (.int (0 : Int32)), .val (.int (0 : Int32)), .val (.int (1 : Int32))] [(.int (0 : Int32)), (.int (0 : Int32))])) _
      refine XS.icmpNo X18.here hx rfl (hb hby at_132) rfl (teq (by decide)).2 ?_
      show Steps p.tables e below (T18.setTop (mkF m 135 #[.val (.int p0), .val (.long q1), .second, .val (.ref b1), .val (.int (1 : Int32)), .val (.int (0 : Int32)), .val (.long (8192 : Int64)), .second, .val (.long (8192 : Int64)), .second, .val (.int (0 : Int32)), .val (.int (0 : Int32)), .val (.int (0 : Int32)), .val (.int (1 : Int32))] [])) _
      refine XS.iload X18.here hx rfl (hb hby at_135) rfl ?_
      show Steps p.tables e below (T18.setTop (mkF m 137 #[.val (.int p0), .val (.long q1), .second, .val (.ref b1), .val (.int (1 : Int32)), .val (.int (0 : Int32)), .val (.long (8192 : Int64)), .second, .val (.long (8192 : Int64)), .second, .val (.int (0 : Int32)), .val (.int (0 : Int32)), .val (.int (0 : Int32)), .val (.int (1 : Int32))] [(.int (0 : Int32))])) _
      refine XS.ifNo X18.here hx rfl (hb hby at_137) rfl ((if0 _ _).trans (teq (by decide)).2) ?_
      show Steps p.tables e below (T18.setTop (mkF m 140 #[.val (.int p0), .val (.long q1), .second, .val (.ref b1), .val (.int (1 : Int32)), .val (.int (0 : Int32)), .val (.long (8192 : Int64)), .second, .val (.long (8192 : Int64)), .second, .val (.int (0 : Int32)), .val (.int (0 : Int32)), .val (.int (0 : Int32)), .val (.int (1 : Int32))] [])) _
      refine XS.iload X18.here hx rfl (hb hby at_140) rfl ?_
      show Steps p.tables e below (T18.setTop (mkF m 142 #[.val (.int p0), .val (.long q1), .second, .val (.ref b1), .val (.int (1 : Int32)), .val (.int (0 : Int32)), .val (.long (8192 : Int64)), .second, .val (.long (8192 : Int64)), .second, .val (.int (0 : Int32)), .val (.int (0 : Int32)), .val (.int (0 : Int32)), .val (.int (1 : Int32))] [(.int (1 : Int32))])) _
      refine XS.ifNo X18.here hx rfl (hb hby at_142) rfl ((if0 _ _).trans (feq (by decide)).1) ?_
      show Steps p.tables e below (T18.setTop (mkF m 145 #[.val (.int p0), .val (.long q1), .second, .val (.ref b1), .val (.int (1 : Int32)), .val (.int (0 : Int32)), .val (.long (8192 : Int64)), .second, .val (.long (8192 : Int64)), .second, .val (.int (0 : Int32)), .val (.int (0 : Int32)), .val (.int (0 : Int32)), .val (.int (1 : Int32))] [])) _
      refine XS.iload X18.here hx rfl (hb hby at_145) rfl ?_
      show Steps p.tables e below (T18.setTop (mkF m 147 #[.val (.int p0), .val (.long q1), .second, .val (.ref b1), .val (.int (1 : Int32)), .val (.int (0 : Int32)), .val (.long (8192 : Int64)), .second, .val (.long (8192 : Int64)), .second, .val (.int (0 : Int32)), .val (.int (0 : Int32)), .val (.int (0 : Int32)), .val (.int (1 : Int32))] [(.int (0 : Int32))])) _
      refine XS.ifNo X18.here hx rfl (hb hby at_147) rfl ((if0 _ _).trans (teq (by decide)).2) ?_
      show Steps p.tables e below (T18.setTop (mkF m 150 #[.val (.int p0), .val (.long q1), .second, .val (.ref b1), .val (.int (1 : Int32)), .val (.int (0 : Int32)), .val (.long (8192 : Int64)), .second, .val (.long (8192 : Int64)), .second, .val (.int (0 : Int32)), .val (.int (0 : Int32)), .val (.int (0 : Int32)), .val (.int (1 : Int32))] [])) _
      refine XS.iconst X18.here hx rfl (hb hby at_150) ?_
      show Steps p.tables e below (T18.setTop (mkF m 151 #[.val (.int p0), .val (.long q1), .second, .val (.ref b1), .val (.int (1 : Int32)), .val (.int (0 : Int32)), .val (.long (8192 : Int64)), .second, .val (.long (8192 : Int64)), .second, .val (.int (0 : Int32)), .val (.int (0 : Int32)), .val (.int (0 : Int32)), .val (.int (1 : Int32))] [(.int (1 : Int32))])) _
      refine XS.goto X18.here hx rfl (pc0 := 151) (pc' := 155) rfl (hb hby at_151) (by decide) (by decide) ?_
      show Steps p.tables e below (T18.setTop (mkF m 155 #[.val (.int p0), .val (.long q1), .second, .val (.ref b1), .val (.int (1 : Int32)), .val (.int (0 : Int32)), .val (.long (8192 : Int64)), .second, .val (.long (8192 : Int64)), .second, .val (.int (0 : Int32)), .val (.int (0 : Int32)), .val (.int (0 : Int32)), .val (.int (1 : Int32))] [(.int (1 : Int32))])) _
      exact kZ
    refine Go.retN X18 hx Bd.notSynchronized (t := .boolean) Bd.returns (by simp) (hb hby at_155) (by decide) (by decide) ?_
    exact ⟨rfl, N18⟩
  · rw [hi]
    show Go p e below _ (T3.setTop (mkF m 13 #[.val (.int p0), .val (.long q1), .second, .val (.ref b1), .val (.int (2 : Int32)), .unset, .unset, .unset, .unset, .unset, .unset, .unset, .unset, .unset] []))
    refine Go.via (T' := T3.setTop (mkF m 21 #[.val (.int p0), .val (.long q1), .second, .val (.ref b1), .val (.int (2 : Int32)), .unset, .unset, .unset, .unset, .unset, .unset, .unset, .unset, .unset] [(.long q1), (.ref b1)])) (fun tZ kZ => ?_) ?_
    · show Steps p.tables e below (T3.setTop (mkF m 13 #[.val (.int p0), .val (.long q1), .second, .val (.ref b1), .val (.int (2 : Int32)), .unset, .unset, .unset, .unset, .unset, .unset, .unset, .unset, .unset] [])) _
      refine XS.iload X3.here hx rfl (hb hby at_13) rfl ?_
      show Steps p.tables e below (T3.setTop (mkF m 15 #[.val (.int p0), .val (.long q1), .second, .val (.ref b1), .val (.int (2 : Int32)), .unset, .unset, .unset, .unset, .unset, .unset, .unset, .unset, .unset] [(.int (2 : Int32))])) _
      refine XS.iconst X3.here hx rfl (hb hby at_15) ?_
      show Steps p.tables e below (T3.setTop (mkF m 16 #[.val (.int p0), .val (.long q1), .second, .val (.ref b1), .val (.int (2 : Int32)), .unset, .unset, .unset, .unset, .unset, .unset, .unset, .unset, .unset] [(.int (1 : Int32)), (.int (2 : Int32))])) _
      refine XS.icmpNo X3.here hx rfl (hb hby at_16) rfl (flt (by decide)).1 ?_
      show Steps p.tables e below (T3.setTop (mkF m 19 #[.val (.int p0), .val (.long q1), .second, .val (.ref b1), .val (.int (2 : Int32)), .unset, .unset, .unset, .unset, .unset, .unset, .unset, .unset, .unset] [])) _
      refine XS.aloadN X3.here hx rfl (hb hby at_19) rfl rfl ?_
      show Steps p.tables e below (T3.setTop (mkF m 20 #[.val (.int p0), .val (.long q1), .second, .val (.ref b1), .val (.int (2 : Int32)), .unset, .unset, .unset, .unset, .unset, .unset, .unset, .unset, .unset] [(.ref b1)])) _
      refine XS.lloadN X3.here hx rfl (hb hby at_20) rfl ?_
      show Steps p.tables e below (T3.setTop (mkF m 21 #[.val (.int p0), .val (.long q1), .second, .val (.ref b1), .val (.int (2 : Int32)), .unset, .unset, .unset, .unset, .unset, .unset, .unset, .unset, .unset] [(.long q1), (.ref b1)])) _
      exact kZ
    obtain ⟨cq19, kq19, q19a, q19b, q19c⟩ := isOf hZ rfl f3_0
    obtain ⟨_, _, ⟨T19, L19, k19, n19⟩, -, X19, ⟨Lc19, hQ19, l19, y19, z19⟩, st19⟩ := X3.virtualBack hx (y := (⟨"com/example/idle_surfer/idlesurfer/LongChunks", "add", "(J)V"⟩ : MethodName)) (z := (⟨"com/example/idle_surfer/idlesurfer/LongChunks", "add", "(J)V"⟩ : MethodName)) hown (mvT hZ (hw _ (List.mem_of_getElem? (i := 28) rfl))) (mvT hZ (hw _ (List.mem_of_getElem? (i := 29) rfl))) (notFace_of_selects (args := #[]) (mvT hZ (hw _ (List.mem_of_getElem? (i := 31) rfl)))) (mvT hZ (hw _ (List.mem_of_getElem? (i := 31) rfl))) (mvT hZ (hw _ (List.mem_of_getElem? (i := 30) rfl))) (by decide) (backOf (W := 0) (rm5a l Z a0 hw [] b1 q1 b3_0 (fun _ => Value.null) T3.heap n0 Z3 f3_0 f3_1 f3_2 f3_3 f3_4 f3_6 g_b1 g_b3_0 ne_b1_b3_0) hZ (hw _ (List.mem_of_getElem? (i := 32) rfl)) (hw _ (List.mem_of_getElem? (i := 2) rfl)) (by decide) (by decide)) q19a q19c (g := (mkF m 21 #[.val (.int p0), .val (.long q1), .second, .val (.ref b1), .val (.int (2 : Int32)), .unset, .unset, .unset, .unset, .unset, .unset, .unset, .unset, .unset] [(.long q1), (.ref b1)])) rfl (by rw [hml]; rfl) (Steps.refl _) (argsL := [(.long q1)]) (rest := []) (lenOf pd_3 rfl) rfl (by show 2 * 0 + _ ≤ _; exact Nat.le_of_eq rfl) (hb hby at_21) (fun _ _ => ⟨rfl, rfl, (by decide : 0 + 1 + 1 + 1 ≤ _), (by decide : 0 + 3 + 16 + 1024 ≤ _)⟩)
    dsimp only [Pt.U, Pt.locs, Pt.cells, Pt.slots] at X19 l19 y19 z19 st19 hQ19
    subst l19 y19 z19
    obtain ⟨rfl, N19q, b19_0, hz_b19_0, Kq19, f19_0, f19_1, f19_2, f19_3, f19_4, f19_5, f19_6, f19_7⟩ := hQ19
    have g_b19_0 : n0 ≤ b19_0 := Nat.le_trans Z3 hz_b19_0
    have sz_b19_0 : h0.size ≤ b19_0 := Nat.le_trans (K3).1 hz_b19_0
    have ne_b1_b19_0 : b1 ≠ b19_0 := Nat.ne_of_lt (Nat.lt_of_lt_of_le f3_0.lt hz_b19_0)
    have ne_b3_0_b19_0 : b3_0 ≠ b19_0 := Nat.ne_of_lt (Nat.lt_of_lt_of_le f3_4.lt hz_b19_0)
    have c20_6 := f3_5.keep Kq19
    have K19 : Keep h0 T19.heap [] := K3.trans Kq19 (allS (Or.inr sz_b1) (allS (Or.inr sz_b3_0) all0))
    have Z19 : n0 ≤ T19.heap.size := Nat.le_trans Z3 Kq19.1
    have N19 := Fr.app N3 N19q
    refine Go.via (fun t k => st19.trans k) ?_
    show Go p e below _ (T19.setTop (mkF m 24 #[.val (.int p0), .val (.long q1), .second, .val (.ref b1), .val (.int (2 : Int32)), .unset, .unset, .unset, .unset, .unset, .unset, .unset, .unset, .unset] []))
    refine Go.via (T' := T19.setTop (mkF m 32 #[.val (.int p0), .val (.long q1), .second, .val (.ref b1), .val (.int (2 : Int32)), .unset, .unset, .unset, .unset, .unset, .unset, .unset, .unset, .unset] [(.long q1), (.ref b1)])) (fun tZ kZ => ?_) ?_
    · show Steps p.tables e below (T19.setTop (mkF m 24 #[.val (.int p0), .val (.long q1), .second, .val (.ref b1), .val (.int (2 : Int32)), .unset, .unset, .unset, .unset, .unset, .unset, .unset, .unset, .unset] [])) _
      refine XS.iload X19.here hx rfl (hb hby at_24) rfl ?_
      show Steps p.tables e below (T19.setTop (mkF m 26 #[.val (.int p0), .val (.long q1), .second, .val (.ref b1), .val (.int (2 : Int32)), .unset, .unset, .unset, .unset, .unset, .unset, .unset, .unset, .unset] [(.int (2 : Int32))])) _
      refine XS.iconst X19.here hx rfl (hb hby at_26) ?_
      show Steps p.tables e below (T19.setTop (mkF m 27 #[.val (.int p0), .val (.long q1), .second, .val (.ref b1), .val (.int (2 : Int32)), .unset, .unset, .unset, .unset, .unset, .unset, .unset, .unset, .unset] [(.int (2 : Int32)), (.int (2 : Int32))])) _
      refine XS.icmpNo X19.here hx rfl (hb hby at_27) rfl (flt (by decide)).1 ?_
      show Steps p.tables e below (T19.setTop (mkF m 30 #[.val (.int p0), .val (.long q1), .second, .val (.ref b1), .val (.int (2 : Int32)), .unset, .unset, .unset, .unset, .unset, .unset, .unset, .unset, .unset] [])) _
      refine XS.aloadN X19.here hx rfl (hb hby at_30) rfl rfl ?_
      show Steps p.tables e below (T19.setTop (mkF m 31 #[.val (.int p0), .val (.long q1), .second, .val (.ref b1), .val (.int (2 : Int32)), .unset, .unset, .unset, .unset, .unset, .unset, .unset, .unset, .unset] [(.ref b1)])) _
      refine XS.lloadN X19.here hx rfl (hb hby at_31) rfl ?_
      show Steps p.tables e below (T19.setTop (mkF m 32 #[.val (.int p0), .val (.long q1), .second, .val (.ref b1), .val (.int (2 : Int32)), .unset, .unset, .unset, .unset, .unset, .unset, .unset, .unset, .unset] [(.long q1), (.ref b1)])) _
      exact kZ
    obtain ⟨cq21, kq21, q21a, q21b, q21c⟩ := isOf hZ rfl f19_0
    obtain ⟨_, _, ⟨T21, L21, k21, n21⟩, -, X21, ⟨Lc21, hQ21, l21, y21, z21⟩, st21⟩ := X19.virtualBack hx (y := (⟨"com/example/idle_surfer/idlesurfer/LongChunks", "add", "(J)V"⟩ : MethodName)) (z := (⟨"com/example/idle_surfer/idlesurfer/LongChunks", "add", "(J)V"⟩ : MethodName)) hown (mvT hZ (hw _ (List.mem_of_getElem? (i := 28) rfl))) (mvT hZ (hw _ (List.mem_of_getElem? (i := 29) rfl))) (notFace_of_selects (args := #[]) (mvT hZ (hw _ (List.mem_of_getElem? (i := 31) rfl)))) (mvT hZ (hw _ (List.mem_of_getElem? (i := 31) rfl))) (mvT hZ (hw _ (List.mem_of_getElem? (i := 30) rfl))) (by decide) (backOf (W := 0) (rm5b l Z a0 hw [] b1 q1 b3_0 b19_0 (1 : Int32) (up (fun _ => Value.null) (0 : Int32).toNatClampNeg (.ref b19_0)) (up (fun _ => (0 : Int64)) (0 : Int32).toNatClampNeg q1) T19.heap n0 Z19 f19_0 f19_1 f19_2 f19_3 f19_4 f19_5 g_b1 g_b3_0 f19_7 g_b19_0 ne_b1_b3_0 ne_b1_b19_0 ne_b3_0_b19_0 (by unfold f3; decide) (by simp [up]) (by decide) (by decide)) hZ (hw _ (List.mem_of_getElem? (i := 32) rfl)) (hw _ (List.mem_of_getElem? (i := 2) rfl)) (by decide) (by decide)) q21a q21c (g := (mkF m 32 #[.val (.int p0), .val (.long q1), .second, .val (.ref b1), .val (.int (2 : Int32)), .unset, .unset, .unset, .unset, .unset, .unset, .unset, .unset, .unset] [(.long q1), (.ref b1)])) rfl (by rw [hml]; rfl) (Steps.refl _) (argsL := [(.long q1)]) (rest := []) (lenOf pd_3 rfl) rfl (by show 2 * 0 + _ ≤ _; exact Nat.le_of_eq rfl) (hb hby at_32) (fun _ _ => ⟨rfl, rfl, (by decide : 0 + 1 + 1 + 1 + 0 ≤ _), (by decide : 0 + 3 + 16 + 1024 + 0 ≤ _)⟩)
    dsimp only [Pt.U, Pt.locs, Pt.cells, Pt.slots] at X21 l21 y21 z21 st21 hQ21
    subst l21 y21 z21
    obtain ⟨rfl, N21q, Kq21, f21_0, f21_1, f21_2, f21_3, f21_4, f21_5, f21_6⟩ := hQ21
    have c22_6 := c20_6.keep Kq21
    have c22_9 := f19_6.keep Kq21
    have K21 : Keep h0 T21.heap [] := K19.trans Kq21 (allS (Or.inr sz_b1) (allS (Or.inr sz_b19_0) all0))
    have Z21 : n0 ≤ T21.heap.size := Nat.le_trans Z19 Kq21.1
    have N21 := Fr.app N19 N21q
    refine Go.via (fun t k => st21.trans k) ?_
    show Go p e below _ (T21.setTop (mkF m 35 #[.val (.int p0), .val (.long q1), .second, .val (.ref b1), .val (.int (2 : Int32)), .unset, .unset, .unset, .unset, .unset, .unset, .unset, .unset, .unset] []))
    refine Go.via (T' := T21.setTop (mkF m 47 #[.val (.int p0), .val (.long q1), .second, .val (.ref b1), .val (.int (2 : Int32)), .unset, .unset, .unset, .unset, .unset, .unset, .unset, .unset, .unset] [(.ref b1)])) (fun tZ kZ => ?_) ?_
    · show Steps p.tables e below (T21.setTop (mkF m 35 #[.val (.int p0), .val (.long q1), .second, .val (.ref b1), .val (.int (2 : Int32)), .unset, .unset, .unset, .unset, .unset, .unset, .unset, .unset, .unset] [])) _
      refine XS.iload X21.here hx rfl (hb hby at_35) rfl ?_
      show Steps p.tables e below (T21.setTop (mkF m 37 #[.val (.int p0), .val (.long q1), .second, .val (.ref b1), .val (.int (2 : Int32)), .unset, .unset, .unset, .unset, .unset, .unset, .unset, .unset, .unset] [(.int (2 : Int32))])) _
      refine XS.iconst X21.here hx rfl (hb hby at_37) ?_
      show Steps p.tables e below (T21.setTop (mkF m 38 #[.val (.int p0), .val (.long q1), .second, .val (.ref b1), .val (.int (2 : Int32)), .unset, .unset, .unset, .unset, .unset, .unset, .unset, .unset, .unset] [(.int (3 : Int32)), (.int (2 : Int32))])) _
      refine XS.icmpYes X21.here hx rfl (pc0 := 38) (pc' := 46) rfl (hb hby at_38) rfl (tlt (by decide)).1 (by decide) (by decide) ?_
      show Steps p.tables e below (T21.setTop (mkF m 46 #[.val (.int p0), .val (.long q1), .second, .val (.ref b1), .val (.int (2 : Int32)), .unset, .unset, .unset, .unset, .unset, .unset, .unset, .unset, .unset] [])) _
      refine XS.aloadN X21.here hx rfl (hb hby at_46) rfl rfl ?_
      show Steps p.tables e below (T21.setTop (mkF m 47 #[.val (.int p0), .val (.long q1), .second, .val (.ref b1), .val (.int (2 : Int32)), .unset, .unset, .unset, .unset, .unset, .unset, .unset, .unset, .unset] [(.ref b1)])) _
      exact kZ
    obtain ⟨cq23, kq23, q23a, q23b, q23c⟩ := isOf hZ rfl f21_0
    obtain ⟨_, _, ⟨T23, L23, k23, n23⟩, -, X23, ⟨Lc23, hQ23, l23, y23, z23⟩, st23⟩ := X21.virtualBack hx (y := (⟨"com/example/idle_surfer/idlesurfer/LongChunks", "full", "()Z"⟩ : MethodName)) (z := (⟨"com/example/idle_surfer/idlesurfer/LongChunks", "full", "()Z"⟩ : MethodName)) hown (mvT hZ (hw _ (List.mem_of_getElem? (i := 13) rfl))) (mvT hZ (hw _ (List.mem_of_getElem? (i := 14) rfl))) (notFace_of_selects (args := #[]) (mvT hZ (hw _ (List.mem_of_getElem? (i := 16) rfl)))) (mvT hZ (hw _ (List.mem_of_getElem? (i := 16) rfl))) (mvT hZ (hw _ (List.mem_of_getElem? (i := 15) rfl))) (by decide) (backOf (W := 0) (rm3 l Z a0 hw [] b1 (2 : Int32) (1 : Int32) T21.heap n0 Z21 f21_2 f21_3) hZ (hw _ (List.mem_of_getElem? (i := 17) rfl)) (hw _ (List.mem_of_getElem? (i := 2) rfl)) (by decide) (by decide)) q23a q23c (g := (mkF m 47 #[.val (.int p0), .val (.long q1), .second, .val (.ref b1), .val (.int (2 : Int32)), .unset, .unset, .unset, .unset, .unset, .unset, .unset, .unset, .unset] [(.ref b1)])) rfl (by rw [hml]; rfl) (Steps.refl _) (argsL := []) (rest := []) (lenOf pd_1 rfl) rfl (by show 2 * 0 + _ ≤ _; exact Nat.le_of_eq rfl) (hb hby at_47) (fun _ _ => ⟨rfl, rfl, (by decide : 0 + 1 + 1 + 1 + 0 + 0 ≤ _), (by decide : 0 + 3 + 16 + 1024 + 0 + 0 ≤ _)⟩)
    dsimp only [Pt.U, Pt.locs, Pt.cells, Pt.slots] at X23 l23 y23 z23 st23 hQ23
    subst l23 y23 z23
    obtain ⟨rfl, N23q, e23⟩ := hQ23
    have hv23 : (f3 b1 (2 : Int32) (1 : Int32)) = (0 : Int32) := by unfold f3; decide
    rw [hv23] at st23
    have N23 := Fr.app N21 N23q
    refine Go.via (fun t k => st23.trans k) ?_
    show Go p e below _ (T23.setTop (mkF m 50 #[.val (.int p0), .val (.long q1), .second, .val (.ref b1), .val (.int (2 : Int32)), .unset, .unset, .unset, .unset, .unset, .unset, .unset, .unset, .unset] [(.int (0 : Int32))]))
    refine Go.via (T' := T23.setTop (mkF m 53 #[.val (.int p0), .val (.long q1), .second, .val (.ref b1), .val (.int (2 : Int32)), .val (.int (0 : Int32)), .unset, .unset, .unset, .unset, .unset, .unset, .unset, .unset] [(.ref b1)])) (fun tZ kZ => ?_) ?_
    · show Steps p.tables e below (T23.setTop (mkF m 50 #[.val (.int p0), .val (.long q1), .second, .val (.ref b1), .val (.int (2 : Int32)), .unset, .unset, .unset, .unset, .unset, .unset, .unset, .unset, .unset] [(.int (0 : Int32))])) _
      refine XS.istore X23.here hx rfl (hb hby at_50) rfl (l' := #[.val (.int p0), .val (.long q1), .second, .val (.ref b1), .val (.int (2 : Int32)), .val (.int (0 : Int32)), .unset, .unset, .unset, .unset, .unset, .unset, .unset, .unset]) rfl ?_
      show Steps p.tables e below (T23.setTop (mkF m 52 #[.val (.int p0), .val (.long q1), .second, .val (.ref b1), .val (.int (2 : Int32)), .val (.int (0 : Int32)), .unset, .unset, .unset, .unset, .unset, .unset, .unset, .unset] [])) _
      refine XS.aloadN X23.here hx rfl (hb hby at_52) rfl rfl ?_
      show Steps p.tables e below (T23.setTop (mkF m 53 #[.val (.int p0), .val (.long q1), .second, .val (.ref b1), .val (.int (2 : Int32)), .val (.int (0 : Int32)), .unset, .unset, .unset, .unset, .unset, .unset, .unset, .unset] [(.ref b1)])) _
      exact kZ
    obtain ⟨cq24, kq24, q24a, q24b, q24c⟩ := isOf hZ e23 f21_0
    obtain ⟨_, _, ⟨T24, L24, k24, n24⟩, -, X24, ⟨Lc24, hQ24, l24, y24, z24⟩, st24⟩ := X23.virtualBack hx (y := (⟨"com/example/idle_surfer/idlesurfer/LongChunks", "bytes", "()J"⟩ : MethodName)) (z := (⟨"com/example/idle_surfer/idlesurfer/LongChunks", "bytes", "()J"⟩ : MethodName)) hown (mvT hZ (hw _ (List.mem_of_getElem? (i := 22) rfl))) (mvT hZ (hw _ (List.mem_of_getElem? (i := 23) rfl))) (notFace_of_selects (args := #[]) (mvT hZ (hw _ (List.mem_of_getElem? (i := 25) rfl)))) (mvT hZ (hw _ (List.mem_of_getElem? (i := 25) rfl))) (mvT hZ (hw _ (List.mem_of_getElem? (i := 24) rfl))) (by decide) (backOf (W := 0) (rm4 l Z a0 hw [] b1 (1 : Int32) T21.heap n0 Z21 f21_3) hZ (hw _ (List.mem_of_getElem? (i := 26) rfl)) (hw _ (List.mem_of_getElem? (i := 2) rfl)) (by decide) (by decide)) q24a q24c (g := (mkF m 53 #[.val (.int p0), .val (.long q1), .second, .val (.ref b1), .val (.int (2 : Int32)), .val (.int (0 : Int32)), .unset, .unset, .unset, .unset, .unset, .unset, .unset, .unset] [(.ref b1)])) rfl (by rw [hml]; rfl) (Steps.refl _) (argsL := []) (rest := []) (lenOf pd_2 rfl) rfl (by show 2 * 0 + _ ≤ _; exact Nat.le_of_eq rfl) (hb hby at_53) (fun _ _ => ⟨rfl, e23, (by decide : 0 + 1 + 1 + 1 + 0 + 0 + 0 ≤ _), (by decide : 0 + 3 + 16 + 1024 + 0 + 0 + 0 ≤ _)⟩)
    dsimp only [Pt.U, Pt.locs, Pt.cells, Pt.slots] at X24 l24 y24 z24 st24 hQ24
    subst l24 y24 z24
    obtain ⟨rfl, N24q, e24⟩ := hQ24
    have N24 := Fr.app N23 N24q
    refine Go.via (fun t k => st24.trans k) ?_
    show Go p e below _ (T24.setTop (mkF m 56 #[.val (.int p0), .val (.long q1), .second, .val (.ref b1), .val (.int (2 : Int32)), .val (.int (0 : Int32)), .unset, .unset, .unset, .unset, .unset, .unset, .unset, .unset] [(.long (8192 : Int64))]))
    refine Go.via (T' := T24.setTop (mkF m 60 #[.val (.int p0), .val (.long q1), .second, .val (.ref b1), .val (.int (2 : Int32)), .val (.int (0 : Int32)), .val (.long (8192 : Int64)), .second, .unset, .unset, .unset, .unset, .unset, .unset] [(.long q1), (.ref b1)])) (fun tZ kZ => ?_) ?_
    · show Steps p.tables e below (T24.setTop (mkF m 56 #[.val (.int p0), .val (.long q1), .second, .val (.ref b1), .val (.int (2 : Int32)), .val (.int (0 : Int32)), .unset, .unset, .unset, .unset, .unset, .unset, .unset, .unset] [(.long (8192 : Int64))])) _
      refine XS.lstore X24.here hx rfl (hb hby at_56) rfl (l' := #[.val (.int p0), .val (.long q1), .second, .val (.ref b1), .val (.int (2 : Int32)), .val (.int (0 : Int32)), .val (.long (8192 : Int64)), .second, .unset, .unset, .unset, .unset, .unset, .unset]) rfl ?_
      show Steps p.tables e below (T24.setTop (mkF m 58 #[.val (.int p0), .val (.long q1), .second, .val (.ref b1), .val (.int (2 : Int32)), .val (.int (0 : Int32)), .val (.long (8192 : Int64)), .second, .unset, .unset, .unset, .unset, .unset, .unset] [])) _
      refine XS.aloadN X24.here hx rfl (hb hby at_58) rfl rfl ?_
      show Steps p.tables e below (T24.setTop (mkF m 59 #[.val (.int p0), .val (.long q1), .second, .val (.ref b1), .val (.int (2 : Int32)), .val (.int (0 : Int32)), .val (.long (8192 : Int64)), .second, .unset, .unset, .unset, .unset, .unset, .unset] [(.ref b1)])) _
      refine XS.lloadN X24.here hx rfl (hb hby at_59) rfl ?_
      show Steps p.tables e below (T24.setTop (mkF m 60 #[.val (.int p0), .val (.long q1), .second, .val (.ref b1), .val (.int (2 : Int32)), .val (.int (0 : Int32)), .val (.long (8192 : Int64)), .second, .unset, .unset, .unset, .unset, .unset, .unset] [(.long q1), (.ref b1)])) _
      exact kZ
    obtain ⟨cq25, kq25, q25a, q25b, q25c⟩ := isOf hZ e24 f21_0
    obtain ⟨_, _, ⟨T25, L25, k25, n25⟩, -, X25, ⟨Lc25, hQ25, l25, y25, z25⟩, st25⟩ := X24.virtualBack hx (y := (⟨"com/example/idle_surfer/idlesurfer/LongChunks", "add", "(J)V"⟩ : MethodName)) (z := (⟨"com/example/idle_surfer/idlesurfer/LongChunks", "add", "(J)V"⟩ : MethodName)) hown (mvT hZ (hw _ (List.mem_of_getElem? (i := 28) rfl))) (mvT hZ (hw _ (List.mem_of_getElem? (i := 29) rfl))) (notFace_of_selects (args := #[]) (mvT hZ (hw _ (List.mem_of_getElem? (i := 31) rfl)))) (mvT hZ (hw _ (List.mem_of_getElem? (i := 31) rfl))) (mvT hZ (hw _ (List.mem_of_getElem? (i := 30) rfl))) (by decide) (backOf (W := 0) (rm5b l Z a0 hw [] b1 q1 b3_0 b19_0 (2 : Int32) (up (fun _ => Value.null) (0 : Int32).toNatClampNeg (.ref b19_0)) (up (up (fun _ => (0 : Int64)) (0 : Int32).toNatClampNeg q1) (1 : Int32).toNatClampNeg q1) T21.heap n0 Z21 f21_0 f21_1 f21_2 f21_3 f21_4 f21_5 g_b1 g_b3_0 f21_6 g_b19_0 ne_b1_b3_0 ne_b1_b19_0 ne_b3_0_b19_0 (by unfold f3; decide) (by simp [up]) (by decide) (by decide)) hZ (hw _ (List.mem_of_getElem? (i := 32) rfl)) (hw _ (List.mem_of_getElem? (i := 2) rfl)) (by decide) (by decide)) q25a q25c (g := (mkF m 60 #[.val (.int p0), .val (.long q1), .second, .val (.ref b1), .val (.int (2 : Int32)), .val (.int (0 : Int32)), .val (.long (8192 : Int64)), .second, .unset, .unset, .unset, .unset, .unset, .unset] [(.long q1), (.ref b1)])) rfl (by rw [hml]; rfl) (Steps.refl _) (argsL := [(.long q1)]) (rest := []) (lenOf pd_3 rfl) rfl (by show 2 * 0 + _ ≤ _; exact Nat.le_of_eq rfl) (hb hby at_60) (fun _ _ => ⟨rfl, e24, (by decide : 0 + 1 + 1 + 1 + 0 + 0 + 0 + 0 ≤ _), (by decide : 0 + 3 + 16 + 1024 + 0 + 0 + 0 + 0 ≤ _)⟩)
    dsimp only [Pt.U, Pt.locs, Pt.cells, Pt.slots] at X25 l25 y25 z25 st25 hQ25
    subst l25 y25 z25
    obtain ⟨rfl, N25q, Kq25, f25_0, f25_1, f25_2, f25_3, f25_4, f25_5, f25_6⟩ := hQ25
    have c26_6 := c22_6.keep Kq25
    have c26_9 := c22_9.keep Kq25
    have K25 : Keep h0 T25.heap [] := K21.trans Kq25 (allS (Or.inr sz_b1) (allS (Or.inr sz_b19_0) all0))
    have Z25 : n0 ≤ T25.heap.size := Nat.le_trans Z21 Kq25.1
    have N25 := Fr.app N24 N25q
    refine Go.via (fun t k => st25.trans k) ?_
    show Go p e below _ (T25.setTop (mkF m 63 #[.val (.int p0), .val (.long q1), .second, .val (.ref b1), .val (.int (2 : Int32)), .val (.int (0 : Int32)), .val (.long (8192 : Int64)), .second, .unset, .unset, .unset, .unset, .unset, .unset] []))
    refine Go.via (T' := T25.setTop (mkF m 64 #[.val (.int p0), .val (.long q1), .second, .val (.ref b1), .val (.int (2 : Int32)), .val (.int (0 : Int32)), .val (.long (8192 : Int64)), .second, .unset, .unset, .unset, .unset, .unset, .unset] [(.ref b1)])) (fun tZ kZ => ?_) ?_
    · show Steps p.tables e below (T25.setTop (mkF m 63 #[.val (.int p0), .val (.long q1), .second, .val (.ref b1), .val (.int (2 : Int32)), .val (.int (0 : Int32)), .val (.long (8192 : Int64)), .second, .unset, .unset, .unset, .unset, .unset, .unset] [])) _
      refine XS.aloadN X25.here hx rfl (hb hby at_63) rfl rfl ?_
      show Steps p.tables e below (T25.setTop (mkF m 64 #[.val (.int p0), .val (.long q1), .second, .val (.ref b1), .val (.int (2 : Int32)), .val (.int (0 : Int32)), .val (.long (8192 : Int64)), .second, .unset, .unset, .unset, .unset, .unset, .unset] [(.ref b1)])) _
      exact kZ
    obtain ⟨cq27, kq27, q27a, q27b, q27c⟩ := isOf hZ rfl f25_0
    obtain ⟨_, _, ⟨T27, L27, k27, n27⟩, -, X27, ⟨Lc27, hQ27, l27, y27, z27⟩, st27⟩ := X25.virtualBack hx (y := (⟨"com/example/idle_surfer/idlesurfer/LongChunks", "bytes", "()J"⟩ : MethodName)) (z := (⟨"com/example/idle_surfer/idlesurfer/LongChunks", "bytes", "()J"⟩ : MethodName)) hown (mvT hZ (hw _ (List.mem_of_getElem? (i := 22) rfl))) (mvT hZ (hw _ (List.mem_of_getElem? (i := 23) rfl))) (notFace_of_selects (args := #[]) (mvT hZ (hw _ (List.mem_of_getElem? (i := 25) rfl)))) (mvT hZ (hw _ (List.mem_of_getElem? (i := 25) rfl))) (mvT hZ (hw _ (List.mem_of_getElem? (i := 24) rfl))) (by decide) (backOf (W := 0) (rm4 l Z a0 hw [] b1 (1 : Int32) T25.heap n0 Z25 f25_3) hZ (hw _ (List.mem_of_getElem? (i := 26) rfl)) (hw _ (List.mem_of_getElem? (i := 2) rfl)) (by decide) (by decide)) q27a q27c (g := (mkF m 64 #[.val (.int p0), .val (.long q1), .second, .val (.ref b1), .val (.int (2 : Int32)), .val (.int (0 : Int32)), .val (.long (8192 : Int64)), .second, .unset, .unset, .unset, .unset, .unset, .unset] [(.ref b1)])) rfl (by rw [hml]; rfl) (Steps.refl _) (argsL := []) (rest := []) (lenOf pd_2 rfl) rfl (by show 2 * 0 + _ ≤ _; exact Nat.le_of_eq rfl) (hb hby at_64) (fun _ _ => ⟨rfl, rfl, (by decide : 0 + 1 + 1 + 1 + 0 + 0 + 0 + 0 + 0 ≤ _), (by decide : 0 + 3 + 16 + 1024 + 0 + 0 + 0 + 0 + 0 ≤ _)⟩)
    dsimp only [Pt.U, Pt.locs, Pt.cells, Pt.slots] at X27 l27 y27 z27 st27 hQ27
    subst l27 y27 z27
    obtain ⟨rfl, N27q, e27⟩ := hQ27
    have N27 := Fr.app N25 N27q
    refine Go.via (fun t k => st27.trans k) ?_
    show Go p e below _ (T27.setTop (mkF m 67 #[.val (.int p0), .val (.long q1), .second, .val (.ref b1), .val (.int (2 : Int32)), .val (.int (0 : Int32)), .val (.long (8192 : Int64)), .second, .unset, .unset, .unset, .unset, .unset, .unset] [(.long (8192 : Int64))]))
    refine Go.via (T' := T27.setTop (mkF m 70 #[.val (.int p0), .val (.long q1), .second, .val (.ref b1), .val (.int (2 : Int32)), .val (.int (0 : Int32)), .val (.long (8192 : Int64)), .second, .val (.long (8192 : Int64)), .second, .unset, .unset, .unset, .unset] [(.ref b1)])) (fun tZ kZ => ?_) ?_
    · show Steps p.tables e below (T27.setTop (mkF m 67 #[.val (.int p0), .val (.long q1), .second, .val (.ref b1), .val (.int (2 : Int32)), .val (.int (0 : Int32)), .val (.long (8192 : Int64)), .second, .unset, .unset, .unset, .unset, .unset, .unset] [(.long (8192 : Int64))])) _
      refine XS.lstore X27.here hx rfl (hb hby at_67) rfl (l' := #[.val (.int p0), .val (.long q1), .second, .val (.ref b1), .val (.int (2 : Int32)), .val (.int (0 : Int32)), .val (.long (8192 : Int64)), .second, .val (.long (8192 : Int64)), .second, .unset, .unset, .unset, .unset]) rfl ?_
      show Steps p.tables e below (T27.setTop (mkF m 69 #[.val (.int p0), .val (.long q1), .second, .val (.ref b1), .val (.int (2 : Int32)), .val (.int (0 : Int32)), .val (.long (8192 : Int64)), .second, .val (.long (8192 : Int64)), .second, .unset, .unset, .unset, .unset] [])) _
      refine XS.aloadN X27.here hx rfl (hb hby at_69) rfl rfl ?_
      show Steps p.tables e below (T27.setTop (mkF m 70 #[.val (.int p0), .val (.long q1), .second, .val (.ref b1), .val (.int (2 : Int32)), .val (.int (0 : Int32)), .val (.long (8192 : Int64)), .second, .val (.long (8192 : Int64)), .second, .unset, .unset, .unset, .unset] [(.ref b1)])) _
      exact kZ
    obtain ⟨cq28, kq28, q28a, q28b, q28c⟩ := isOf hZ e27 f25_0
    obtain ⟨_, _, ⟨T28, L28, k28, n28⟩, -, X28, ⟨Lc28, hQ28, l28, y28, z28⟩, st28⟩ := X27.virtualBack hx (y := (⟨"com/example/idle_surfer/idlesurfer/LongChunks", "full", "()Z"⟩ : MethodName)) (z := (⟨"com/example/idle_surfer/idlesurfer/LongChunks", "full", "()Z"⟩ : MethodName)) hown (mvT hZ (hw _ (List.mem_of_getElem? (i := 13) rfl))) (mvT hZ (hw _ (List.mem_of_getElem? (i := 14) rfl))) (notFace_of_selects (args := #[]) (mvT hZ (hw _ (List.mem_of_getElem? (i := 16) rfl)))) (mvT hZ (hw _ (List.mem_of_getElem? (i := 16) rfl))) (mvT hZ (hw _ (List.mem_of_getElem? (i := 15) rfl))) (by decide) (backOf (W := 0) (rm3 l Z a0 hw [] b1 (3 : Int32) (1 : Int32) T25.heap n0 Z25 f25_2 f25_3) hZ (hw _ (List.mem_of_getElem? (i := 17) rfl)) (hw _ (List.mem_of_getElem? (i := 2) rfl)) (by decide) (by decide)) q28a q28c (g := (mkF m 70 #[.val (.int p0), .val (.long q1), .second, .val (.ref b1), .val (.int (2 : Int32)), .val (.int (0 : Int32)), .val (.long (8192 : Int64)), .second, .val (.long (8192 : Int64)), .second, .unset, .unset, .unset, .unset] [(.ref b1)])) rfl (by rw [hml]; rfl) (Steps.refl _) (argsL := []) (rest := []) (lenOf pd_1 rfl) rfl (by show 2 * 0 + _ ≤ _; exact Nat.le_of_eq rfl) (hb hby at_70) (fun _ _ => ⟨rfl, e27, (by decide : 0 + 1 + 1 + 1 + 0 + 0 + 0 + 0 + 0 + 0 ≤ _), (by decide : 0 + 3 + 16 + 1024 + 0 + 0 + 0 + 0 + 0 + 0 ≤ _)⟩)
    dsimp only [Pt.U, Pt.locs, Pt.cells, Pt.slots] at X28 l28 y28 z28 st28 hQ28
    subst l28 y28 z28
    obtain ⟨rfl, N28q, e28⟩ := hQ28
    have hv28 : (f3 b1 (3 : Int32) (1 : Int32)) = (0 : Int32) := by unfold f3; decide
    rw [hv28] at st28
    have N28 := Fr.app N27 N28q
    refine Go.via (fun t k => st28.trans k) ?_
    show Go p e below _ (T28.setTop (mkF m 73 #[.val (.int p0), .val (.long q1), .second, .val (.ref b1), .val (.int (2 : Int32)), .val (.int (0 : Int32)), .val (.long (8192 : Int64)), .second, .val (.long (8192 : Int64)), .second, .unset, .unset, .unset, .unset] [(.int (0 : Int32))]))
    refine Go.via (T' := T28.setTop (mkF m 155 #[.val (.int p0), .val (.long q1), .second, .val (.ref b1), .val (.int (2 : Int32)), .val (.int (0 : Int32)), .val (.long (8192 : Int64)), .second, .val (.long (8192 : Int64)), .second, .val (.int (0 : Int32)), .val (.int (0 : Int32)), .val (.int (0 : Int32)), .val (.int (1 : Int32))] [(.int (1 : Int32))])) (fun tZ kZ => ?_) ?_
    · show Steps p.tables e below (T28.setTop (mkF m 73 #[.val (.int p0), .val (.long q1), .second, .val (.ref b1), .val (.int (2 : Int32)), .val (.int (0 : Int32)), .val (.long (8192 : Int64)), .second, .val (.long (8192 : Int64)), .second, .unset, .unset, .unset, .unset] [(.int (0 : Int32))])) _
      refine XS.istore X28.here hx rfl (hb hby at_73) rfl (l' := #[.val (.int p0), .val (.long q1), .second, .val (.ref b1), .val (.int (2 : Int32)), .val (.int (0 : Int32)), .val (.long (8192 : Int64)), .second, .val (.long (8192 : Int64)), .second, .val (.int (0 : Int32)), .unset, .unset, .unset]) rfl ?_
      show Steps p.tables e below (T28.setTop (mkF m 75 #[.val (.int p0), .val (.long q1), .second, .val (.ref b1), .val (.int (2 : Int32)), .val (.int (0 : Int32)), .val (.long (8192 : Int64)), .second, .val (.long (8192 : Int64)), .second, .val (.int (0 : Int32)), .unset, .unset, .unset] [])) _
      refine XS.iload X28.here hx rfl (hb hby at_75) rfl ?_
      show Steps p.tables e below (T28.setTop (mkF m 77 #[.val (.int p0), .val (.long q1), .second, .val (.ref b1), .val (.int (2 : Int32)), .val (.int (0 : Int32)), .val (.long (8192 : Int64)), .second, .val (.long (8192 : Int64)), .second, .val (.int (0 : Int32)), .unset, .unset, .unset] [(.int (2 : Int32))])) _
      refine XS.ifYes X28.here hx rfl (pc0 := 77) (pc' := 84) rfl (hb hby at_77) rfl ((if0 _ _).trans (feq (by decide)).2) (by decide) (by decide) ?_
      show Steps p.tables e below (T28.setTop (mkF m 84 #[.val (.int p0), .val (.long q1), .second, .val (.ref b1), .val (.int (2 : Int32)), .val (.int (0 : Int32)), .val (.long (8192 : Int64)), .second, .val (.long (8192 : Int64)), .second, .val (.int (0 : Int32)), .unset, .unset, .unset] [])) _
      refine XS.iconst X28.here hx rfl (hb hby at_84) ?_
      show Steps p.tables e below (T28.setTop (mkF m 85 #[.val (.int p0), .val (.long q1), .second, .val (.ref b1), .val (.int (2 : Int32)), .val (.int (0 : Int32)), .val (.long (8192 : Int64)), .second, .val (.long (8192 : Int64)), .second, .val (.int (0 : Int32)), .unset, .unset, .unset] [(.int (0 : Int32))])) _
      refine XS.istore X28.here hx rfl (hb hby at_85) rfl (l' := #[.val (.int p0), .val (.long q1), .second, .val (.ref b1), .val (.int (2 : Int32)), .val (.int (0 : Int32)), .val (.long (8192 : Int64)), .second, .val (.long (8192 : Int64)), .second, .val (.int (0 : Int32)), .val (.int (0 : Int32)), .unset, .unset]) rfl ?_
      show Steps p.tables e below (T28.setTop (mkF m 87 #[.val (.int p0), .val (.long q1), .second, .val (.ref b1), .val (.int (2 : Int32)), .val (.int (0 : Int32)), .val (.long (8192 : Int64)), .second, .val (.long (8192 : Int64)), .second, .val (.int (0 : Int32)), .val (.int (0 : Int32)), .unset, .unset] [])) _
      refine XS.lload X28.here hx rfl (hb hby at_87) rfl ?_
      show Steps p.tables e below (T28.setTop (mkF m 89 #[.val (.int p0), .val (.long q1), .second, .val (.ref b1), .val (.int (2 : Int32)), .val (.int (0 : Int32)), .val (.long (8192 : Int64)), .second, .val (.long (8192 : Int64)), .second, .val (.int (0 : Int32)), .val (.int (0 : Int32)), .unset, .unset] [(.long (8192 : Int64))])) _
      refine XS.lload X28.here hx rfl (hb hby at_89) rfl ?_
      show Steps p.tables e below (T28.setTop (mkF m 91 #[.val (.int p0), .val (.long q1), .second, .val (.ref b1), .val (.int (2 : Int32)), .val (.int (0 : Int32)), .val (.long (8192 : Int64)), .second, .val (.long (8192 : Int64)), .second, .val (.int (0 : Int32)), .val (.int (0 : Int32)), .unset, .unset] [(.long (8192 : Int64)), (.long (8192 : Int64))])) _
      refine X28.ldc2Long hx hown (mvT hZ (hw _ (List.mem_of_getElem? (i := 41) rfl))) (g := (mkF m 91 #[.val (.int p0), .val (.long q1), .second, .val (.ref b1), .val (.int (2 : Int32)), .val (.int (0 : Int32)), .val (.long (8192 : Int64)), .second, .val (.long (8192 : Int64)), .second, .val (.int (0 : Int32)), .val (.int (0 : Int32)), .unset, .unset] [(.long (8192 : Int64)), (.long (8192 : Int64))])) rfl (hb hby at_91) _ ?_
      show Steps p.tables e below (T28.setTop (mkF m 94 #[.val (.int p0), .val (.long q1), .second, .val (.ref b1), .val (.int (2 : Int32)), .val (.int (0 : Int32)), .val (.long (8192 : Int64)), .second, .val (.long (8192 : Int64)), .second, .val (.int (0 : Int32)), .val (.int (0 : Int32)), .unset, .unset] [(.long (8192 : Int64)), (.long (8192 : Int64)), (.long (8192 : Int64))])) _
      refine XS.ladd X28.here hx rfl (hb hby at_94) rfl ?_
      show Steps p.tables e below (T28.setTop (mkF m 95 #[.val (.int p0), .val (.long q1), .second, .val (.ref b1), .val (.int (2 : Int32)), .val (.int (0 : Int32)), .val (.long (8192 : Int64)), .second, .val (.long (8192 : Int64)), .second, .val (.int (0 : Int32)), .val (.int (0 : Int32)), .unset, .unset] [(.long (16384 : Int64)), (.long (8192 : Int64))])) _
      refine XS.lcmp X28.here hx rfl (hb hby at_95) rfl ?_
      show Steps p.tables e below (T28.setTop (mkF m 96 #[.val (.int p0), .val (.long q1), .second, .val (.ref b1), .val (.int (2 : Int32)), .val (.int (0 : Int32)), .val (.long (8192 : Int64)), .second, .val (.long (8192 : Int64)), .second, .val (.int (0 : Int32)), .val (.int (0 : Int32)), .unset, .unset] [(.int (lcmpW (8192 : Int64) (16384 : Int64)))])) _
      refine XS.ifYes X28.here hx rfl (pc0 := 96) (pc' := 103) rfl (hb hby at_96) rfl ((if0 _ _).trans (feq (fun q => absurd ((lw_eq _ _).mp q) (by decide))).2) (by decide) (by decide) ?_
      show Steps p.tables e below (T28.setTop (mkF m 103 #[.val (.int p0), .val (.long q1), .second, .val (.ref b1), .val (.int (2 : Int32)), .val (.int (0 : Int32)), .val (.long (8192 : Int64)), .second, .val (.long (8192 : Int64)), .second, .val (.int (0 : Int32)), .val (.int (0 : Int32)), .unset, .unset] [])) _
      refine XS.iconst X28.here hx rfl (hb hby at_103) ?_
      show Steps p.tables e below (T28.setTop (mkF m 104 #[.val (.int p0), .val (.long q1), .second, .val (.ref b1), .val (.int (2 : Int32)), .val (.int (0 : Int32)), .val (.long (8192 : Int64)), .second, .val (.long (8192 : Int64)), .second, .val (.int (0 : Int32)), .val (.int (0 : Int32)), .unset, .unset] [(.int (0 : Int32))])) _
      refine XS.istore X28.here hx rfl (hb hby at_104) rfl (l' := #[.val (.int p0), .val (.long q1), .second, .val (.ref b1), .val (.int (2 : Int32)), .val (.int (0 : Int32)), .val (.long (8192 : Int64)), .second, .val (.long (8192 : Int64)), .second, .val (.int (0 : Int32)), .val (.int (0 : Int32)), .val (.int (0 : Int32)), .unset]) rfl ?_
      show Steps p.tables e below (T28.setTop (mkF m 106 #[.val (.int p0), .val (.long q1), .second, .val (.ref b1), .val (.int (2 : Int32)), .val (.int (0 : Int32)), .val (.long (8192 : Int64)), .second, .val (.long (8192 : Int64)), .second, .val (.int (0 : Int32)), .val (.int (0 : Int32)), .val (.int (0 : Int32)), .unset] [])) _
      refine XS.lload X28.here hx rfl (hb hby at_106) rfl ?_
      show Steps p.tables e below (T28.setTop (mkF m 108 #[.val (.int p0), .val (.long q1), .second, .val (.ref b1), .val (.int (2 : Int32)), .val (.int (0 : Int32)), .val (.long (8192 : Int64)), .second, .val (.long (8192 : Int64)), .second, .val (.int (0 : Int32)), .val (.int (0 : Int32)), .val (.int (0 : Int32)), .unset] [(.long (8192 : Int64))])) _
      refine XS.lload X28.here hx rfl (hb hby at_108) rfl ?_
      show Steps p.tables e below (T28.setTop (mkF m 110 #[.val (.int p0), .val (.long q1), .second, .val (.ref b1), .val (.int (2 : Int32)), .val (.int (0 : Int32)), .val (.long (8192 : Int64)), .second, .val (.long (8192 : Int64)), .second, .val (.int (0 : Int32)), .val (.int (0 : Int32)), .val (.int (0 : Int32)), .unset] [(.long (8192 : Int64)), (.long (8192 : Int64))])) _
      refine XS.lcmp X28.here hx rfl (hb hby at_110) rfl ?_
      show Steps p.tables e below (T28.setTop (mkF m 111 #[.val (.int p0), .val (.long q1), .second, .val (.ref b1), .val (.int (2 : Int32)), .val (.int (0 : Int32)), .val (.long (8192 : Int64)), .second, .val (.long (8192 : Int64)), .second, .val (.int (0 : Int32)), .val (.int (0 : Int32)), .val (.int (0 : Int32)), .unset] [(.int (lcmpW (8192 : Int64) (8192 : Int64)))])) _
      refine XS.ifNo X28.here hx rfl (hb hby at_111) rfl ((if0 _ _).trans (teq ((lw_eq _ _).mpr (by decide))).2) ?_
      show Steps p.tables e below (T28.setTop (mkF m 114 #[.val (.int p0), .val (.long q1), .second, .val (.ref b1), .val (.int (2 : Int32)), .val (.int (0 : Int32)), .val (.long (8192 : Int64)), .second, .val (.long (8192 : Int64)), .second, .val (.int (0 : Int32)), .val (.int (0 : Int32)), .val (.int (0 : Int32)), .unset] [])) _
      refine XS.iconst X28.here hx rfl (hb hby at_114) ?_
      show Steps p.tables e below (T28.setTop (mkF m 115 #[.val (.int p0), .val (.long q1), .second, .val (.ref b1), .val (.int (2 : Int32)), .val (.int (0 : Int32)), .val (.long (8192 : Int64)), .second, .val (.long (8192 : Int64)), .second, .val (.int (0 : Int32)), .val (.int (0 : Int32)), .val (.int (0 : Int32)), .unset] [(.int (1 : Int32))])) _
      refine XS.goto X28.here hx rfl (pc0 := 115) (pc' := 119) rfl (hb hby at_115) (by decide) (by decide) ?_
      show Steps p.tables e below (T28.setTop (mkF m 119 #[.val (.int p0), .val (.long q1), .second, .val (.ref b1), .val (.int (2 : Int32)), .val (.int (0 : Int32)), .val (.long (8192 : Int64)), .second, .val (.long (8192 : Int64)), .second, .val (.int (0 : Int32)), .val (.int (0 : Int32)), .val (.int (0 : Int32)), .unset] [(.int (1 : Int32))])) _
      refine XS.istore X28.here hx rfl (hb hby at_119) rfl (l' := #[.val (.int p0), .val (.long q1), .second, .val (.ref b1), .val (.int (2 : Int32)), .val (.int (0 : Int32)), .val (.long (8192 : Int64)), .second, .val (.long (8192 : Int64)), .second, .val (.int (0 : Int32)), .val (.int (0 : Int32)), .val (.int (0 : Int32)), .val (.int (1 : Int32))]) rfl ?_
      show Steps p.tables e below (T28.setTop (mkF m 121 #[.val (.int p0), .val (.long q1), .second, .val (.ref b1), .val (.int (2 : Int32)), .val (.int (0 : Int32)), .val (.long (8192 : Int64)), .second, .val (.long (8192 : Int64)), .second, .val (.int (0 : Int32)), .val (.int (0 : Int32)), .val (.int (0 : Int32)), .val (.int (1 : Int32))] [])) _
      refine XS.iload X28.here hx rfl (hb hby at_121) rfl ?_
      show Steps p.tables e below (T28.setTop (mkF m 123 #[.val (.int p0), .val (.long q1), .second, .val (.ref b1), .val (.int (2 : Int32)), .val (.int (0 : Int32)), .val (.long (8192 : Int64)), .second, .val (.long (8192 : Int64)), .second, .val (.int (0 : Int32)), .val (.int (0 : Int32)), .val (.int (0 : Int32)), .val (.int (1 : Int32))] [(.int (0 : Int32))])) _
      refine XS.iload X28.here hx rfl (hb hby at_123) rfl ?_
      show Steps p.tables e below (T28.setTop (mkF m 125 #[.val (.int p0), .val (.long q1), .second, .val (.ref b1), .val (.int (2 : Int32)), .val (.int (0 : Int32)), .val (.long (8192 : Int64)), .second, .val (.long (8192 : Int64)), .second, .val (.int (0 : Int32)), .val (.int (0 : Int32)), .val (.int (0 : Int32)), .val (.int (1 : Int32))] [(.int (0 : Int32)), (.int (0 : Int32))])) _
      refine XS.icmpNo X28.here hx rfl (hb hby at_125) rfl (teq (by decide)).2 ?_
      show Steps p.tables e below (T28.setTop (mkF m 128 #[.val (.int p0), .val (.long q1), .second, .val (.ref b1), .val (.int (2 : Int32)), .val (.int (0 : Int32)), .val (.long (8192 : Int64)), .second, .val (.long (8192 : Int64)), .second, .val (.int (0 : Int32)), .val (.int (0 : Int32)), .val (.int (0 : Int32)), .val (.int (1 : Int32))] [])) _
      refine XS.iload X28.here hx rfl (hb hby at_128) rfl ?_
      show Steps p.tables e below (T28.setTop (mkF m 130 #[.val (.int p0), .val (.long q1), .second, .val (.ref b1), .val (.int (2 : Int32)), .val (.int (0 : Int32)), .val (.long (8192 : Int64)), .second, .val (.long (8192 : Int64)), .second, .val (.int (0 : Int32)), .val (.int (0 : Int32)), .val (.int (0 : Int32)), .val (.int (1 : Int32))] [(.int (0 : Int32))])) _
      refine XS.iload X28.here hx rfl (hb hby at_130) rfl ?_
      show Steps p.tables e below (T28.setTop (mkF m 132 #[.val (.int p0), .val (.long q1), .second, .val (.ref b1), .val (.int (2 : Int32)), .val (.int (0 : Int32)), .val (.long (8192 : Int64)), .second, .val (.long (8192 : Int64)), .second, .val (.int (0 : Int32)), .val (.int (0 : Int32)), .val (.int (0 : Int32)), .val (.int (1 : Int32))] [(.int (0 : Int32)), (.int (0 : Int32))])) _
      refine XS.icmpNo X28.here hx rfl (hb hby at_132) rfl (teq (by decide)).2 ?_
      show Steps p.tables e below (T28.setTop (mkF m 135 #[.val (.int p0), .val (.long q1), .second, .val (.ref b1), .val (.int (2 : Int32)), .val (.int (0 : Int32)), .val (.long (8192 : Int64)), .second, .val (.long (8192 : Int64)), .second, .val (.int (0 : Int32)), .val (.int (0 : Int32)), .val (.int (0 : Int32)), .val (.int (1 : Int32))] [])) _
      refine XS.iload X28.here hx rfl (hb hby at_135) rfl ?_
      show Steps p.tables e below (T28.setTop (mkF m 137 #[.val (.int p0), .val (.long q1), .second, .val (.ref b1), .val (.int (2 : Int32)), .val (.int (0 : Int32)), .val (.long (8192 : Int64)), .second, .val (.long (8192 : Int64)), .second, .val (.int (0 : Int32)), .val (.int (0 : Int32)), .val (.int (0 : Int32)), .val (.int (1 : Int32))] [(.int (0 : Int32))])) _
      refine XS.ifNo X28.here hx rfl (hb hby at_137) rfl ((if0 _ _).trans (teq (by decide)).2) ?_
      show Steps p.tables e below (T28.setTop (mkF m 140 #[.val (.int p0), .val (.long q1), .second, .val (.ref b1), .val (.int (2 : Int32)), .val (.int (0 : Int32)), .val (.long (8192 : Int64)), .second, .val (.long (8192 : Int64)), .second, .val (.int (0 : Int32)), .val (.int (0 : Int32)), .val (.int (0 : Int32)), .val (.int (1 : Int32))] [])) _
      refine XS.iload X28.here hx rfl (hb hby at_140) rfl ?_
      show Steps p.tables e below (T28.setTop (mkF m 142 #[.val (.int p0), .val (.long q1), .second, .val (.ref b1), .val (.int (2 : Int32)), .val (.int (0 : Int32)), .val (.long (8192 : Int64)), .second, .val (.long (8192 : Int64)), .second, .val (.int (0 : Int32)), .val (.int (0 : Int32)), .val (.int (0 : Int32)), .val (.int (1 : Int32))] [(.int (1 : Int32))])) _
      refine XS.ifNo X28.here hx rfl (hb hby at_142) rfl ((if0 _ _).trans (feq (by decide)).1) ?_
      show Steps p.tables e below (T28.setTop (mkF m 145 #[.val (.int p0), .val (.long q1), .second, .val (.ref b1), .val (.int (2 : Int32)), .val (.int (0 : Int32)), .val (.long (8192 : Int64)), .second, .val (.long (8192 : Int64)), .second, .val (.int (0 : Int32)), .val (.int (0 : Int32)), .val (.int (0 : Int32)), .val (.int (1 : Int32))] [])) _
      refine XS.iload X28.here hx rfl (hb hby at_145) rfl ?_
      show Steps p.tables e below (T28.setTop (mkF m 147 #[.val (.int p0), .val (.long q1), .second, .val (.ref b1), .val (.int (2 : Int32)), .val (.int (0 : Int32)), .val (.long (8192 : Int64)), .second, .val (.long (8192 : Int64)), .second, .val (.int (0 : Int32)), .val (.int (0 : Int32)), .val (.int (0 : Int32)), .val (.int (1 : Int32))] [(.int (0 : Int32))])) _
      refine XS.ifNo X28.here hx rfl (hb hby at_147) rfl ((if0 _ _).trans (teq (by decide)).2) ?_
      show Steps p.tables e below (T28.setTop (mkF m 150 #[.val (.int p0), .val (.long q1), .second, .val (.ref b1), .val (.int (2 : Int32)), .val (.int (0 : Int32)), .val (.long (8192 : Int64)), .second, .val (.long (8192 : Int64)), .second, .val (.int (0 : Int32)), .val (.int (0 : Int32)), .val (.int (0 : Int32)), .val (.int (1 : Int32))] [])) _
      refine XS.iconst X28.here hx rfl (hb hby at_150) ?_
      show Steps p.tables e below (T28.setTop (mkF m 151 #[.val (.int p0), .val (.long q1), .second, .val (.ref b1), .val (.int (2 : Int32)), .val (.int (0 : Int32)), .val (.long (8192 : Int64)), .second, .val (.long (8192 : Int64)), .second, .val (.int (0 : Int32)), .val (.int (0 : Int32)), .val (.int (0 : Int32)), .val (.int (1 : Int32))] [(.int (1 : Int32))])) _
      refine XS.goto X28.here hx rfl (pc0 := 151) (pc' := 155) rfl (hb hby at_151) (by decide) (by decide) ?_
      show Steps p.tables e below (T28.setTop (mkF m 155 #[.val (.int p0), .val (.long q1), .second, .val (.ref b1), .val (.int (2 : Int32)), .val (.int (0 : Int32)), .val (.long (8192 : Int64)), .second, .val (.long (8192 : Int64)), .second, .val (.int (0 : Int32)), .val (.int (0 : Int32)), .val (.int (0 : Int32)), .val (.int (1 : Int32))] [(.int (1 : Int32))])) _
      exact kZ
    refine Go.retN X28 hx Bd.notSynchronized (t := .boolean) Bd.returns (by simp) (hb hby at_155) (by decide) (by decide) ?_
    exact ⟨rfl, N28⟩
  · rw [hi]
    show Go p e below _ (T3.setTop (mkF m 13 #[.val (.int p0), .val (.long q1), .second, .val (.ref b1), .val (.int (3 : Int32)), .unset, .unset, .unset, .unset, .unset, .unset, .unset, .unset, .unset] []))
    refine Go.via (T' := T3.setTop (mkF m 21 #[.val (.int p0), .val (.long q1), .second, .val (.ref b1), .val (.int (3 : Int32)), .unset, .unset, .unset, .unset, .unset, .unset, .unset, .unset, .unset] [(.long q1), (.ref b1)])) (fun tZ kZ => ?_) ?_
    · show Steps p.tables e below (T3.setTop (mkF m 13 #[.val (.int p0), .val (.long q1), .second, .val (.ref b1), .val (.int (3 : Int32)), .unset, .unset, .unset, .unset, .unset, .unset, .unset, .unset, .unset] [])) _
      refine XS.iload X3.here hx rfl (hb hby at_13) rfl ?_
      show Steps p.tables e below (T3.setTop (mkF m 15 #[.val (.int p0), .val (.long q1), .second, .val (.ref b1), .val (.int (3 : Int32)), .unset, .unset, .unset, .unset, .unset, .unset, .unset, .unset, .unset] [(.int (3 : Int32))])) _
      refine XS.iconst X3.here hx rfl (hb hby at_15) ?_
      show Steps p.tables e below (T3.setTop (mkF m 16 #[.val (.int p0), .val (.long q1), .second, .val (.ref b1), .val (.int (3 : Int32)), .unset, .unset, .unset, .unset, .unset, .unset, .unset, .unset, .unset] [(.int (1 : Int32)), (.int (3 : Int32))])) _
      refine XS.icmpNo X3.here hx rfl (hb hby at_16) rfl (flt (by decide)).1 ?_
      show Steps p.tables e below (T3.setTop (mkF m 19 #[.val (.int p0), .val (.long q1), .second, .val (.ref b1), .val (.int (3 : Int32)), .unset, .unset, .unset, .unset, .unset, .unset, .unset, .unset, .unset] [])) _
      refine XS.aloadN X3.here hx rfl (hb hby at_19) rfl rfl ?_
      show Steps p.tables e below (T3.setTop (mkF m 20 #[.val (.int p0), .val (.long q1), .second, .val (.ref b1), .val (.int (3 : Int32)), .unset, .unset, .unset, .unset, .unset, .unset, .unset, .unset, .unset] [(.ref b1)])) _
      refine XS.lloadN X3.here hx rfl (hb hby at_20) rfl ?_
      show Steps p.tables e below (T3.setTop (mkF m 21 #[.val (.int p0), .val (.long q1), .second, .val (.ref b1), .val (.int (3 : Int32)), .unset, .unset, .unset, .unset, .unset, .unset, .unset, .unset, .unset] [(.long q1), (.ref b1)])) _
      exact kZ
    obtain ⟨cq29, kq29, q29a, q29b, q29c⟩ := isOf hZ rfl f3_0
    obtain ⟨_, _, ⟨T29, L29, k29, n29⟩, -, X29, ⟨Lc29, hQ29, l29, y29, z29⟩, st29⟩ := X3.virtualBack hx (y := (⟨"com/example/idle_surfer/idlesurfer/LongChunks", "add", "(J)V"⟩ : MethodName)) (z := (⟨"com/example/idle_surfer/idlesurfer/LongChunks", "add", "(J)V"⟩ : MethodName)) hown (mvT hZ (hw _ (List.mem_of_getElem? (i := 28) rfl))) (mvT hZ (hw _ (List.mem_of_getElem? (i := 29) rfl))) (notFace_of_selects (args := #[]) (mvT hZ (hw _ (List.mem_of_getElem? (i := 31) rfl)))) (mvT hZ (hw _ (List.mem_of_getElem? (i := 31) rfl))) (mvT hZ (hw _ (List.mem_of_getElem? (i := 30) rfl))) (by decide) (backOf (W := 0) (rm5a l Z a0 hw [] b1 q1 b3_0 (fun _ => Value.null) T3.heap n0 Z3 f3_0 f3_1 f3_2 f3_3 f3_4 f3_6 g_b1 g_b3_0 ne_b1_b3_0) hZ (hw _ (List.mem_of_getElem? (i := 32) rfl)) (hw _ (List.mem_of_getElem? (i := 2) rfl)) (by decide) (by decide)) q29a q29c (g := (mkF m 21 #[.val (.int p0), .val (.long q1), .second, .val (.ref b1), .val (.int (3 : Int32)), .unset, .unset, .unset, .unset, .unset, .unset, .unset, .unset, .unset] [(.long q1), (.ref b1)])) rfl (by rw [hml]; rfl) (Steps.refl _) (argsL := [(.long q1)]) (rest := []) (lenOf pd_3 rfl) rfl (by show 2 * 0 + _ ≤ _; exact Nat.le_of_eq rfl) (hb hby at_21) (fun _ _ => ⟨rfl, rfl, (by decide : 0 + 1 + 1 + 1 ≤ _), (by decide : 0 + 3 + 16 + 1024 ≤ _)⟩)
    dsimp only [Pt.U, Pt.locs, Pt.cells, Pt.slots] at X29 l29 y29 z29 st29 hQ29
    subst l29 y29 z29
    obtain ⟨rfl, N29q, b29_0, hz_b29_0, Kq29, f29_0, f29_1, f29_2, f29_3, f29_4, f29_5, f29_6, f29_7⟩ := hQ29
    have g_b29_0 : n0 ≤ b29_0 := Nat.le_trans Z3 hz_b29_0
    have sz_b29_0 : h0.size ≤ b29_0 := Nat.le_trans (K3).1 hz_b29_0
    have ne_b1_b29_0 : b1 ≠ b29_0 := Nat.ne_of_lt (Nat.lt_of_lt_of_le f3_0.lt hz_b29_0)
    have ne_b3_0_b29_0 : b3_0 ≠ b29_0 := Nat.ne_of_lt (Nat.lt_of_lt_of_le f3_4.lt hz_b29_0)
    have c30_6 := f3_5.keep Kq29
    have K29 : Keep h0 T29.heap [] := K3.trans Kq29 (allS (Or.inr sz_b1) (allS (Or.inr sz_b3_0) all0))
    have Z29 : n0 ≤ T29.heap.size := Nat.le_trans Z3 Kq29.1
    have N29 := Fr.app N3 N29q
    refine Go.via (fun t k => st29.trans k) ?_
    show Go p e below _ (T29.setTop (mkF m 24 #[.val (.int p0), .val (.long q1), .second, .val (.ref b1), .val (.int (3 : Int32)), .unset, .unset, .unset, .unset, .unset, .unset, .unset, .unset, .unset] []))
    refine Go.via (T' := T29.setTop (mkF m 32 #[.val (.int p0), .val (.long q1), .second, .val (.ref b1), .val (.int (3 : Int32)), .unset, .unset, .unset, .unset, .unset, .unset, .unset, .unset, .unset] [(.long q1), (.ref b1)])) (fun tZ kZ => ?_) ?_
    · show Steps p.tables e below (T29.setTop (mkF m 24 #[.val (.int p0), .val (.long q1), .second, .val (.ref b1), .val (.int (3 : Int32)), .unset, .unset, .unset, .unset, .unset, .unset, .unset, .unset, .unset] [])) _
      refine XS.iload X29.here hx rfl (hb hby at_24) rfl ?_
      show Steps p.tables e below (T29.setTop (mkF m 26 #[.val (.int p0), .val (.long q1), .second, .val (.ref b1), .val (.int (3 : Int32)), .unset, .unset, .unset, .unset, .unset, .unset, .unset, .unset, .unset] [(.int (3 : Int32))])) _
      refine XS.iconst X29.here hx rfl (hb hby at_26) ?_
      show Steps p.tables e below (T29.setTop (mkF m 27 #[.val (.int p0), .val (.long q1), .second, .val (.ref b1), .val (.int (3 : Int32)), .unset, .unset, .unset, .unset, .unset, .unset, .unset, .unset, .unset] [(.int (2 : Int32)), (.int (3 : Int32))])) _
      refine XS.icmpNo X29.here hx rfl (hb hby at_27) rfl (flt (by decide)).1 ?_
      show Steps p.tables e below (T29.setTop (mkF m 30 #[.val (.int p0), .val (.long q1), .second, .val (.ref b1), .val (.int (3 : Int32)), .unset, .unset, .unset, .unset, .unset, .unset, .unset, .unset, .unset] [])) _
      refine XS.aloadN X29.here hx rfl (hb hby at_30) rfl rfl ?_
      show Steps p.tables e below (T29.setTop (mkF m 31 #[.val (.int p0), .val (.long q1), .second, .val (.ref b1), .val (.int (3 : Int32)), .unset, .unset, .unset, .unset, .unset, .unset, .unset, .unset, .unset] [(.ref b1)])) _
      refine XS.lloadN X29.here hx rfl (hb hby at_31) rfl ?_
      show Steps p.tables e below (T29.setTop (mkF m 32 #[.val (.int p0), .val (.long q1), .second, .val (.ref b1), .val (.int (3 : Int32)), .unset, .unset, .unset, .unset, .unset, .unset, .unset, .unset, .unset] [(.long q1), (.ref b1)])) _
      exact kZ
    obtain ⟨cq31, kq31, q31a, q31b, q31c⟩ := isOf hZ rfl f29_0
    obtain ⟨_, _, ⟨T31, L31, k31, n31⟩, -, X31, ⟨Lc31, hQ31, l31, y31, z31⟩, st31⟩ := X29.virtualBack hx (y := (⟨"com/example/idle_surfer/idlesurfer/LongChunks", "add", "(J)V"⟩ : MethodName)) (z := (⟨"com/example/idle_surfer/idlesurfer/LongChunks", "add", "(J)V"⟩ : MethodName)) hown (mvT hZ (hw _ (List.mem_of_getElem? (i := 28) rfl))) (mvT hZ (hw _ (List.mem_of_getElem? (i := 29) rfl))) (notFace_of_selects (args := #[]) (mvT hZ (hw _ (List.mem_of_getElem? (i := 31) rfl)))) (mvT hZ (hw _ (List.mem_of_getElem? (i := 31) rfl))) (mvT hZ (hw _ (List.mem_of_getElem? (i := 30) rfl))) (by decide) (backOf (W := 0) (rm5b l Z a0 hw [] b1 q1 b3_0 b29_0 (1 : Int32) (up (fun _ => Value.null) (0 : Int32).toNatClampNeg (.ref b29_0)) (up (fun _ => (0 : Int64)) (0 : Int32).toNatClampNeg q1) T29.heap n0 Z29 f29_0 f29_1 f29_2 f29_3 f29_4 f29_5 g_b1 g_b3_0 f29_7 g_b29_0 ne_b1_b3_0 ne_b1_b29_0 ne_b3_0_b29_0 (by unfold f3; decide) (by simp [up]) (by decide) (by decide)) hZ (hw _ (List.mem_of_getElem? (i := 32) rfl)) (hw _ (List.mem_of_getElem? (i := 2) rfl)) (by decide) (by decide)) q31a q31c (g := (mkF m 32 #[.val (.int p0), .val (.long q1), .second, .val (.ref b1), .val (.int (3 : Int32)), .unset, .unset, .unset, .unset, .unset, .unset, .unset, .unset, .unset] [(.long q1), (.ref b1)])) rfl (by rw [hml]; rfl) (Steps.refl _) (argsL := [(.long q1)]) (rest := []) (lenOf pd_3 rfl) rfl (by show 2 * 0 + _ ≤ _; exact Nat.le_of_eq rfl) (hb hby at_32) (fun _ _ => ⟨rfl, rfl, (by decide : 0 + 1 + 1 + 1 + 0 ≤ _), (by decide : 0 + 3 + 16 + 1024 + 0 ≤ _)⟩)
    dsimp only [Pt.U, Pt.locs, Pt.cells, Pt.slots] at X31 l31 y31 z31 st31 hQ31
    subst l31 y31 z31
    obtain ⟨rfl, N31q, Kq31, f31_0, f31_1, f31_2, f31_3, f31_4, f31_5, f31_6⟩ := hQ31
    have c32_6 := c30_6.keep Kq31
    have c32_9 := f29_6.keep Kq31
    have K31 : Keep h0 T31.heap [] := K29.trans Kq31 (allS (Or.inr sz_b1) (allS (Or.inr sz_b29_0) all0))
    have Z31 : n0 ≤ T31.heap.size := Nat.le_trans Z29 Kq31.1
    have N31 := Fr.app N29 N31q
    refine Go.via (fun t k => st31.trans k) ?_
    show Go p e below _ (T31.setTop (mkF m 35 #[.val (.int p0), .val (.long q1), .second, .val (.ref b1), .val (.int (3 : Int32)), .unset, .unset, .unset, .unset, .unset, .unset, .unset, .unset, .unset] []))
    refine Go.via (T' := T31.setTop (mkF m 43 #[.val (.int p0), .val (.long q1), .second, .val (.ref b1), .val (.int (3 : Int32)), .unset, .unset, .unset, .unset, .unset, .unset, .unset, .unset, .unset] [(.long q1), (.ref b1)])) (fun tZ kZ => ?_) ?_
    · show Steps p.tables e below (T31.setTop (mkF m 35 #[.val (.int p0), .val (.long q1), .second, .val (.ref b1), .val (.int (3 : Int32)), .unset, .unset, .unset, .unset, .unset, .unset, .unset, .unset, .unset] [])) _
      refine XS.iload X31.here hx rfl (hb hby at_35) rfl ?_
      show Steps p.tables e below (T31.setTop (mkF m 37 #[.val (.int p0), .val (.long q1), .second, .val (.ref b1), .val (.int (3 : Int32)), .unset, .unset, .unset, .unset, .unset, .unset, .unset, .unset, .unset] [(.int (3 : Int32))])) _
      refine XS.iconst X31.here hx rfl (hb hby at_37) ?_
      show Steps p.tables e below (T31.setTop (mkF m 38 #[.val (.int p0), .val (.long q1), .second, .val (.ref b1), .val (.int (3 : Int32)), .unset, .unset, .unset, .unset, .unset, .unset, .unset, .unset, .unset] [(.int (3 : Int32)), (.int (3 : Int32))])) _
      refine XS.icmpNo X31.here hx rfl (hb hby at_38) rfl (flt (by decide)).1 ?_
      show Steps p.tables e below (T31.setTop (mkF m 41 #[.val (.int p0), .val (.long q1), .second, .val (.ref b1), .val (.int (3 : Int32)), .unset, .unset, .unset, .unset, .unset, .unset, .unset, .unset, .unset] [])) _
      refine XS.aloadN X31.here hx rfl (hb hby at_41) rfl rfl ?_
      show Steps p.tables e below (T31.setTop (mkF m 42 #[.val (.int p0), .val (.long q1), .second, .val (.ref b1), .val (.int (3 : Int32)), .unset, .unset, .unset, .unset, .unset, .unset, .unset, .unset, .unset] [(.ref b1)])) _
      refine XS.lloadN X31.here hx rfl (hb hby at_42) rfl ?_
      show Steps p.tables e below (T31.setTop (mkF m 43 #[.val (.int p0), .val (.long q1), .second, .val (.ref b1), .val (.int (3 : Int32)), .unset, .unset, .unset, .unset, .unset, .unset, .unset, .unset, .unset] [(.long q1), (.ref b1)])) _
      exact kZ
    obtain ⟨cq33, kq33, q33a, q33b, q33c⟩ := isOf hZ rfl f31_0
    obtain ⟨_, _, ⟨T33, L33, k33, n33⟩, -, X33, ⟨Lc33, hQ33, l33, y33, z33⟩, st33⟩ := X31.virtualBack hx (y := (⟨"com/example/idle_surfer/idlesurfer/LongChunks", "add", "(J)V"⟩ : MethodName)) (z := (⟨"com/example/idle_surfer/idlesurfer/LongChunks", "add", "(J)V"⟩ : MethodName)) hown (mvT hZ (hw _ (List.mem_of_getElem? (i := 28) rfl))) (mvT hZ (hw _ (List.mem_of_getElem? (i := 29) rfl))) (notFace_of_selects (args := #[]) (mvT hZ (hw _ (List.mem_of_getElem? (i := 31) rfl)))) (mvT hZ (hw _ (List.mem_of_getElem? (i := 31) rfl))) (mvT hZ (hw _ (List.mem_of_getElem? (i := 30) rfl))) (by decide) (backOf (W := 0) (rm5b l Z a0 hw [] b1 q1 b3_0 b29_0 (2 : Int32) (up (fun _ => Value.null) (0 : Int32).toNatClampNeg (.ref b29_0)) (up (up (fun _ => (0 : Int64)) (0 : Int32).toNatClampNeg q1) (1 : Int32).toNatClampNeg q1) T31.heap n0 Z31 f31_0 f31_1 f31_2 f31_3 f31_4 f31_5 g_b1 g_b3_0 f31_6 g_b29_0 ne_b1_b3_0 ne_b1_b29_0 ne_b3_0_b29_0 (by unfold f3; decide) (by simp [up]) (by decide) (by decide)) hZ (hw _ (List.mem_of_getElem? (i := 32) rfl)) (hw _ (List.mem_of_getElem? (i := 2) rfl)) (by decide) (by decide)) q33a q33c (g := (mkF m 43 #[.val (.int p0), .val (.long q1), .second, .val (.ref b1), .val (.int (3 : Int32)), .unset, .unset, .unset, .unset, .unset, .unset, .unset, .unset, .unset] [(.long q1), (.ref b1)])) rfl (by rw [hml]; rfl) (Steps.refl _) (argsL := [(.long q1)]) (rest := []) (lenOf pd_3 rfl) rfl (by show 2 * 0 + _ ≤ _; exact Nat.le_of_eq rfl) (hb hby at_43) (fun _ _ => ⟨rfl, rfl, (by decide : 0 + 1 + 1 + 1 + 0 + 0 ≤ _), (by decide : 0 + 3 + 16 + 1024 + 0 + 0 ≤ _)⟩)
    dsimp only [Pt.U, Pt.locs, Pt.cells, Pt.slots] at X33 l33 y33 z33 st33 hQ33
    subst l33 y33 z33
    obtain ⟨rfl, N33q, Kq33, f33_0, f33_1, f33_2, f33_3, f33_4, f33_5, f33_6⟩ := hQ33
    have c34_6 := c32_6.keep Kq33
    have c34_9 := c32_9.keep Kq33
    have K33 : Keep h0 T33.heap [] := K31.trans Kq33 (allS (Or.inr sz_b1) (allS (Or.inr sz_b29_0) all0))
    have Z33 : n0 ≤ T33.heap.size := Nat.le_trans Z31 Kq33.1
    have N33 := Fr.app N31 N33q
    refine Go.via (fun t k => st33.trans k) ?_
    show Go p e below _ (T33.setTop (mkF m 46 #[.val (.int p0), .val (.long q1), .second, .val (.ref b1), .val (.int (3 : Int32)), .unset, .unset, .unset, .unset, .unset, .unset, .unset, .unset, .unset] []))
    refine Go.via (T' := T33.setTop (mkF m 47 #[.val (.int p0), .val (.long q1), .second, .val (.ref b1), .val (.int (3 : Int32)), .unset, .unset, .unset, .unset, .unset, .unset, .unset, .unset, .unset] [(.ref b1)])) (fun tZ kZ => ?_) ?_
    · show Steps p.tables e below (T33.setTop (mkF m 46 #[.val (.int p0), .val (.long q1), .second, .val (.ref b1), .val (.int (3 : Int32)), .unset, .unset, .unset, .unset, .unset, .unset, .unset, .unset, .unset] [])) _
      refine XS.aloadN X33.here hx rfl (hb hby at_46) rfl rfl ?_
      show Steps p.tables e below (T33.setTop (mkF m 47 #[.val (.int p0), .val (.long q1), .second, .val (.ref b1), .val (.int (3 : Int32)), .unset, .unset, .unset, .unset, .unset, .unset, .unset, .unset, .unset] [(.ref b1)])) _
      exact kZ
    obtain ⟨cq35, kq35, q35a, q35b, q35c⟩ := isOf hZ rfl f33_0
    obtain ⟨_, _, ⟨T35, L35, k35, n35⟩, -, X35, ⟨Lc35, hQ35, l35, y35, z35⟩, st35⟩ := X33.virtualBack hx (y := (⟨"com/example/idle_surfer/idlesurfer/LongChunks", "full", "()Z"⟩ : MethodName)) (z := (⟨"com/example/idle_surfer/idlesurfer/LongChunks", "full", "()Z"⟩ : MethodName)) hown (mvT hZ (hw _ (List.mem_of_getElem? (i := 13) rfl))) (mvT hZ (hw _ (List.mem_of_getElem? (i := 14) rfl))) (notFace_of_selects (args := #[]) (mvT hZ (hw _ (List.mem_of_getElem? (i := 16) rfl)))) (mvT hZ (hw _ (List.mem_of_getElem? (i := 16) rfl))) (mvT hZ (hw _ (List.mem_of_getElem? (i := 15) rfl))) (by decide) (backOf (W := 0) (rm3 l Z a0 hw [] b1 (3 : Int32) (1 : Int32) T33.heap n0 Z33 f33_2 f33_3) hZ (hw _ (List.mem_of_getElem? (i := 17) rfl)) (hw _ (List.mem_of_getElem? (i := 2) rfl)) (by decide) (by decide)) q35a q35c (g := (mkF m 47 #[.val (.int p0), .val (.long q1), .second, .val (.ref b1), .val (.int (3 : Int32)), .unset, .unset, .unset, .unset, .unset, .unset, .unset, .unset, .unset] [(.ref b1)])) rfl (by rw [hml]; rfl) (Steps.refl _) (argsL := []) (rest := []) (lenOf pd_1 rfl) rfl (by show 2 * 0 + _ ≤ _; exact Nat.le_of_eq rfl) (hb hby at_47) (fun _ _ => ⟨rfl, rfl, (by decide : 0 + 1 + 1 + 1 + 0 + 0 + 0 ≤ _), (by decide : 0 + 3 + 16 + 1024 + 0 + 0 + 0 ≤ _)⟩)
    dsimp only [Pt.U, Pt.locs, Pt.cells, Pt.slots] at X35 l35 y35 z35 st35 hQ35
    subst l35 y35 z35
    obtain ⟨rfl, N35q, e35⟩ := hQ35
    have hv35 : (f3 b1 (3 : Int32) (1 : Int32)) = (0 : Int32) := by unfold f3; decide
    rw [hv35] at st35
    have N35 := Fr.app N33 N35q
    refine Go.via (fun t k => st35.trans k) ?_
    show Go p e below _ (T35.setTop (mkF m 50 #[.val (.int p0), .val (.long q1), .second, .val (.ref b1), .val (.int (3 : Int32)), .unset, .unset, .unset, .unset, .unset, .unset, .unset, .unset, .unset] [(.int (0 : Int32))]))
    refine Go.via (T' := T35.setTop (mkF m 53 #[.val (.int p0), .val (.long q1), .second, .val (.ref b1), .val (.int (3 : Int32)), .val (.int (0 : Int32)), .unset, .unset, .unset, .unset, .unset, .unset, .unset, .unset] [(.ref b1)])) (fun tZ kZ => ?_) ?_
    · show Steps p.tables e below (T35.setTop (mkF m 50 #[.val (.int p0), .val (.long q1), .second, .val (.ref b1), .val (.int (3 : Int32)), .unset, .unset, .unset, .unset, .unset, .unset, .unset, .unset, .unset] [(.int (0 : Int32))])) _
      refine XS.istore X35.here hx rfl (hb hby at_50) rfl (l' := #[.val (.int p0), .val (.long q1), .second, .val (.ref b1), .val (.int (3 : Int32)), .val (.int (0 : Int32)), .unset, .unset, .unset, .unset, .unset, .unset, .unset, .unset]) rfl ?_
      show Steps p.tables e below (T35.setTop (mkF m 52 #[.val (.int p0), .val (.long q1), .second, .val (.ref b1), .val (.int (3 : Int32)), .val (.int (0 : Int32)), .unset, .unset, .unset, .unset, .unset, .unset, .unset, .unset] [])) _
      refine XS.aloadN X35.here hx rfl (hb hby at_52) rfl rfl ?_
      show Steps p.tables e below (T35.setTop (mkF m 53 #[.val (.int p0), .val (.long q1), .second, .val (.ref b1), .val (.int (3 : Int32)), .val (.int (0 : Int32)), .unset, .unset, .unset, .unset, .unset, .unset, .unset, .unset] [(.ref b1)])) _
      exact kZ
    obtain ⟨cq36, kq36, q36a, q36b, q36c⟩ := isOf hZ e35 f33_0
    obtain ⟨_, _, ⟨T36, L36, k36, n36⟩, -, X36, ⟨Lc36, hQ36, l36, y36, z36⟩, st36⟩ := X35.virtualBack hx (y := (⟨"com/example/idle_surfer/idlesurfer/LongChunks", "bytes", "()J"⟩ : MethodName)) (z := (⟨"com/example/idle_surfer/idlesurfer/LongChunks", "bytes", "()J"⟩ : MethodName)) hown (mvT hZ (hw _ (List.mem_of_getElem? (i := 22) rfl))) (mvT hZ (hw _ (List.mem_of_getElem? (i := 23) rfl))) (notFace_of_selects (args := #[]) (mvT hZ (hw _ (List.mem_of_getElem? (i := 25) rfl)))) (mvT hZ (hw _ (List.mem_of_getElem? (i := 25) rfl))) (mvT hZ (hw _ (List.mem_of_getElem? (i := 24) rfl))) (by decide) (backOf (W := 0) (rm4 l Z a0 hw [] b1 (1 : Int32) T33.heap n0 Z33 f33_3) hZ (hw _ (List.mem_of_getElem? (i := 26) rfl)) (hw _ (List.mem_of_getElem? (i := 2) rfl)) (by decide) (by decide)) q36a q36c (g := (mkF m 53 #[.val (.int p0), .val (.long q1), .second, .val (.ref b1), .val (.int (3 : Int32)), .val (.int (0 : Int32)), .unset, .unset, .unset, .unset, .unset, .unset, .unset, .unset] [(.ref b1)])) rfl (by rw [hml]; rfl) (Steps.refl _) (argsL := []) (rest := []) (lenOf pd_2 rfl) rfl (by show 2 * 0 + _ ≤ _; exact Nat.le_of_eq rfl) (hb hby at_53) (fun _ _ => ⟨rfl, e35, (by decide : 0 + 1 + 1 + 1 + 0 + 0 + 0 + 0 ≤ _), (by decide : 0 + 3 + 16 + 1024 + 0 + 0 + 0 + 0 ≤ _)⟩)
    dsimp only [Pt.U, Pt.locs, Pt.cells, Pt.slots] at X36 l36 y36 z36 st36 hQ36
    subst l36 y36 z36
    obtain ⟨rfl, N36q, e36⟩ := hQ36
    have N36 := Fr.app N35 N36q
    refine Go.via (fun t k => st36.trans k) ?_
    show Go p e below _ (T36.setTop (mkF m 56 #[.val (.int p0), .val (.long q1), .second, .val (.ref b1), .val (.int (3 : Int32)), .val (.int (0 : Int32)), .unset, .unset, .unset, .unset, .unset, .unset, .unset, .unset] [(.long (8192 : Int64))]))
    refine Go.via (T' := T36.setTop (mkF m 60 #[.val (.int p0), .val (.long q1), .second, .val (.ref b1), .val (.int (3 : Int32)), .val (.int (0 : Int32)), .val (.long (8192 : Int64)), .second, .unset, .unset, .unset, .unset, .unset, .unset] [(.long q1), (.ref b1)])) (fun tZ kZ => ?_) ?_
    · show Steps p.tables e below (T36.setTop (mkF m 56 #[.val (.int p0), .val (.long q1), .second, .val (.ref b1), .val (.int (3 : Int32)), .val (.int (0 : Int32)), .unset, .unset, .unset, .unset, .unset, .unset, .unset, .unset] [(.long (8192 : Int64))])) _
      refine XS.lstore X36.here hx rfl (hb hby at_56) rfl (l' := #[.val (.int p0), .val (.long q1), .second, .val (.ref b1), .val (.int (3 : Int32)), .val (.int (0 : Int32)), .val (.long (8192 : Int64)), .second, .unset, .unset, .unset, .unset, .unset, .unset]) rfl ?_
      show Steps p.tables e below (T36.setTop (mkF m 58 #[.val (.int p0), .val (.long q1), .second, .val (.ref b1), .val (.int (3 : Int32)), .val (.int (0 : Int32)), .val (.long (8192 : Int64)), .second, .unset, .unset, .unset, .unset, .unset, .unset] [])) _
      refine XS.aloadN X36.here hx rfl (hb hby at_58) rfl rfl ?_
      show Steps p.tables e below (T36.setTop (mkF m 59 #[.val (.int p0), .val (.long q1), .second, .val (.ref b1), .val (.int (3 : Int32)), .val (.int (0 : Int32)), .val (.long (8192 : Int64)), .second, .unset, .unset, .unset, .unset, .unset, .unset] [(.ref b1)])) _
      refine XS.lloadN X36.here hx rfl (hb hby at_59) rfl ?_
      show Steps p.tables e below (T36.setTop (mkF m 60 #[.val (.int p0), .val (.long q1), .second, .val (.ref b1), .val (.int (3 : Int32)), .val (.int (0 : Int32)), .val (.long (8192 : Int64)), .second, .unset, .unset, .unset, .unset, .unset, .unset] [(.long q1), (.ref b1)])) _
      exact kZ
    obtain ⟨cq37, kq37, q37a, q37b, q37c⟩ := isOf hZ e36 f33_0
    obtain ⟨_, _, ⟨T37, L37, k37, n37⟩, -, X37, ⟨Lc37, hQ37, l37, y37, z37⟩, st37⟩ := X36.virtualBack hx (y := (⟨"com/example/idle_surfer/idlesurfer/LongChunks", "add", "(J)V"⟩ : MethodName)) (z := (⟨"com/example/idle_surfer/idlesurfer/LongChunks", "add", "(J)V"⟩ : MethodName)) hown (mvT hZ (hw _ (List.mem_of_getElem? (i := 28) rfl))) (mvT hZ (hw _ (List.mem_of_getElem? (i := 29) rfl))) (notFace_of_selects (args := #[]) (mvT hZ (hw _ (List.mem_of_getElem? (i := 31) rfl)))) (mvT hZ (hw _ (List.mem_of_getElem? (i := 31) rfl))) (mvT hZ (hw _ (List.mem_of_getElem? (i := 30) rfl))) (by decide) (backOf (W := 0) (rm5b l Z a0 hw [] b1 q1 b3_0 b29_0 (3 : Int32) (up (fun _ => Value.null) (0 : Int32).toNatClampNeg (.ref b29_0)) (up (up (up (fun _ => (0 : Int64)) (0 : Int32).toNatClampNeg q1) (1 : Int32).toNatClampNeg q1) (2 : Int32).toNatClampNeg q1) T33.heap n0 Z33 f33_0 f33_1 f33_2 f33_3 f33_4 f33_5 g_b1 g_b3_0 f33_6 g_b29_0 ne_b1_b3_0 ne_b1_b29_0 ne_b3_0_b29_0 (by unfold f3; decide) (by simp [up]) (by decide) (by decide)) hZ (hw _ (List.mem_of_getElem? (i := 32) rfl)) (hw _ (List.mem_of_getElem? (i := 2) rfl)) (by decide) (by decide)) q37a q37c (g := (mkF m 60 #[.val (.int p0), .val (.long q1), .second, .val (.ref b1), .val (.int (3 : Int32)), .val (.int (0 : Int32)), .val (.long (8192 : Int64)), .second, .unset, .unset, .unset, .unset, .unset, .unset] [(.long q1), (.ref b1)])) rfl (by rw [hml]; rfl) (Steps.refl _) (argsL := [(.long q1)]) (rest := []) (lenOf pd_3 rfl) rfl (by show 2 * 0 + _ ≤ _; exact Nat.le_of_eq rfl) (hb hby at_60) (fun _ _ => ⟨rfl, e36, (by decide : 0 + 1 + 1 + 1 + 0 + 0 + 0 + 0 + 0 ≤ _), (by decide : 0 + 3 + 16 + 1024 + 0 + 0 + 0 + 0 + 0 ≤ _)⟩)
    dsimp only [Pt.U, Pt.locs, Pt.cells, Pt.slots] at X37 l37 y37 z37 st37 hQ37
    subst l37 y37 z37
    obtain ⟨rfl, N37q, Kq37, f37_0, f37_1, f37_2, f37_3, f37_4, f37_5, f37_6⟩ := hQ37
    have c38_6 := c34_6.keep Kq37
    have c38_9 := c34_9.keep Kq37
    have K37 : Keep h0 T37.heap [] := K33.trans Kq37 (allS (Or.inr sz_b1) (allS (Or.inr sz_b29_0) all0))
    have Z37 : n0 ≤ T37.heap.size := Nat.le_trans Z33 Kq37.1
    have N37 := Fr.app N36 N37q
    refine Go.via (fun t k => st37.trans k) ?_
    show Go p e below _ (T37.setTop (mkF m 63 #[.val (.int p0), .val (.long q1), .second, .val (.ref b1), .val (.int (3 : Int32)), .val (.int (0 : Int32)), .val (.long (8192 : Int64)), .second, .unset, .unset, .unset, .unset, .unset, .unset] []))
    refine Go.via (T' := T37.setTop (mkF m 64 #[.val (.int p0), .val (.long q1), .second, .val (.ref b1), .val (.int (3 : Int32)), .val (.int (0 : Int32)), .val (.long (8192 : Int64)), .second, .unset, .unset, .unset, .unset, .unset, .unset] [(.ref b1)])) (fun tZ kZ => ?_) ?_
    · show Steps p.tables e below (T37.setTop (mkF m 63 #[.val (.int p0), .val (.long q1), .second, .val (.ref b1), .val (.int (3 : Int32)), .val (.int (0 : Int32)), .val (.long (8192 : Int64)), .second, .unset, .unset, .unset, .unset, .unset, .unset] [])) _
      refine XS.aloadN X37.here hx rfl (hb hby at_63) rfl rfl ?_
      show Steps p.tables e below (T37.setTop (mkF m 64 #[.val (.int p0), .val (.long q1), .second, .val (.ref b1), .val (.int (3 : Int32)), .val (.int (0 : Int32)), .val (.long (8192 : Int64)), .second, .unset, .unset, .unset, .unset, .unset, .unset] [(.ref b1)])) _
      exact kZ
    obtain ⟨cq39, kq39, q39a, q39b, q39c⟩ := isOf hZ rfl f37_0
    obtain ⟨_, _, ⟨T39, L39, k39, n39⟩, -, X39, ⟨Lc39, hQ39, l39, y39, z39⟩, st39⟩ := X37.virtualBack hx (y := (⟨"com/example/idle_surfer/idlesurfer/LongChunks", "bytes", "()J"⟩ : MethodName)) (z := (⟨"com/example/idle_surfer/idlesurfer/LongChunks", "bytes", "()J"⟩ : MethodName)) hown (mvT hZ (hw _ (List.mem_of_getElem? (i := 22) rfl))) (mvT hZ (hw _ (List.mem_of_getElem? (i := 23) rfl))) (notFace_of_selects (args := #[]) (mvT hZ (hw _ (List.mem_of_getElem? (i := 25) rfl)))) (mvT hZ (hw _ (List.mem_of_getElem? (i := 25) rfl))) (mvT hZ (hw _ (List.mem_of_getElem? (i := 24) rfl))) (by decide) (backOf (W := 0) (rm4 l Z a0 hw [] b1 (1 : Int32) T37.heap n0 Z37 f37_3) hZ (hw _ (List.mem_of_getElem? (i := 26) rfl)) (hw _ (List.mem_of_getElem? (i := 2) rfl)) (by decide) (by decide)) q39a q39c (g := (mkF m 64 #[.val (.int p0), .val (.long q1), .second, .val (.ref b1), .val (.int (3 : Int32)), .val (.int (0 : Int32)), .val (.long (8192 : Int64)), .second, .unset, .unset, .unset, .unset, .unset, .unset] [(.ref b1)])) rfl (by rw [hml]; rfl) (Steps.refl _) (argsL := []) (rest := []) (lenOf pd_2 rfl) rfl (by show 2 * 0 + _ ≤ _; exact Nat.le_of_eq rfl) (hb hby at_64) (fun _ _ => ⟨rfl, rfl, (by decide : 0 + 1 + 1 + 1 + 0 + 0 + 0 + 0 + 0 + 0 ≤ _), (by decide : 0 + 3 + 16 + 1024 + 0 + 0 + 0 + 0 + 0 + 0 ≤ _)⟩)
    dsimp only [Pt.U, Pt.locs, Pt.cells, Pt.slots] at X39 l39 y39 z39 st39 hQ39
    subst l39 y39 z39
    obtain ⟨rfl, N39q, e39⟩ := hQ39
    have N39 := Fr.app N37 N39q
    refine Go.via (fun t k => st39.trans k) ?_
    show Go p e below _ (T39.setTop (mkF m 67 #[.val (.int p0), .val (.long q1), .second, .val (.ref b1), .val (.int (3 : Int32)), .val (.int (0 : Int32)), .val (.long (8192 : Int64)), .second, .unset, .unset, .unset, .unset, .unset, .unset] [(.long (8192 : Int64))]))
    refine Go.via (T' := T39.setTop (mkF m 70 #[.val (.int p0), .val (.long q1), .second, .val (.ref b1), .val (.int (3 : Int32)), .val (.int (0 : Int32)), .val (.long (8192 : Int64)), .second, .val (.long (8192 : Int64)), .second, .unset, .unset, .unset, .unset] [(.ref b1)])) (fun tZ kZ => ?_) ?_
    · show Steps p.tables e below (T39.setTop (mkF m 67 #[.val (.int p0), .val (.long q1), .second, .val (.ref b1), .val (.int (3 : Int32)), .val (.int (0 : Int32)), .val (.long (8192 : Int64)), .second, .unset, .unset, .unset, .unset, .unset, .unset] [(.long (8192 : Int64))])) _
      refine XS.lstore X39.here hx rfl (hb hby at_67) rfl (l' := #[.val (.int p0), .val (.long q1), .second, .val (.ref b1), .val (.int (3 : Int32)), .val (.int (0 : Int32)), .val (.long (8192 : Int64)), .second, .val (.long (8192 : Int64)), .second, .unset, .unset, .unset, .unset]) rfl ?_
      show Steps p.tables e below (T39.setTop (mkF m 69 #[.val (.int p0), .val (.long q1), .second, .val (.ref b1), .val (.int (3 : Int32)), .val (.int (0 : Int32)), .val (.long (8192 : Int64)), .second, .val (.long (8192 : Int64)), .second, .unset, .unset, .unset, .unset] [])) _
      refine XS.aloadN X39.here hx rfl (hb hby at_69) rfl rfl ?_
      show Steps p.tables e below (T39.setTop (mkF m 70 #[.val (.int p0), .val (.long q1), .second, .val (.ref b1), .val (.int (3 : Int32)), .val (.int (0 : Int32)), .val (.long (8192 : Int64)), .second, .val (.long (8192 : Int64)), .second, .unset, .unset, .unset, .unset] [(.ref b1)])) _
      exact kZ
    obtain ⟨cq40, kq40, q40a, q40b, q40c⟩ := isOf hZ e39 f37_0
    obtain ⟨_, _, ⟨T40, L40, k40, n40⟩, -, X40, ⟨Lc40, hQ40, l40, y40, z40⟩, st40⟩ := X39.virtualBack hx (y := (⟨"com/example/idle_surfer/idlesurfer/LongChunks", "full", "()Z"⟩ : MethodName)) (z := (⟨"com/example/idle_surfer/idlesurfer/LongChunks", "full", "()Z"⟩ : MethodName)) hown (mvT hZ (hw _ (List.mem_of_getElem? (i := 13) rfl))) (mvT hZ (hw _ (List.mem_of_getElem? (i := 14) rfl))) (notFace_of_selects (args := #[]) (mvT hZ (hw _ (List.mem_of_getElem? (i := 16) rfl)))) (mvT hZ (hw _ (List.mem_of_getElem? (i := 16) rfl))) (mvT hZ (hw _ (List.mem_of_getElem? (i := 15) rfl))) (by decide) (backOf (W := 0) (rm3 l Z a0 hw [] b1 (4 : Int32) (1 : Int32) T37.heap n0 Z37 f37_2 f37_3) hZ (hw _ (List.mem_of_getElem? (i := 17) rfl)) (hw _ (List.mem_of_getElem? (i := 2) rfl)) (by decide) (by decide)) q40a q40c (g := (mkF m 70 #[.val (.int p0), .val (.long q1), .second, .val (.ref b1), .val (.int (3 : Int32)), .val (.int (0 : Int32)), .val (.long (8192 : Int64)), .second, .val (.long (8192 : Int64)), .second, .unset, .unset, .unset, .unset] [(.ref b1)])) rfl (by rw [hml]; rfl) (Steps.refl _) (argsL := []) (rest := []) (lenOf pd_1 rfl) rfl (by show 2 * 0 + _ ≤ _; exact Nat.le_of_eq rfl) (hb hby at_70) (fun _ _ => ⟨rfl, e39, (by decide : 0 + 1 + 1 + 1 + 0 + 0 + 0 + 0 + 0 + 0 + 0 ≤ _), (by decide : 0 + 3 + 16 + 1024 + 0 + 0 + 0 + 0 + 0 + 0 + 0 ≤ _)⟩)
    dsimp only [Pt.U, Pt.locs, Pt.cells, Pt.slots] at X40 l40 y40 z40 st40 hQ40
    subst l40 y40 z40
    obtain ⟨rfl, N40q, e40⟩ := hQ40
    have hv40 : (f3 b1 (4 : Int32) (1 : Int32)) = (0 : Int32) := by unfold f3; decide
    rw [hv40] at st40
    have N40 := Fr.app N39 N40q
    refine Go.via (fun t k => st40.trans k) ?_
    show Go p e below _ (T40.setTop (mkF m 73 #[.val (.int p0), .val (.long q1), .second, .val (.ref b1), .val (.int (3 : Int32)), .val (.int (0 : Int32)), .val (.long (8192 : Int64)), .second, .val (.long (8192 : Int64)), .second, .unset, .unset, .unset, .unset] [(.int (0 : Int32))]))
    refine Go.via (T' := T40.setTop (mkF m 155 #[.val (.int p0), .val (.long q1), .second, .val (.ref b1), .val (.int (3 : Int32)), .val (.int (0 : Int32)), .val (.long (8192 : Int64)), .second, .val (.long (8192 : Int64)), .second, .val (.int (0 : Int32)), .val (.int (0 : Int32)), .val (.int (0 : Int32)), .val (.int (1 : Int32))] [(.int (1 : Int32))])) (fun tZ kZ => ?_) ?_
    · show Steps p.tables e below (T40.setTop (mkF m 73 #[.val (.int p0), .val (.long q1), .second, .val (.ref b1), .val (.int (3 : Int32)), .val (.int (0 : Int32)), .val (.long (8192 : Int64)), .second, .val (.long (8192 : Int64)), .second, .unset, .unset, .unset, .unset] [(.int (0 : Int32))])) _
      refine XS.istore X40.here hx rfl (hb hby at_73) rfl (l' := #[.val (.int p0), .val (.long q1), .second, .val (.ref b1), .val (.int (3 : Int32)), .val (.int (0 : Int32)), .val (.long (8192 : Int64)), .second, .val (.long (8192 : Int64)), .second, .val (.int (0 : Int32)), .unset, .unset, .unset]) rfl ?_
      show Steps p.tables e below (T40.setTop (mkF m 75 #[.val (.int p0), .val (.long q1), .second, .val (.ref b1), .val (.int (3 : Int32)), .val (.int (0 : Int32)), .val (.long (8192 : Int64)), .second, .val (.long (8192 : Int64)), .second, .val (.int (0 : Int32)), .unset, .unset, .unset] [])) _
      refine XS.iload X40.here hx rfl (hb hby at_75) rfl ?_
      show Steps p.tables e below (T40.setTop (mkF m 77 #[.val (.int p0), .val (.long q1), .second, .val (.ref b1), .val (.int (3 : Int32)), .val (.int (0 : Int32)), .val (.long (8192 : Int64)), .second, .val (.long (8192 : Int64)), .second, .val (.int (0 : Int32)), .unset, .unset, .unset] [(.int (3 : Int32))])) _
      refine XS.ifYes X40.here hx rfl (pc0 := 77) (pc' := 84) rfl (hb hby at_77) rfl ((if0 _ _).trans (feq (by decide)).2) (by decide) (by decide) ?_
      show Steps p.tables e below (T40.setTop (mkF m 84 #[.val (.int p0), .val (.long q1), .second, .val (.ref b1), .val (.int (3 : Int32)), .val (.int (0 : Int32)), .val (.long (8192 : Int64)), .second, .val (.long (8192 : Int64)), .second, .val (.int (0 : Int32)), .unset, .unset, .unset] [])) _
      refine XS.iconst X40.here hx rfl (hb hby at_84) ?_
      show Steps p.tables e below (T40.setTop (mkF m 85 #[.val (.int p0), .val (.long q1), .second, .val (.ref b1), .val (.int (3 : Int32)), .val (.int (0 : Int32)), .val (.long (8192 : Int64)), .second, .val (.long (8192 : Int64)), .second, .val (.int (0 : Int32)), .unset, .unset, .unset] [(.int (0 : Int32))])) _
      refine XS.istore X40.here hx rfl (hb hby at_85) rfl (l' := #[.val (.int p0), .val (.long q1), .second, .val (.ref b1), .val (.int (3 : Int32)), .val (.int (0 : Int32)), .val (.long (8192 : Int64)), .second, .val (.long (8192 : Int64)), .second, .val (.int (0 : Int32)), .val (.int (0 : Int32)), .unset, .unset]) rfl ?_
      show Steps p.tables e below (T40.setTop (mkF m 87 #[.val (.int p0), .val (.long q1), .second, .val (.ref b1), .val (.int (3 : Int32)), .val (.int (0 : Int32)), .val (.long (8192 : Int64)), .second, .val (.long (8192 : Int64)), .second, .val (.int (0 : Int32)), .val (.int (0 : Int32)), .unset, .unset] [])) _
      refine XS.lload X40.here hx rfl (hb hby at_87) rfl ?_
      show Steps p.tables e below (T40.setTop (mkF m 89 #[.val (.int p0), .val (.long q1), .second, .val (.ref b1), .val (.int (3 : Int32)), .val (.int (0 : Int32)), .val (.long (8192 : Int64)), .second, .val (.long (8192 : Int64)), .second, .val (.int (0 : Int32)), .val (.int (0 : Int32)), .unset, .unset] [(.long (8192 : Int64))])) _
      refine XS.lload X40.here hx rfl (hb hby at_89) rfl ?_
      show Steps p.tables e below (T40.setTop (mkF m 91 #[.val (.int p0), .val (.long q1), .second, .val (.ref b1), .val (.int (3 : Int32)), .val (.int (0 : Int32)), .val (.long (8192 : Int64)), .second, .val (.long (8192 : Int64)), .second, .val (.int (0 : Int32)), .val (.int (0 : Int32)), .unset, .unset] [(.long (8192 : Int64)), (.long (8192 : Int64))])) _
      refine X40.ldc2Long hx hown (mvT hZ (hw _ (List.mem_of_getElem? (i := 41) rfl))) (g := (mkF m 91 #[.val (.int p0), .val (.long q1), .second, .val (.ref b1), .val (.int (3 : Int32)), .val (.int (0 : Int32)), .val (.long (8192 : Int64)), .second, .val (.long (8192 : Int64)), .second, .val (.int (0 : Int32)), .val (.int (0 : Int32)), .unset, .unset] [(.long (8192 : Int64)), (.long (8192 : Int64))])) rfl (hb hby at_91) _ ?_
      show Steps p.tables e below (T40.setTop (mkF m 94 #[.val (.int p0), .val (.long q1), .second, .val (.ref b1), .val (.int (3 : Int32)), .val (.int (0 : Int32)), .val (.long (8192 : Int64)), .second, .val (.long (8192 : Int64)), .second, .val (.int (0 : Int32)), .val (.int (0 : Int32)), .unset, .unset] [(.long (8192 : Int64)), (.long (8192 : Int64)), (.long (8192 : Int64))])) _
      refine XS.ladd X40.here hx rfl (hb hby at_94) rfl ?_
      show Steps p.tables e below (T40.setTop (mkF m 95 #[.val (.int p0), .val (.long q1), .second, .val (.ref b1), .val (.int (3 : Int32)), .val (.int (0 : Int32)), .val (.long (8192 : Int64)), .second, .val (.long (8192 : Int64)), .second, .val (.int (0 : Int32)), .val (.int (0 : Int32)), .unset, .unset] [(.long (16384 : Int64)), (.long (8192 : Int64))])) _
      refine XS.lcmp X40.here hx rfl (hb hby at_95) rfl ?_
      show Steps p.tables e below (T40.setTop (mkF m 96 #[.val (.int p0), .val (.long q1), .second, .val (.ref b1), .val (.int (3 : Int32)), .val (.int (0 : Int32)), .val (.long (8192 : Int64)), .second, .val (.long (8192 : Int64)), .second, .val (.int (0 : Int32)), .val (.int (0 : Int32)), .unset, .unset] [(.int (lcmpW (8192 : Int64) (16384 : Int64)))])) _
      refine XS.ifYes X40.here hx rfl (pc0 := 96) (pc' := 103) rfl (hb hby at_96) rfl ((if0 _ _).trans (feq (fun q => absurd ((lw_eq _ _).mp q) (by decide))).2) (by decide) (by decide) ?_
      show Steps p.tables e below (T40.setTop (mkF m 103 #[.val (.int p0), .val (.long q1), .second, .val (.ref b1), .val (.int (3 : Int32)), .val (.int (0 : Int32)), .val (.long (8192 : Int64)), .second, .val (.long (8192 : Int64)), .second, .val (.int (0 : Int32)), .val (.int (0 : Int32)), .unset, .unset] [])) _
      refine XS.iconst X40.here hx rfl (hb hby at_103) ?_
      show Steps p.tables e below (T40.setTop (mkF m 104 #[.val (.int p0), .val (.long q1), .second, .val (.ref b1), .val (.int (3 : Int32)), .val (.int (0 : Int32)), .val (.long (8192 : Int64)), .second, .val (.long (8192 : Int64)), .second, .val (.int (0 : Int32)), .val (.int (0 : Int32)), .unset, .unset] [(.int (0 : Int32))])) _
      refine XS.istore X40.here hx rfl (hb hby at_104) rfl (l' := #[.val (.int p0), .val (.long q1), .second, .val (.ref b1), .val (.int (3 : Int32)), .val (.int (0 : Int32)), .val (.long (8192 : Int64)), .second, .val (.long (8192 : Int64)), .second, .val (.int (0 : Int32)), .val (.int (0 : Int32)), .val (.int (0 : Int32)), .unset]) rfl ?_
      show Steps p.tables e below (T40.setTop (mkF m 106 #[.val (.int p0), .val (.long q1), .second, .val (.ref b1), .val (.int (3 : Int32)), .val (.int (0 : Int32)), .val (.long (8192 : Int64)), .second, .val (.long (8192 : Int64)), .second, .val (.int (0 : Int32)), .val (.int (0 : Int32)), .val (.int (0 : Int32)), .unset] [])) _
      refine XS.lload X40.here hx rfl (hb hby at_106) rfl ?_
      show Steps p.tables e below (T40.setTop (mkF m 108 #[.val (.int p0), .val (.long q1), .second, .val (.ref b1), .val (.int (3 : Int32)), .val (.int (0 : Int32)), .val (.long (8192 : Int64)), .second, .val (.long (8192 : Int64)), .second, .val (.int (0 : Int32)), .val (.int (0 : Int32)), .val (.int (0 : Int32)), .unset] [(.long (8192 : Int64))])) _
      refine XS.lload X40.here hx rfl (hb hby at_108) rfl ?_
      show Steps p.tables e below (T40.setTop (mkF m 110 #[.val (.int p0), .val (.long q1), .second, .val (.ref b1), .val (.int (3 : Int32)), .val (.int (0 : Int32)), .val (.long (8192 : Int64)), .second, .val (.long (8192 : Int64)), .second, .val (.int (0 : Int32)), .val (.int (0 : Int32)), .val (.int (0 : Int32)), .unset] [(.long (8192 : Int64)), (.long (8192 : Int64))])) _
      refine XS.lcmp X40.here hx rfl (hb hby at_110) rfl ?_
      show Steps p.tables e below (T40.setTop (mkF m 111 #[.val (.int p0), .val (.long q1), .second, .val (.ref b1), .val (.int (3 : Int32)), .val (.int (0 : Int32)), .val (.long (8192 : Int64)), .second, .val (.long (8192 : Int64)), .second, .val (.int (0 : Int32)), .val (.int (0 : Int32)), .val (.int (0 : Int32)), .unset] [(.int (lcmpW (8192 : Int64) (8192 : Int64)))])) _
      refine XS.ifNo X40.here hx rfl (hb hby at_111) rfl ((if0 _ _).trans (teq ((lw_eq _ _).mpr (by decide))).2) ?_
      show Steps p.tables e below (T40.setTop (mkF m 114 #[.val (.int p0), .val (.long q1), .second, .val (.ref b1), .val (.int (3 : Int32)), .val (.int (0 : Int32)), .val (.long (8192 : Int64)), .second, .val (.long (8192 : Int64)), .second, .val (.int (0 : Int32)), .val (.int (0 : Int32)), .val (.int (0 : Int32)), .unset] [])) _
      refine XS.iconst X40.here hx rfl (hb hby at_114) ?_
      show Steps p.tables e below (T40.setTop (mkF m 115 #[.val (.int p0), .val (.long q1), .second, .val (.ref b1), .val (.int (3 : Int32)), .val (.int (0 : Int32)), .val (.long (8192 : Int64)), .second, .val (.long (8192 : Int64)), .second, .val (.int (0 : Int32)), .val (.int (0 : Int32)), .val (.int (0 : Int32)), .unset] [(.int (1 : Int32))])) _
      refine XS.goto X40.here hx rfl (pc0 := 115) (pc' := 119) rfl (hb hby at_115) (by decide) (by decide) ?_
      show Steps p.tables e below (T40.setTop (mkF m 119 #[.val (.int p0), .val (.long q1), .second, .val (.ref b1), .val (.int (3 : Int32)), .val (.int (0 : Int32)), .val (.long (8192 : Int64)), .second, .val (.long (8192 : Int64)), .second, .val (.int (0 : Int32)), .val (.int (0 : Int32)), .val (.int (0 : Int32)), .unset] [(.int (1 : Int32))])) _
      refine XS.istore X40.here hx rfl (hb hby at_119) rfl (l' := #[.val (.int p0), .val (.long q1), .second, .val (.ref b1), .val (.int (3 : Int32)), .val (.int (0 : Int32)), .val (.long (8192 : Int64)), .second, .val (.long (8192 : Int64)), .second, .val (.int (0 : Int32)), .val (.int (0 : Int32)), .val (.int (0 : Int32)), .val (.int (1 : Int32))]) rfl ?_
      show Steps p.tables e below (T40.setTop (mkF m 121 #[.val (.int p0), .val (.long q1), .second, .val (.ref b1), .val (.int (3 : Int32)), .val (.int (0 : Int32)), .val (.long (8192 : Int64)), .second, .val (.long (8192 : Int64)), .second, .val (.int (0 : Int32)), .val (.int (0 : Int32)), .val (.int (0 : Int32)), .val (.int (1 : Int32))] [])) _
      refine XS.iload X40.here hx rfl (hb hby at_121) rfl ?_
      show Steps p.tables e below (T40.setTop (mkF m 123 #[.val (.int p0), .val (.long q1), .second, .val (.ref b1), .val (.int (3 : Int32)), .val (.int (0 : Int32)), .val (.long (8192 : Int64)), .second, .val (.long (8192 : Int64)), .second, .val (.int (0 : Int32)), .val (.int (0 : Int32)), .val (.int (0 : Int32)), .val (.int (1 : Int32))] [(.int (0 : Int32))])) _
      refine XS.iload X40.here hx rfl (hb hby at_123) rfl ?_
      show Steps p.tables e below (T40.setTop (mkF m 125 #[.val (.int p0), .val (.long q1), .second, .val (.ref b1), .val (.int (3 : Int32)), .val (.int (0 : Int32)), .val (.long (8192 : Int64)), .second, .val (.long (8192 : Int64)), .second, .val (.int (0 : Int32)), .val (.int (0 : Int32)), .val (.int (0 : Int32)), .val (.int (1 : Int32))] [(.int (0 : Int32)), (.int (0 : Int32))])) _
      refine XS.icmpNo X40.here hx rfl (hb hby at_125) rfl (teq (by decide)).2 ?_
      show Steps p.tables e below (T40.setTop (mkF m 128 #[.val (.int p0), .val (.long q1), .second, .val (.ref b1), .val (.int (3 : Int32)), .val (.int (0 : Int32)), .val (.long (8192 : Int64)), .second, .val (.long (8192 : Int64)), .second, .val (.int (0 : Int32)), .val (.int (0 : Int32)), .val (.int (0 : Int32)), .val (.int (1 : Int32))] [])) _
      refine XS.iload X40.here hx rfl (hb hby at_128) rfl ?_
      show Steps p.tables e below (T40.setTop (mkF m 130 #[.val (.int p0), .val (.long q1), .second, .val (.ref b1), .val (.int (3 : Int32)), .val (.int (0 : Int32)), .val (.long (8192 : Int64)), .second, .val (.long (8192 : Int64)), .second, .val (.int (0 : Int32)), .val (.int (0 : Int32)), .val (.int (0 : Int32)), .val (.int (1 : Int32))] [(.int (0 : Int32))])) _
      refine XS.iload X40.here hx rfl (hb hby at_130) rfl ?_
      show Steps p.tables e below (T40.setTop (mkF m 132 #[.val (.int p0), .val (.long q1), .second, .val (.ref b1), .val (.int (3 : Int32)), .val (.int (0 : Int32)), .val (.long (8192 : Int64)), .second, .val (.long (8192 : Int64)), .second, .val (.int (0 : Int32)), .val (.int (0 : Int32)), .val (.int (0 : Int32)), .val (.int (1 : Int32))] [(.int (0 : Int32)), (.int (0 : Int32))])) _
      refine XS.icmpNo X40.here hx rfl (hb hby at_132) rfl (teq (by decide)).2 ?_
      show Steps p.tables e below (T40.setTop (mkF m 135 #[.val (.int p0), .val (.long q1), .second, .val (.ref b1), .val (.int (3 : Int32)), .val (.int (0 : Int32)), .val (.long (8192 : Int64)), .second, .val (.long (8192 : Int64)), .second, .val (.int (0 : Int32)), .val (.int (0 : Int32)), .val (.int (0 : Int32)), .val (.int (1 : Int32))] [])) _
      refine XS.iload X40.here hx rfl (hb hby at_135) rfl ?_
      show Steps p.tables e below (T40.setTop (mkF m 137 #[.val (.int p0), .val (.long q1), .second, .val (.ref b1), .val (.int (3 : Int32)), .val (.int (0 : Int32)), .val (.long (8192 : Int64)), .second, .val (.long (8192 : Int64)), .second, .val (.int (0 : Int32)), .val (.int (0 : Int32)), .val (.int (0 : Int32)), .val (.int (1 : Int32))] [(.int (0 : Int32))])) _
      refine XS.ifNo X40.here hx rfl (hb hby at_137) rfl ((if0 _ _).trans (teq (by decide)).2) ?_
      show Steps p.tables e below (T40.setTop (mkF m 140 #[.val (.int p0), .val (.long q1), .second, .val (.ref b1), .val (.int (3 : Int32)), .val (.int (0 : Int32)), .val (.long (8192 : Int64)), .second, .val (.long (8192 : Int64)), .second, .val (.int (0 : Int32)), .val (.int (0 : Int32)), .val (.int (0 : Int32)), .val (.int (1 : Int32))] [])) _
      refine XS.iload X40.here hx rfl (hb hby at_140) rfl ?_
      show Steps p.tables e below (T40.setTop (mkF m 142 #[.val (.int p0), .val (.long q1), .second, .val (.ref b1), .val (.int (3 : Int32)), .val (.int (0 : Int32)), .val (.long (8192 : Int64)), .second, .val (.long (8192 : Int64)), .second, .val (.int (0 : Int32)), .val (.int (0 : Int32)), .val (.int (0 : Int32)), .val (.int (1 : Int32))] [(.int (1 : Int32))])) _
      refine XS.ifNo X40.here hx rfl (hb hby at_142) rfl ((if0 _ _).trans (feq (by decide)).1) ?_
      show Steps p.tables e below (T40.setTop (mkF m 145 #[.val (.int p0), .val (.long q1), .second, .val (.ref b1), .val (.int (3 : Int32)), .val (.int (0 : Int32)), .val (.long (8192 : Int64)), .second, .val (.long (8192 : Int64)), .second, .val (.int (0 : Int32)), .val (.int (0 : Int32)), .val (.int (0 : Int32)), .val (.int (1 : Int32))] [])) _
      refine XS.iload X40.here hx rfl (hb hby at_145) rfl ?_
      show Steps p.tables e below (T40.setTop (mkF m 147 #[.val (.int p0), .val (.long q1), .second, .val (.ref b1), .val (.int (3 : Int32)), .val (.int (0 : Int32)), .val (.long (8192 : Int64)), .second, .val (.long (8192 : Int64)), .second, .val (.int (0 : Int32)), .val (.int (0 : Int32)), .val (.int (0 : Int32)), .val (.int (1 : Int32))] [(.int (0 : Int32))])) _
      refine XS.ifNo X40.here hx rfl (hb hby at_147) rfl ((if0 _ _).trans (teq (by decide)).2) ?_
      show Steps p.tables e below (T40.setTop (mkF m 150 #[.val (.int p0), .val (.long q1), .second, .val (.ref b1), .val (.int (3 : Int32)), .val (.int (0 : Int32)), .val (.long (8192 : Int64)), .second, .val (.long (8192 : Int64)), .second, .val (.int (0 : Int32)), .val (.int (0 : Int32)), .val (.int (0 : Int32)), .val (.int (1 : Int32))] [])) _
      refine XS.iconst X40.here hx rfl (hb hby at_150) ?_
      show Steps p.tables e below (T40.setTop (mkF m 151 #[.val (.int p0), .val (.long q1), .second, .val (.ref b1), .val (.int (3 : Int32)), .val (.int (0 : Int32)), .val (.long (8192 : Int64)), .second, .val (.long (8192 : Int64)), .second, .val (.int (0 : Int32)), .val (.int (0 : Int32)), .val (.int (0 : Int32)), .val (.int (1 : Int32))] [(.int (1 : Int32))])) _
      refine XS.goto X40.here hx rfl (pc0 := 151) (pc' := 155) rfl (hb hby at_151) (by decide) (by decide) ?_
      show Steps p.tables e below (T40.setTop (mkF m 155 #[.val (.int p0), .val (.long q1), .second, .val (.ref b1), .val (.int (3 : Int32)), .val (.int (0 : Int32)), .val (.long (8192 : Int64)), .second, .val (.long (8192 : Int64)), .second, .val (.int (0 : Int32)), .val (.int (0 : Int32)), .val (.int (0 : Int32)), .val (.int (1 : Int32))] [(.int (1 : Int32))])) _
      exact kZ
    refine Go.retN X40 hx Bd.notSynchronized (t := .boolean) Bd.returns (by simp) (hb hby at_155) (by decide) (by decide) ?_
    exact ⟨rfl, N40⟩
set_option maxRecDepth 65536 in
set_option maxHeartbeats 40000000 in
theorem comes_1 {Post : Tables → Env → Array Value → State → Outcome → State → Prop} (hpost : ∀ tb e args s v u, (limb_1_1.after args s (.returned v) u = true ∧ limb_1_2.after args s (.returned v) u = true ∧ True) → FrameEnd s (.returned v) u (Jvm.fieldLocs frame_1_writes args s ++ Jvm.arrayLocs frame_1_arrays args s ++ Jvm.staticLocs frame_1_statics s) 16 2176 → Post tb e args s (.returned v) u) :
    ArmFor flags0 classFile x code maxLocals ret World_1 tables_1 room_1 Calls_1 rest_1 Pre_1 Post := by
  intro l hfl _ _ p e ha hc hk s m args below hf hA hF happ hP
  obtain ⟨hcalls, hrest, hpre⟩ := hP
  obtain ⟨-, -, -, hnamed, -, -, -, hat⟩ := (Spec.applies_iff hf).mp happ
  obtain ⟨hg, hn⟩ := and_e (Cond.before_iff.mp (show (Jvm.Cond.and given_1 narrow_1).before args s = true from hpre))
  obtain ⟨g1, g2⟩ := and_e hg
  obtain ⟨g3, g4⟩ := and_e g2
  obtain ⟨w0, w1, rfl⟩ : ∃ w0 w1 : Value, args = #[w0, w1] := by
    have hs : args.size = 2 := by simpa [Cond.value, given_1] using g1
    obtain ⟨L⟩ := args
    match L, hs with
    | [w0, w1], _ => exact ⟨w0, w1, rfl⟩
  have hw := fun d (hd : d ∈ tables_1) => atoms_spec (ws := Jvm.Cond.code x code maxLocals ret :: tables_1) hat d (List.mem_cons_of_mem _ hd)
  have hfit : Fit s := fun {y c} hc i hi => by
    obtain ⟨ha, rfl⟩ := Array.getElem?_eq_some_iff.mp hc
    have q := List.all_eq_true.mp ((Array.all_eq_true_iff_forall_mem.mp hF) _ (Array.getElem_mem ha)) i (List.mem_range.mpr hi)
    simpa [Array.getElem?_eq_getElem hi] using q
  obtain ⟨i0, ei0⟩ := is_v g3
  obtain rfl : w0 = (.int i0) := Option.some.inj ei0
  obtain ⟨i1, ei1⟩ := isL_v g4
  obtain rfl : w1 = (.long i1) := Option.some.inj ei1

  obtain ⟨n, o, h1, h2, h3, _, L, rfl, ⟨rfl, N⟩, hq⟩ := rm0 l s _ hw tables_1 i0 i1  s.heap s.heap.size (Nat.le_refl _) p e ha hc hk s m _ below hf ((Spec.applies_iff_loose hf).mp happ).1 ⟨rfl, State.Warmed39.refl s, rfl⟩ trivial
  refine ⟨n, _, h1, h2, h3, hpost _ _ _ _ _ _ ⟨Cond.after_iff.mpr rfl, Cond.after_iff.mpr (eq_i res_at (Term.int_eval (1)) rfl), trivial⟩ ⟨hq.1, hq.2.1, (hq.2.2.sift fun y hy => Or.inr (N y hy)).mono (by decide) (by decide)⟩⟩
theorem main_1_1 : Claimed_1_1 := comes_1 fun _ _ _ _ _ _ h hF => ⟨h.1, hF⟩
theorem main_1_2 : Claimed_1_2 := comes_1 fun _ _ _ _ _ _ h hF => ⟨h.2.1, hF⟩
end Jvm.Pilot.@@N@@
namespace Jvm.Pilot.@@N@@
open Jvm Jvm.ClassFile Sem Op Lib Jvm.Free Jvm.Stand Jvm.Pilot.@@N@@.Jvm.D
/-! MADE BY PROGRAM (witnessworld.py) out of the Statement's table words and the real class files: 12 classes; the members and pool entries that the words name. The judged class is class 1, her method 1. -/
namespace start1
open Jvm.ClassFile
def u (s : String) : CpInfo := .utf8 (stringToUtf16 s)
/-- a pool by its gaps: so many unusable entries, then the entry; so many at the end -/
def gap : Nat → List CpInfo → List CpInfo
  | 0, r => r
  | n + 1, r => .unusable :: gap n r
def poolList (es : List (Nat × CpInfo)) (last : Nat) : List CpInfo := es.foldr (fun e r => gap e.1 (e.2 :: r)) (gap last [])
def pool (es : List (Nat × CpInfo)) (last : Nat) : Array CpInfo := ⟨poolList es last⟩
def fileOf (pool : Array CpInfo) (this : Nat) (attrs : Array Attribute := #[]) (ms : Array MethodInfo := #[]) (fl : Nat := 33) (sup : Nat := 0) (ifs : Array Nat := #[]) (fds : Array FieldInfo := #[]) : ClassFile where
  minorVersion := 0
  majorVersion := 65
  constantPool := pool
  accessFlags := fl
  thisClass := this
  superClass := sup
  interfaces := ifs
  fields := fds
  methods := ms
  attributes := attrs
def plain (name : String) (sup : Option ClassId) : Class where
  name := name
  kind := .ordinary
  loader := none
  accessFlags := 33
  super := sup
  interfaces := #[]
  cf := none
  fields := #[]
  methods := #[]
  instanceTypes := #[]
  staticTypes := #[]
  resolved := #[]
  callSites := []
  init := .initialized
  statics := none
  mirror := none

def pool0 : Array CpInfo := pool [(5, u "<init>"), (0, u "()V"), (1, .class_ 10), (1, u "java/lang/Object")] 113

def k0c0 : Code := { maxStack := 0, maxLocals := 1, code := object_method_1_code, exceptionTable := #[], attributes := #[] }
def k0m0 : Method := { name := "<init>", desc := "()V", sig := { parameters := [], returnType := none }, accessFlags := 1, code := some k0c0 }
/-- java/lang/Object -/
def k0 : Class := { plain "java/lang/Object" none with
  accessFlags := 33
  interfaces := #[]
  cf := some (fileOf pool0 8 #[] #[{ accessFlags := 1, nameIndex := 5, descriptorIndex := 6, attributes := #[] }] 33 0 #[] #[])
  fields := #[]
  methods := #[k0m0]
  instanceTypes := #[]
  staticTypes := #[]
  resolved := Array.replicate 124 none
  statics := none }

def pool1 : Array CpInfo := pool [(2, .class_ 4), (0, .nameAndType 5 6), (0, u "java/lang/Object"), (0, u "<init>"), (0, u "()V"), (0, .class_ 8), (0, u "com/example/idle_surfer/idlesurfer/LongChunks"), (0, .methodref 7 3), (0, .methodref 7 11), (0, .nameAndType 12 13), (0, u "add"), (0, u "(J)V"), (0, .methodref 7 15), (0, .nameAndType 16 17), (0, u "full"), (0, u "()Z"), (0, .methodref 7 19), (0, .nameAndType 20 21), (0, u "bytes"), (0, u "()J"), (0, .long 8192), (1, .class_ 25), (0, u "com/example/idle_surfer/idlesurfer/LongChunksFullPinLaw"), (2, u "law"), (0, u "(IJ)Z")] 3

def k1m0 : Method := { name := "<init>", desc := "()V", sig := { parameters := [], returnType := none }, accessFlags := 1, code := none }
def k1c1 : Code := { maxStack := 6, maxLocals := 14, code := code, exceptionTable := #[], attributes := #[] }
def k1m1 : Method := { name := "law", desc := "(IJ)Z", sig := { parameters := [.int, .long], returnType := some .boolean }, accessFlags := 9, code := some k1c1 }
/-- com/example/idle_surfer/idlesurfer/LongChunksFullPinLaw -/
def k1 : Class := { plain "com/example/idle_surfer/idlesurfer/LongChunksFullPinLaw" (some 0) with
  accessFlags := 49
  interfaces := #[]
  cf := some (fileOf pool1 24 #[] #[{ accessFlags := 1, nameIndex := 5, descriptorIndex := 6, attributes := #[] }, { accessFlags := 9, nameIndex := 28, descriptorIndex := 29, attributes := #[] }] 49 2 #[] #[])
  fields := #[]
  methods := #[k1m0, k1m1]
  instanceTypes := #[]
  staticTypes := #[]
  resolved := Array.replicate 33 none
  statics := none }

def pool2 : Array CpInfo := pool [(1, .class_ 2), (0, u "com/example/idle_surfer/idlesurfer/LongChunks"), (2, .methodref 6 7), (0, .class_ 8), (0, .nameAndType 9 10), (0, u "java/lang/Object"), (0, u "<init>"), (0, u "()V"), (0, .class_ 12), (0, u "[J"), (0, .fieldref 1 14), (0, .nameAndType 15 16), (0, u "chunks"), (0, u "[[J"), (0, .fieldref 1 18), (0, .nameAndType 19 20), (0, u "size"), (0, u "I"), (0, .fieldref 1 22), (0, .nameAndType 23 20), (0, u "chunkCount"), (0, .long 8192), (1, .methodref 1 27), (0, .nameAndType 28 29), (0, u "full"), (0, u "()Z"), (7, .methodref 1 38), (0, .nameAndType 39 40), (0, u "set"), (0, u "(IJ)V"), (0, u "CHUNK_BITS"), (2, u "CHUNK"), (1, u "CHUNK_BYTES"), (0, u "J"), (6, u "bytes"), (0, u "()J"), (0, u "add"), (0, u "(J)V")] 2

def k2c0 : Code := { maxStack := 2, maxLocals := 1, code := prog_14_method_1_code, exceptionTable := #[], attributes := #[] }
def k2m0 : Method := { name := "<init>", desc := "()V", sig := { parameters := [], returnType := none }, accessFlags := 0, code := some k2c0 }
def k2c1 : Code := { maxStack := 4, maxLocals := 4, code := prog_14_method_4_code, exceptionTable := #[], attributes := #[] }
def k2m1 : Method := { name := "set", desc := "(IJ)V", sig := { parameters := [.int, .long], returnType := none }, accessFlags := 0, code := some k2c1 }
def k2c2 : Code := { maxStack := 5, maxLocals := 1, code := prog_14_method_5_code, exceptionTable := #[], attributes := #[] }
def k2m2 : Method := { name := "full", desc := "()Z", sig := { parameters := [], returnType := some .boolean }, accessFlags := 0, code := some k2c2 }
def k2c3 : Code := { maxStack := 4, maxLocals := 1, code := prog_14_method_6_code, exceptionTable := #[], attributes := #[] }
def k2m3 : Method := { name := "bytes", desc := "()J", sig := { parameters := [], returnType := some .long }, accessFlags := 0, code := some k2c3 }
def k2c4 : Code := { maxStack := 5, maxLocals := 3, code := prog_14_method_7_code, exceptionTable := #[], attributes := #[] }
def k2m4 : Method := { name := "add", desc := "(J)V", sig := { parameters := [.long], returnType := none }, accessFlags := 0, code := some k2c4 }
/-- com/example/idle_surfer/idlesurfer/LongChunks -/
def k2 : Class := { plain "com/example/idle_surfer/idlesurfer/LongChunks" (some 0) with
  accessFlags := 48
  interfaces := #[]
  cf := some (fileOf pool2 1 #[] #[{ accessFlags := 0, nameIndex := 9, descriptorIndex := 10, attributes := #[] }, { accessFlags := 0, nameIndex := 39, descriptorIndex := 40, attributes := #[] }, { accessFlags := 0, nameIndex := 28, descriptorIndex := 29, attributes := #[] }, { accessFlags := 0, nameIndex := 54, descriptorIndex := 55, attributes := #[] }, { accessFlags := 0, nameIndex := 56, descriptorIndex := 57, attributes := #[] }] 48 6 #[] #[{ accessFlags := 26, nameIndex := 41, descriptorIndex := 20, attributes := #[] }, { accessFlags := 26, nameIndex := 44, descriptorIndex := 20, attributes := #[] }, { accessFlags := 24, nameIndex := 46, descriptorIndex := 47, attributes := #[] }, { accessFlags := 2, nameIndex := 15, descriptorIndex := 16, attributes := #[] }, { accessFlags := 2, nameIndex := 23, descriptorIndex := 20, attributes := #[] }, { accessFlags := 2, nameIndex := 19, descriptorIndex := 20, attributes := #[] }])
  fields := #[{ name := "CHUNK_BITS", type := .int, accessFlags := 26, slot := 0, constantValue := 0 }, { name := "CHUNK", type := .int, accessFlags := 26, slot := 1, constantValue := 0 }, { name := "CHUNK_BYTES", type := .long, accessFlags := 24, slot := 2, constantValue := 0 }, { name := "chunks", type := (.array (.array .long)), accessFlags := 2, slot := 0, constantValue := 0 }, { name := "chunkCount", type := .int, accessFlags := 2, slot := 1, constantValue := 0 }, { name := "size", type := .int, accessFlags := 2, slot := 2, constantValue := 0 }]
  methods := #[k2m0, k2m1, k2m2, k2m3, k2m4]
  instanceTypes := #[(.array (.array .long)), .int, .int]
  staticTypes := #[.int, .int, .long]
  resolved := Array.replicate 60 none
  statics := none }

def pool3 : Array CpInfo := pool [(1, u "java/lang/Cloneable"), (0, .class_ 1), (0, u "java/lang/Object"), (0, .class_ 3)] 3

/-- java/lang/Cloneable -/
def k3 : Class := { plain "java/lang/Cloneable" (some 0) with
  accessFlags := 1537
  interfaces := #[]
  cf := some (fileOf pool3 2 #[] #[] 1537 4 #[] #[])
  fields := #[]
  methods := #[]
  instanceTypes := #[]
  staticTypes := #[]
  resolved := Array.replicate 8 none
  statics := none }

def pool4 : Array CpInfo := pool [(1, u "java/io/Serializable"), (0, .class_ 1), (0, u "java/lang/Object"), (0, .class_ 3)] 3

/-- java/io/Serializable -/
def k4 : Class := { plain "java/io/Serializable" (some 0) with
  accessFlags := 1537
  interfaces := #[]
  cf := some (fileOf pool4 2 #[] #[] 1537 4 #[] #[])
  fields := #[]
  methods := #[]
  instanceTypes := #[]
  staticTypes := #[]
  resolved := Array.replicate 8 none
  statics := none }

/-- the primitive byte -/
def k5 : Class := { plain "byte" none with kind := .primitive 'B', accessFlags := 0x411 }
/-- [B -/
def k6 : Class := { plain "[B" (some 0) with kind := .array 5 .byte, interfaces := #[3, 4], accessFlags := 1041 }

/-- the primitive int -/
def k7 : Class := { plain "int" none with kind := .primitive 'I', accessFlags := 0x411 }
/-- [I -/
def k8 : Class := { plain "[I" (some 0) with kind := .array 7 .int, interfaces := #[3, 4], accessFlags := 1041 }

/-- the primitive long -/
def k9 : Class := { plain "long" none with kind := .primitive 'J', accessFlags := 0x411 }
/-- [J -/
def k10 : Class := { plain "[J" (some 0) with kind := .array 9 .long, interfaces := #[3, 4], accessFlags := 1041 }

/-- an array of long arrays -/
def k11 : Class := { plain "[[J" (some 0) with kind := .array 10 (.array .long), interfaces := #[3, 4], accessFlags := 1041 }

def heap : Heap := #[{ cls := 11, slots := #[.null], vm := .none }]
def classes : Array Class := #[k0, k1, k2, k3, k4, k5, k6, k7, k8, k9, k10, k11]
def interned : List (Array UInt16 × Addr) := []
def slotsUsed : Nat := 1
def theMethod : MethodId := ⟨1, 1⟩
def args0 : Array Value := #[.int 5, .long 7]
def aboutOver (below : List Frame) : State where
  vm := { classes := classes, interned := interned.toArray }
  heap := heap
  slotsUsed := slotsUsed
  threads := #[{ frames := .invoking theMethod args0 :: below }]
def below0 : List Frame := [.native { method := ⟨0, 0⟩, args := #[] }]
def about1 : State := aboutOver below0
def p0 : Program := .bare "" "" ""
def e0 : Env := launch0.env 0 0 0
theorem w_frames : about1.frames = Frame.invoking theMethod args0 :: below0 := rfl
set_option maxRecDepth 65536 in
theorem w_args : argsFit about1.vm theMethod args0 = true := by decide +kernel
set_option maxRecDepth 65536 in
theorem w_heap : heapFits about1 = true := by decide +kernel
set_option maxRecDepth 65536 in
theorem w_runnable : about1.curStatus? = some .runnable := by decide +kernel
set_option maxRecDepth 65536 in
theorem w_alone : about1.alone = true := by decide +kernel
set_option maxRecDepth 65536 in
theorem w_named : about1.methodNamed? x = some theMethod := by decide +kernel
set_option maxRecDepth 65536 in
theorem w_hears : about1.hears theMethod below0 = true := by decide +kernel
set_option maxRecDepth 65536 in
theorem w_ripe : about1.ripe theMethod args0 below0 = true := by decide +kernel
theorem w_running : about1.status = .running := rfl
set_option maxRecDepth 65536 in
theorem w_room : about1.hasRoom e0.platform room_1 = true :=
  launch0.hasRoom_least _ room_1 (by decide +kernel) (by decide +kernel) (by decide +kernel) (by decide +kernel) (by decide +kernel) (by decide +kernel)
theorem allAtoms_all (ts : List Jvm.Cond) (a : Array Jvm.Value) (st : Jvm.State) : (allAtoms ts).before a st = ts.all (fun c => c.before a st) := by
  induction ts with
  | nil => rfl
  | cons c t ih =>
    show (Jvm.Cond.and c (allAtoms t)).before a st = _
    rw [Jvm.Cond.before_and, ih, List.all_cons]
def words1 : List Jvm.Cond := Jvm.Cond.code x code maxLocals ret :: tables_1
/-- a 'code' word, met by the world's own term for the bytes: nothing is compared byte by byte -/
theorem code_word {y : MethodName} {bytes : ByteArray} {mx : Nat} {rt : Option FieldType} {a : Array Value} {s : State} {m : MethodId} {meth : Method} {c : Code} (h1 : s.methodNamed? y = some m) (h2 : s.vm.method? m = some meth) (h3 : meth.code = some c) (h4 : c.code = bytes)
    (h5 : (c.maxLocals == mx && c.exceptionTable.isEmpty && decide (c.maxStack ≤ mostOperands) && decide (meth.sig.returnType = rt) && !meth.locks && decide (parseMethodDescriptor y.desc = some meth.sig)) = true) : (Jvm.Cond.code y bytes mx rt).before a s = true := by
  simp only [Bool.and_eq_true, beq_iff_eq, Bool.not_eq_true', decide_eq_true_eq] at h5
  obtain ⟨⟨⟨⟨⟨g1, g2⟩, g3⟩, g4⟩, g5⟩, g6⟩ := h5
  simp [Cond.before, Cond.holds, Cond.value, h1, h2, h3, h4, g1, g2, g3, g4, g5, g6]
def isCode : Jvm.Cond → Bool
  | .code _ _ _ _ => true
  | _ => false
theorem all_split {L : List Jvm.Cond} {P : Jvm.Cond → Bool} (h1 : L.all (fun c => isCode c || P c) = true) (h2 : ∀ c ∈ L.filter isCode, P c = true) : L.all P = true := by
  refine List.all_eq_true.mpr fun c hc => ?_
  have h := List.all_eq_true.mp h1 c hc
  rcases Bool.eq_false_or_eq_true (isCode c) with hi | hi
  · exact h2 c (List.mem_filter.mpr ⟨hc, hi⟩)
  · simpa [hi] using h
set_option maxRecDepth 65536 in
theorem w_c0 : (Jvm.Cond.code x code maxLocals ret).before args0 about1 = true := code_word (m := ⟨1, 1⟩) (meth := k1m1) (c := k1c1) (by decide +kernel) rfl rfl rfl (by decide +kernel)
set_option maxRecDepth 65536 in
theorem w_c1 : (Jvm.Cond.code ({ cls := "com/example/idle_surfer/idlesurfer/LongChunks", name := "<init>", desc := "()V" } : Jvm.MethodName) prog_14_method_1_code (1 : Nat) (Option.none : Option Jvm.ClassFile.FieldType)).before args0 about1 = true := code_word (m := ⟨2, 0⟩) (meth := k2m0) (c := k2c0) (by decide +kernel) rfl rfl rfl (by decide +kernel)
set_option maxRecDepth 65536 in
theorem w_c2 : (Jvm.Cond.code ({ cls := "java/lang/Object", name := "<init>", desc := "()V" } : Jvm.MethodName) object_method_1_code (1 : Nat) (Option.none : Option Jvm.ClassFile.FieldType)).before args0 about1 = true := code_word (m := ⟨0, 0⟩) (meth := k0m0) (c := k0c0) (by decide +kernel) rfl rfl rfl (by decide +kernel)
set_option maxRecDepth 65536 in
theorem w_c3 : (Jvm.Cond.code ({ cls := "com/example/idle_surfer/idlesurfer/LongChunks", name := "full", desc := "()Z" } : Jvm.MethodName) prog_14_method_5_code (1 : Nat) (Option.some Jvm.ClassFile.FieldType.boolean)).before args0 about1 = true := code_word (m := ⟨2, 2⟩) (meth := k2m2) (c := k2c2) (by decide +kernel) rfl rfl rfl (by decide +kernel)
set_option maxRecDepth 65536 in
theorem w_c4 : (Jvm.Cond.code ({ cls := "com/example/idle_surfer/idlesurfer/LongChunks", name := "bytes", desc := "()J" } : Jvm.MethodName) prog_14_method_6_code (1 : Nat) (Option.some Jvm.ClassFile.FieldType.long)).before args0 about1 = true := code_word (m := ⟨2, 3⟩) (meth := k2m3) (c := k2c3) (by decide +kernel) rfl rfl rfl (by decide +kernel)
set_option maxRecDepth 65536 in
theorem w_c5 : (Jvm.Cond.code ({ cls := "com/example/idle_surfer/idlesurfer/LongChunks", name := "add", desc := "(J)V" } : Jvm.MethodName) prog_14_method_7_code (3 : Nat) (Option.none : Option Jvm.ClassFile.FieldType)).before args0 about1 = true := code_word (m := ⟨2, 4⟩) (meth := k2m4) (c := k2c4) (by decide +kernel) rfl rfl rfl (by decide +kernel)
set_option maxRecDepth 65536 in
theorem w_c6 : (Jvm.Cond.code ({ cls := "com/example/idle_surfer/idlesurfer/LongChunks", name := "set", desc := "(IJ)V" } : Jvm.MethodName) prog_14_method_4_code (4 : Nat) (Option.none : Option Jvm.ClassFile.FieldType)).before args0 about1 = true := code_word (m := ⟨2, 1⟩) (meth := k2m1) (c := k2c1) (by decide +kernel) rfl rfl rfl (by decide +kernel)
def codes1 : List Jvm.Cond := [Jvm.Cond.code x code maxLocals ret, Jvm.Cond.code ({ cls := "com/example/idle_surfer/idlesurfer/LongChunks", name := "<init>", desc := "()V" } : Jvm.MethodName) prog_14_method_1_code (1 : Nat) (Option.none : Option Jvm.ClassFile.FieldType), Jvm.Cond.code ({ cls := "java/lang/Object", name := "<init>", desc := "()V" } : Jvm.MethodName) object_method_1_code (1 : Nat) (Option.none : Option Jvm.ClassFile.FieldType), Jvm.Cond.code ({ cls := "com/example/idle_surfer/idlesurfer/LongChunks", name := "full", desc := "()Z" } : Jvm.MethodName) prog_14_method_5_code (1 : Nat) (Option.some Jvm.ClassFile.FieldType.boolean), Jvm.Cond.code ({ cls := "com/example/idle_surfer/idlesurfer/LongChunks", name := "bytes", desc := "()J" } : Jvm.MethodName) prog_14_method_6_code (1 : Nat) (Option.some Jvm.ClassFile.FieldType.long), Jvm.Cond.code ({ cls := "com/example/idle_surfer/idlesurfer/LongChunks", name := "add", desc := "(J)V" } : Jvm.MethodName) prog_14_method_7_code (3 : Nat) (Option.none : Option Jvm.ClassFile.FieldType), Jvm.Cond.code ({ cls := "com/example/idle_surfer/idlesurfer/LongChunks", name := "set", desc := "(IJ)V" } : Jvm.MethodName) prog_14_method_4_code (4 : Nat) (Option.none : Option Jvm.ClassFile.FieldType)]
set_option maxRecDepth 65536 in
theorem codes_eq : words1.filter isCode = codes1 := rfl
theorem w_codes : ∀ c ∈ words1.filter isCode, c.before args0 about1 = true := by
  rw [codes_eq]
  intro c hc
  simp only [codes1, List.mem_cons, List.not_mem_nil, or_false] at hc
  rcases hc with rfl | rfl | rfl | rfl | rfl | rfl | rfl
  · exact w_c0
  · exact w_c1
  · exact w_c2
  · exact w_c3
  · exact w_c4
  · exact w_c5
  · exact w_c6
set_option maxRecDepth 65536 in
theorem w_t1 : (words1.take 24).all (fun c => isCode c || c.before args0 about1) = true := by decide +kernel
set_option maxRecDepth 65536 in
theorem w_t2 : (words1.drop 24).all (fun c => isCode c || c.before args0 about1) = true := by decide +kernel
theorem w_tables : (allAtoms (Jvm.Cond.code x code maxLocals ret :: tables_1)).before args0 about1 = true := by
  rw [allAtoms_all]
  show words1.all (fun c => c.before args0 about1) = true
  refine all_split ?_ w_codes
  rw [← List.take_append_drop 24 words1, List.all_append, w_t1, w_t2]
  rfl
set_option maxRecDepth 65536 in
theorem w_case : (Jvm.Cond.and given_1 narrow_1).before args0 about1 = true := by decide +kernel
theorem w_applies : (headSpec (Jvm.Cond.code x code maxLocals ret :: tables_1) room_1).applies x e0.platform about1 = true :=
  (Spec.applies_iff w_frames).mpr ⟨w_running, w_runnable, w_alone, w_named, w_hears, w_ripe, w_room, w_tables⟩
theorem atStart : AtStart classFile x code maxLocals ret World_1 tables_1 room_1 Calls_1 rest_1 Pre_1 launch0 p0 e0 about1 theMethod args0 below0 :=
  ⟨lists_1, trivial, launch0.admits_env _ _ _, launch0.least_env, fairChoices_fair.cas, fairChoices_fair.clock, w_frames, w_args, w_heap, w_applies, trivial, trivial, w_case⟩
end start1
theorem witness_1 : WitnessClaimed_1 := ⟨start1.p0, start1.e0, start1.about1, start1.theMethod, start1.args0, start1.below0, start1.atStart⟩
end Jvm.Pilot.@@N@@
