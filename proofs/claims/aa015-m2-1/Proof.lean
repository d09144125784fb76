import JvmDerived
import JvmDerived.Pilot.@@N@@Statement
import JvmDerived.Pilot.@@N@@Code
set_option linter.unusedVariables false
set_option linter.unusedSimpArgs false
@@BLOCK:NumsL.lean.txt@@
namespace Jvm.Pilot.@@N@@
open Jvm Jvm.ClassFile Sem Op Lib Jvm.Free Jvm.Stand Jvm.LawKit Jvm.RoadKit Bundle Jvm.Pilot.@@N@@.Jvm.D
/-- from T the run comes to an end of which P speaks -/
def Go (p : Program) (e : Env) (below : List Frame) (P : Outcome → State → Prop) (T : State) : Prop := ∃ s₂ o, Steps p.tables e below T s₂ ∧ s₂.status = .running ∧ Ended s₂ below o ∧ P o s₂
theorem Go.via {p : Program} {e : Env} {below : List Frame} {P : Outcome → State → Prop} {T T' : State} (h : ∀ t, Steps p.tables e below T' t → Steps p.tables e below T t) (g : Go p e below P T') : Go p e below P T := by
  obtain ⟨s₂, o, a, b⟩ := g
  exact ⟨s₂, o, h _ a, b⟩
theorem Go.into {p : Program} {e : Env} {below : List Frame} {P : Outcome → State → Prop} {T : State} {g g' : JFrame} (q : g = g') (h : Go p e below P (T.setTop g')) : ∃ s₂ o, Steps p.tables e below (T.setTop g) s₂ ∧ s₂.status = .running ∧ Ended s₂ below o ∧ P o s₂ := by
  subst q; exact h
section Ret
variable {p : Program} {l : Launch} {e : Env} {R : Room} {s : State} {m : MethodId} {args : Array Value} {below : List Frame} {meth : Method} {c : Code} {T : State} {locs : List Loc} {cells slots K N : Nat}
theorem Go.fin (X : Stand p l e R s m args below meth c T locs cells slots) (hlk : meth.locks = false) {v : Option Value} (hv : meth.sig.returnType = none → v = none) {Q : Option Value → Heap → List Loc → Prop} {g : JFrame}
    (st : ∀ fs, (∀ (f : JFrame) (acts : List Action), f.method = m → f.locked = none → f.entered = [] → (doReturn e (T.setTop f) acts v).1 = T.setFrames fs) → Steps p.tables e below (T.setTop g) (T.setFrames fs))
    (hk : cells ≤ K) (hn : slots ≤ N) (hq : Q v T.heap locs) : Go p e below (fun o u => ∃ v L, o = .returned v ∧ Q v u.heap L ∧ FrameEnd s o u L K N) (T.setTop g) := by
  obtain ⟨fs, hr, hrun, hended, hW, hsame⟩ := X.leave (v := v) hv
  exact ⟨_, _, st fs hr, hrun, hended, _, _, rfl, hq, ⟨_, rfl⟩, hW, hsame.mono hk hn⟩
theorem Go.retI (X : Stand p l e R s m args below meth c T locs cells slots) (hx : p.tables.exec = Jvm.exec) (hlk : meth.locks = false) {Q : Option Value → Heap → List Loc → Prop} {pc : Nat} {Ls : Array Slot} {z : Int32} {rest : List Value} (hret : meth.sig.returnType = some .int) (hd : decode c.code pc = .ok (.ireturn, 1))
    (hk : cells ≤ K) (hn : slots ≤ N) (hq : Q (some (.int z)) T.heap locs) : Go p e below (fun o u => ∃ v L, o = .returned v ∧ Q v u.heap L ∧ FrameEnd s o u L K N) (T.setTop (mkF m pc Ls (.int z :: rest))) :=
  Go.fin X hlk (v := some (.int z)) (fun h => by rw [hret] at h; cases h) (fun fs hr => retOut X hx hret rfl (Or.inl ⟨rfl, Or.inl rfl, _, rfl⟩) hd hr) hk hn hq
theorem Go.retN (X : Stand p l e R s m args below meth c T locs cells slots) (hx : p.tables.exec = Jvm.exec) (hlk : meth.locks = false) {Q : Option Value → Heap → List Loc → Prop} {pc : Nat} {Ls : Array Slot} {z : Int32} {rest : List Value} {t : FieldType} (hret : meth.sig.returnType = some t) (ht : t = .boolean ∨ t = .byte ∨ t = .char ∨ t = .short) (hd : decode c.code pc = .ok (.ireturn, 1))
    (hk : cells ≤ K) (hn : slots ≤ N) (hq : Q (some (.int (nar t z))) T.heap locs) : Go p e below (fun o u => ∃ v L, o = .returned v ∧ Q v u.heap L ∧ FrameEnd s o u L K N) (T.setTop (mkF m pc Ls (.int z :: rest))) :=
  Go.fin X hlk (v := some (.int (nar t z))) (fun h => by rw [hret] at h; cases h) (fun fs hr => Jvm.RoadKit.retN X hx hret ht hd hr) hk hn hq
theorem Go.retJ (X : Stand p l e R s m args below meth c T locs cells slots) (hx : p.tables.exec = Jvm.exec) (hlk : meth.locks = false) {Q : Option Value → Heap → List Loc → Prop} {pc : Nat} {Ls : Array Slot} {z : Int64} {rest : List Value} (hret : meth.sig.returnType = some .long) (hd : decode c.code pc = .ok (.lreturn, 1))
    (hk : cells ≤ K) (hn : slots ≤ N) (hq : Q (some (.long z)) T.heap locs) : Go p e below (fun o u => ∃ v L, o = .returned v ∧ Q v u.heap L ∧ FrameEnd s o u L K N) (T.setTop (mkF m pc Ls (.long z :: rest))) :=
  Go.fin X hlk (v := some (.long z)) (fun h => by rw [hret] at h; cases h) (fun fs hr => retOut X hx hret rfl (Or.inr (Or.inl ⟨rfl, rfl, _, rfl⟩)) hd hr) hk hn hq
theorem Go.retR (X : Stand p l e R s m args below meth c T locs cells slots) (hx : p.tables.exec = Jvm.exec) (hlk : meth.locks = false) {Q : Option Value → Heap → List Loc → Prop} {pc : Nat} {Ls : Array Slot} {w : Value} {rest : List Value} {t : FieldType} (hret : meth.sig.returnType = some t) (ht : t.isReference = true) (hw : w.isRef = true) (hd : decode c.code pc = .ok (.areturn, 1))
    (hk : cells ≤ K) (hn : slots ≤ N) (hq : Q (some w) T.heap locs) : Go p e below (fun o u => ∃ v L, o = .returned v ∧ Q v u.heap L ∧ FrameEnd s o u L K N) (T.setTop (mkF m pc Ls (w :: rest))) :=
  Go.fin X hlk (v := some w) (fun h => by rw [hret] at h; cases h) (fun fs hr => retOut X hx hret (by rcases ref_cases hw with rfl | ⟨z, rfl⟩ <;> cases t <;> rfl) (Or.inr (Or.inr (Or.inr (Or.inr ⟨rfl, ht, hw⟩)))) hd hr) hk hn hq
theorem Go.retV (X : Stand p l e R s m args below meth c T locs cells slots) (hx : p.tables.exec = Jvm.exec) (hlk : meth.locks = false) {Q : Option Value → Heap → List Loc → Prop} {pc : Nat} {Ls : Array Slot} (hret : meth.sig.returnType = none) (hd : decode c.code pc = .ok (.return_, 1))
    (hk : cells ≤ K) (hn : slots ≤ N) (hq : Q none T.heap locs) : Go p e below (fun o u => ∃ v L, o = .returned v ∧ Q v u.heap L ∧ FrameEnd s o u L K N) (T.setTop (mkF m pc Ls [])) :=
  Go.fin X hlk (v := none) (fun _ => rfl) (fun fs hr => X.returnOut hx hret hd hr) hk hn hq
theorem Go.retNW {vm₁ : Vm} (X : Stand p l e R (s.setVm vm₁) m args below meth c T locs cells slots) (hx : p.tables.exec = Jvm.exec) {n : Nat} (hS : s.Since vm₁ n) (hnn : n ≤ T.heap.size) (hlk : meth.locks = false) {Q : Option Value → Heap → List Loc → Prop} {pc : Nat} {Ls : Array Slot} {z : Int32} {rest : List Value} {t : FieldType} (hret : meth.sig.returnType = some t) (ht : t = .boolean ∨ t = .byte ∨ t = .char ∨ t = .short) (hd : decode c.code pc = .ok (.ireturn, 1))
    (hk : cells ≤ K) (hn : slots ≤ N) (hq : Q (some (.int (nar t z))) T.heap locs) : Go p e below (fun o u => ∃ v L, o = .returned v ∧ Q v u.heap L ∧ ReturnedEndW s o u L K N) (T.setTop (mkF m pc Ls (.int z :: rest))) := by
  obtain ⟨fs, hr, hrun, hended, h1, h2, h3, h4⟩ := X.leaveW hS hnn (v := some (.int (nar t z))) (fun h => by rw [hret] at h; cases h) hlk
  exact ⟨_, _, Jvm.RoadKit.retN X hx hret ht hd hr, hrun, hended, _, _, rfl, hq, h1, h2, h3, h4.mono hk hn⟩
end Ret
theorem own_eqi {t : Term} {n : Int32} {args : Array Value} {s : State} (h : (Cond.eq t (.int n)).value args s none s [] = some true) : t.eval args s none [] s = some (.int n) := by
  obtain ⟨x, y, h1, h2, k, -⟩ := cmp_v (Or.inl h)
  cases (show some y = some (Value.int n) from h2.symm)
  cases x with
  | int z => rw [h1]; congr 2; have q := h; simp [Cond.value, h1, Term.eval] at q; exact q
  | _ => simp [Kin, Value.isRef] at k
theorem own_ns1 {h : Heap} {a : Addr} {ws : List Addr} (q : ∀ cell : Cell, h[a]? = some cell → cell.vm.isStatics = false) (r : ∀ (x : Addr) (c : Cell), h[x]? = some c → c.vm.isStatics = true → x ∉ ws) : ∀ (x : Addr) (c : Cell), h[x]? = some c → c.vm.isStatics = true → x ∉ a :: ws := fun x c hx hc => ninS (fun e => by subst e; rw [q c hx] at hc; cases hc) (r x c hx hc)
theorem own_sk {Z : State} {h h' : Heap} {C n d : String} {v : Value} {ws : List Addr} (F : Sta Z h C n d v) (K : Keep h h' ws) (q : ∀ (x : Addr) (c : Cell), h[x]? = some c → c.vm.isStatics = true → x ∉ ws) : Sta Z h' C n d v := by
  obtain ⟨cf, i, k, f, st, cell, h1, h2, h3, h4, h5, h6, h7⟩ := F
  exact ⟨cf, i, k, f, st, cell, h1, h2, h3, h4, K.2.1 _ _ h5 (q _ _ h5 h6), h6, h7⟩

/-- an array of n places; place k holds g k -/
def AV (Z : State) (h : Heap) (a : Addr) (ty : FieldType) (n : Nat) (g : Nat → Value) : Prop := n < 2 ^ 31 ∧ ∃ c : Cell, Arr Z h a c ty ∧ c.slots.size = n ∧ ∀ k, k < n → c.slots[k]? = some (g k)
def up {α : Type} (f : Nat → α) (i : Nat) (v : α) : Nat → α := fun k => if k = i then v else f k
section AVs
variable {p : Program} {l : Launch} {e : Env} {R : Room} {s : State} {m : MethodId} {args : Array Value} {below : List Frame} {meth : Method} {c : Code} {T : State} {locs : List Loc} {cells slots : Nat}
variable {Z : State} {h h' : Heap} {a b : Addr} {ty : FieldType} {n : Nat} {g g' : Nat → Value} {sl : Nat} {v : Value} {ws : List Addr} {j : Int32}
theorem AV.lt (F : AV Z h a ty n g) : a < h.size := by obtain ⟨_, c, A, -⟩ := F; exact A.lt
theorem AV.ext (F : AV Z h a ty n g) (E : Ext h h') : AV Z h' a ty n g := by obtain ⟨q, c, A, r⟩ := F; exact ⟨q, c, A.ext E, r⟩
theorem AV.other (F : AV Z h b ty n g) (W : Wr h h' a sl v) (q : b ≠ a) : AV Z h' b ty n g := by obtain ⟨q', c, A, r⟩ := F; exact ⟨q', c, A.other W q, r⟩
theorem AV.keep (F : AV Z h a ty n g) (K : Keep h h' ws) (q : a ∉ ws) : AV Z h' a ty n g := by obtain ⟨q', c, A, r⟩ := F; exact ⟨q', c, ⟨K.2.1 a c A.1 q, A.2⟩, r⟩
theorem AV.congr (F : AV Z h a ty n g) (q : ∀ k, k < n → g k = g' k) : AV Z h a ty n g' := by obtain ⟨q', c, A, r1, r2⟩ := F; exact ⟨q', c, A, r1, fun k hk => by rw [← q k hk]; exact r2 k hk⟩
theorem AV.set (F : AV Z h a ty n g) (W : Wr h h' a sl v) : AV Z h' a ty n (up g sl v) := by
  obtain ⟨q', c, A, r1, r2⟩ := F
  refine ⟨q', _, A.same W, by rw [sz_set]; exact r1, fun k hk => ?_⟩
  by_cases u : k = sl
  · subst u; simp [Cell.setSlot, up, r1, hk]
  · simp only [Cell.setSlot, up, if_neg u]; rw [Array.getElem?_setIfInBounds_ne (Ne.symm u)]; exact r2 k hk
theorem AV.new {k : ClassId} {z : Int32} (A : Arr Z h a (newA k ty z) ty) : AV Z h a ty z.toNatClampNeg (fun _ => defaultValue ty) := by
  refine ⟨by have := Int32.toInt_lt z; simp only [Int32.toNatClampNeg]; omega, _, A, sz_new _ _ _, fun i hi => by simp [newA, hi]⟩
theorem AV.inb {cl : Cell} (hs : cl.slots.size = n) (hj : ¬ j < 0 ∧ j.toNatClampNeg < n) : ¬ (j < 0 ∨ cl.slots.size ≤ j.toNatClampNeg) := fun q => q.elim hj.1 fun q => by rw [hs] at q; exact absurd hj.2 (Nat.not_lt.mpr q)
theorem AV.len (F : AV Z h a ty n g) (X : Stand p l e R s m args below meth c T locs cells slots) (hx : p.tables.exec = Jvm.exec) (hZ : Z.Warmed39 s.vm) (eT : T.heap = h) {pc : Nat} {Ls : Array Slot} {rest : List Value} (hd : decode c.code pc = .ok (.arraylength, 1)) {t : State}
    (k : Steps p.tables e below (T.setTop (mkF m (pc + 1) Ls (.int (Int32.ofNat n) :: rest))) t) : Steps p.tables e below (T.setTop (mkF m pc Ls (.ref a :: rest))) t := by
  obtain ⟨q', cl, A, r1, r2⟩ := F
  subst r1
  exact X.arraylength hx (by rw [eT]; exact A.1) (State.isArrayOf_alike hZ.alike A.2.1) (g := mkF m pc Ls (.ref a :: rest)) rfl rfl hd _ k
theorem AV.iaload {f : Nat → Int32} (F : AV Z h a .int n (fun k => .int (f k))) (X : Stand p l e R s m args below meth c T locs cells slots) (hx : p.tables.exec = Jvm.exec) (hZ : Z.Warmed39 s.vm) (eT : T.heap = h) (hj : ¬ j < 0 ∧ j.toNatClampNeg < n) {pc : Nat} {Ls : Array Slot} {rest : List Value} (hd : decode c.code pc = .ok (.iaload, 1)) {t : State}
    (k : Steps p.tables e below (T.setTop (mkF m (pc + 1) Ls (.int (f j.toNatClampNeg) :: rest))) t) : Steps p.tables e below (T.setTop (mkF m pc Ls (.int j :: .ref a :: rest))) t := by
  obtain ⟨q', cl, A, r1, r2⟩ := F
  exact X.iaload hx (j := j) (v := .int (f j.toNatClampNeg)) (by rw [eT]; exact A.1) (State.isArrayOf_alike hZ.alike A.2.1) A.2.2 (AV.inb r1 hj) (r2 _ hj.2) (g := mkF m pc Ls (.int j :: .ref a :: rest)) rfl rfl hd _ k
theorem AV.laload {f : Nat → Int64} (F : AV Z h a .long n (fun k => .long (f k))) (X : Stand p l e R s m args below meth c T locs cells slots) (hx : p.tables.exec = Jvm.exec) (hZ : Z.Warmed39 s.vm) (eT : T.heap = h) (hj : ¬ j < 0 ∧ j.toNatClampNeg < n) {pc : Nat} {Ls : Array Slot} {rest : List Value} (hd : decode c.code pc = .ok (.laload, 1)) {t : State}
    (k : Steps p.tables e below (T.setTop (mkF m (pc + 1) Ls (.long (f j.toNatClampNeg) :: rest))) t) : Steps p.tables e below (T.setTop (mkF m pc Ls (.int j :: .ref a :: rest))) t := by
  obtain ⟨q', cl, A, r1, r2⟩ := F
  exact X.laload hx (j := j) (v := .long (f j.toNatClampNeg)) (by rw [eT]; exact A.1) (State.isArrayOf_alike hZ.alike A.2.1) A.2.2 (AV.inb r1 hj) (r2 _ hj.2) (g := mkF m pc Ls (.int j :: .ref a :: rest)) rfl rfl hd _ k
theorem AV.aaload (F : AV Z h a ty n g) (hty : ty.isReference = true) (X : Stand p l e R s m args below meth c T locs cells slots) (hx : p.tables.exec = Jvm.exec) (hZ : Z.Warmed39 s.vm) (eT : T.heap = h) (hj : ¬ j < 0 ∧ j.toNatClampNeg < n) {pc : Nat} {Ls : Array Slot} {rest : List Value} (hd : decode c.code pc = .ok (.aaload, 1)) {t : State}
    (k : Steps p.tables e below (T.setTop (mkF m (pc + 1) Ls (g j.toNatClampNeg :: rest))) t) : Steps p.tables e below (T.setTop (mkF m pc Ls (.int j :: .ref a :: rest))) t := by
  obtain ⟨q', cl, A, r1, r2⟩ := F
  exact X.aaload hx (j := j) (v := g j.toNatClampNeg) (by rw [eT]; exact A.1) (State.isArrayOf_alike hZ.alike A.2.1) hty A.2.2 (AV.inb r1 hj) (r2 _ hj.2) (g := mkF m pc Ls (.int j :: .ref a :: rest)) rfl rfl hd _ k
theorem AV.iastore {f : Nat → Int32} {x : Int32} (F : AV Z h a .int n (fun k => .int (f k))) (X : Stand p l e R s m args below meth c T locs cells slots) (hx : p.tables.exec = Jvm.exec) (hZ : Z.Warmed39 s.vm) (eT : T.heap = h) (hj : ¬ j < 0 ∧ j.toNatClampNeg < n) {pc : Nat} {Ls : Array Slot} {rest : List Value} (hd : decode c.code pc = .ok (.iastore, 1)) :
    ∃ T' h', Stand p l e R s m args below meth c T' (locs ++ [⟨a, j.toNatClampNeg⟩]) cells slots ∧ T'.heap = h' ∧ Wr h h' a j.toNatClampNeg (.int x) ∧ AV Z h' a .int n (fun k => .int (up f j.toNatClampNeg x k)) ∧
      ∀ t, Steps p.tables e below (T'.setTop (mkF m (pc + 1) Ls rest)) t → Steps p.tables e below (T.setTop (mkF m pc Ls (.int x :: .int j :: .ref a :: rest))) t := by
  have F0 := F
  obtain ⟨q', cl, A, r1, r2⟩ := F
  obtain ⟨T', h', X', e', W, st⟩ := stI X hx hZ eT A (j := j) (AV.inb r1 hj) (g := mkF m pc Ls (.int x :: .int j :: .ref a :: rest)) rfl rfl hd
  exact ⟨T', h', X', e', W, (F0.set W).congr (fun k _ => by unfold up; split <;> rfl), st⟩
theorem AV.lastore {f : Nat → Int64} {x : Int64} (F : AV Z h a .long n (fun k => .long (f k))) (X : Stand p l e R s m args below meth c T locs cells slots) (hx : p.tables.exec = Jvm.exec) (hZ : Z.Warmed39 s.vm) (eT : T.heap = h) (hj : ¬ j < 0 ∧ j.toNatClampNeg < n) {pc : Nat} {Ls : Array Slot} {rest : List Value} (hd : decode c.code pc = .ok (.lastore, 1)) :
    ∃ T' h', Stand p l e R s m args below meth c T' (locs ++ [⟨a, j.toNatClampNeg⟩]) cells slots ∧ T'.heap = h' ∧ Wr h h' a j.toNatClampNeg (.long x) ∧ AV Z h' a .long n (fun k => .long (up f j.toNatClampNeg x k)) ∧
      ∀ t, Steps p.tables e below (T'.setTop (mkF m (pc + 1) Ls rest)) t → Steps p.tables e below (T.setTop (mkF m pc Ls (.long x :: .int j :: .ref a :: rest))) t := by
  have F0 := F
  obtain ⟨q', cl, A, r1, r2⟩ := F
  obtain ⟨T', h', X', e', W, st⟩ := stJ X hx hZ eT A (j := j) (AV.inb r1 hj) (g := mkF m pc Ls (.long x :: .int j :: .ref a :: rest)) rfl rfl hd
  exact ⟨T', h', X', e', W, (F0.set W).congr (fun k _ => by unfold up; split <;> rfl), st⟩
theorem AV.bastoreZ {f : Nat → Int32} {x : Int32} (F : AV Z h a .boolean n (fun k => .int (f k))) (X : Stand p l e R s m args below meth c T locs cells slots) (hx : p.tables.exec = Jvm.exec) (hZ : Z.Warmed39 s.vm) (eT : T.heap = h) (hj : ¬ j < 0 ∧ j.toNatClampNeg < n) {pc : Nat} {Ls : Array Slot} {rest : List Value} (hd : decode c.code pc = .ok (.bastore, 1)) :
    ∃ T' h', Stand p l e R s m args below meth c T' (locs ++ [⟨a, j.toNatClampNeg⟩]) cells slots ∧ T'.heap = h' ∧ Wr h h' a j.toNatClampNeg (.int (nar .boolean x)) ∧ AV Z h' a .boolean n (fun k => .int (up f j.toNatClampNeg (nar .boolean x) k)) ∧
      ∀ t, Steps p.tables e below (T'.setTop (mkF m (pc + 1) Ls rest)) t → Steps p.tables e below (T.setTop (mkF m pc Ls (.int x :: .int j :: .ref a :: rest))) t := by
  have F0 := F
  obtain ⟨q', cl, A, r1, r2⟩ := F
  obtain ⟨T', h', X', e', W, st⟩ := stZ X hx hZ eT A (j := j) (AV.inb r1 hj) (g := mkF m pc Ls (.int x :: .int j :: .ref a :: rest)) rfl rfl hd
  exact ⟨T', h', X', e', W, (F0.set W).congr (fun k _ => by unfold up; split <;> rfl), st⟩
theorem AV.aastore (F : AV Z h a ty n g) (hty : ty.isReference = true) (S : Sto Z h a v) (X : Stand p l e R s m args below meth c T locs cells slots) (hx : p.tables.exec = Jvm.exec) (hZ : Z.Warmed39 s.vm) (eT : T.heap = h) (hj : ¬ j < 0 ∧ j.toNatClampNeg < n) {pc : Nat} {Ls : Array Slot} {rest : List Value} (hd : decode c.code pc = .ok (.aastore, 1)) :
    ∃ T' h', Stand p l e R s m args below meth c T' (locs ++ [⟨a, j.toNatClampNeg⟩]) cells slots ∧ T'.heap = h' ∧ Wr h h' a j.toNatClampNeg v ∧ AV Z h' a ty n (up g j.toNatClampNeg v) ∧
      ∀ t, Steps p.tables e below (T'.setTop (mkF m (pc + 1) Ls rest)) t → Steps p.tables e below (T.setTop (mkF m pc Ls (v :: .int j :: .ref a :: rest))) t := by
  have F0 := F
  obtain ⟨q', cl, A, r1, r2⟩ := F
  obtain ⟨T', h', X', e', W, st⟩ := stR X hx hZ eT A (j := j) (AV.inb r1 hj) hty S (g := mkF m pc Ls (v :: .int j :: .ref a :: rest)) rfl rfl hd
  exact ⟨T', h', X', e', W, F0.set W, st⟩
end AVs
/-- what may lie in an array of arrays -/
def OV (Z : State) (h : Heap) (a : Addr) (ty : FieldType) (C : String) : Prop := ∃ cl : Cell, h[a]? = some cl ∧ OvrA Z cl.cls ty C
section OVs
variable {Z : State} {h h' : Heap} {a b : Addr} {ty t0 : FieldType} {C : String} {n : Nat} {g : Nat → Value} {sl : Nat} {v : Value} {ws : List Addr}
theorem OV.ext (F : OV Z h a ty C) (E : Ext h h') : OV Z h' a ty C := by obtain ⟨cl, q, O⟩ := F; exact ⟨cl, E.2 _ _ q, O⟩
theorem OV.wr (F : OV Z h a ty C) (W : Wr h h' b sl v) : OV Z h' a ty C := by
  obtain ⟨cl, q, O⟩ := F; obtain ⟨c', e1, e2, -⟩ := wr_at W q; exact ⟨c', e1, by rw [e2]; exact O⟩
theorem OV.keep (F : OV Z h a ty C) (K : Keep h h' ws) : OV Z h' a ty C := by
  obtain ⟨cl, q, O⟩ := F; obtain ⟨c', e1, e2, -⟩ := K.2.2 _ _ q; exact ⟨c', e1, by rw [e2]; exact O⟩
theorem OV.sto (F : OV Z h a ty C) (A : AV Z h a t0 n g) (I : Ins Z h b C true) : Sto Z h a (.ref b) := by
  obtain ⟨cl, q, O⟩ := F; obtain ⟨-, c, A', -⟩ := A; cases q.symm.trans A'.1; exact Sto.ofVA A' rfl O I
end OVs
section AVc
variable {p : Program} {l : Launch} {e : Env} {R : Room} {s : State} {m : MethodId} {args : Array Value} {below : List Frame} {meth : Method} {c : Code} {T : State} {locs : List Loc} {cells slots : Nat}
variable {Z : State} {h : Heap} {a : Addr} {ty : FieldType} {n : Nat} {g0 : Nat → Value} {a0 : Array Value}
theorem AV.clone (F : AV Z h a ty n g0) (ht : ∀ k, k < n → fits ty (g0 k) = true) (X : Stand p l e R s m args below meth c T locs cells slots) (hx : p.tables.exec = Jvm.exec) (hZ : Z.Warmed39 s.vm) {own ad : String} {index : Nat} (hown : s.vm.findClass own = some m.cls)
    (w1 : (Cond.methodLink own index ⟨ad, "clone", "()Ljava/lang/Object;"⟩).before a0 Z = true) (w2 : (Cond.sameMethod ad "java/lang/Object" "clone" "()Ljava/lang/Object;").before a0 Z = true) (w3 : (Cond.native ⟨"java/lang/Object", "clone", "()Ljava/lang/Object;"⟩).before a0 Z = true)
    (w4 : (Cond.instanceMethod ⟨"java/lang/Object", "clone", "()Ljava/lang/Object;"⟩).before a0 Z = true) (w5 : (Cond.selects ad ⟨ad, "clone", "()Ljava/lang/Object;"⟩ ⟨"java/lang/Object", "clone", "()Ljava/lang/Object;"⟩).before a0 Z = true) (w6 : (Cond.castable ad "java/lang/Cloneable").before a0 Z = true)
    (eT : T.heap = h) (E : Exa Z h a ad) {g : JFrame} (hg : g.method = m) (hsize : g.locals.size = c.maxLocals) {rest : List Value} (hst : g.stack = .ref a :: rest) (hd : decode c.code g.pc = .ok (.invokevirtual index, 3))
    (hf : 1 ≤ R.frames) {W cap : Nat} (hW : 2 * g.monitorRoom + (rest.map fun v => v.category).sum ≤ W) (hl : W + 14 ≤ R.locals) (hcap : n ≤ cap) (hc : cells + 1 ≤ R.cells) (hsl : slots + cap ≤ R.slots) :
    ∃ T' h', Stand p l e R s m args below meth c T' locs (cells + 1) (slots + cap) ∧ T'.heap = h' ∧ Ext h h' ∧ AV Z h' h.size ty n g0 ∧ Exa Z h' h.size ad ∧
      ∀ target, Steps p.tables e below (T'.setTop { g with pc := g.pc + 3, stack := .ref h.size :: rest }) target → Steps p.tables e below (T.setTop g) target := by
  obtain ⟨q0, cl, A, S, H⟩ := F
  have FC : FitC Z cl := fitC_of A fun i hi v hv => by
    rw [S] at hi; rw [H i hi] at hv; cases hv; exact ht i hi
  obtain ⟨T', h', X', e', ex, A', E', st⟩ := cloneA X hx hZ hown w1 w2 w3 w4 w5 w6 eT A E FC hg hsize hst hd hf hW hl (by rw [S]; exact hcap) hc hsl
  exact ⟨T', h', X', e', ex, ⟨q0, cloneOf cl, A', S, H⟩, E', st⟩
end AVc

theorem own_ix {p : Int32} (h0 : ¬ p < 0) (h1 : p < 26) : ¬ p < 0 ∧ p.toNatClampNeg < 26 := by
  refine ⟨h0, ?_⟩
  rw [Int32.lt_iff_toInt_lt] at h0 h1
  have e0 : (0 : Int32).toInt = 0 := rfl
  have e1 : (26 : Int32).toInt = 26 := rfl
  simp only [Int32.toNatClampNeg]; omega
theorem d1_0 : decode prog_64_method_4_code 0 = .ok (.iload_n 0, 1) := by decide +kernel
theorem d1_1 : decode prog_64_method_4_code 1 = .ok (.getstatic 76, 3) := by decide +kernel
theorem d1_4 : decode prog_64_method_4_code 4 = .ok (.arraylength, 1) := by decide +kernel
theorem d1_5 : decode prog_64_method_4_code 5 = .ok (.if_icmp .ge 11, 3) := by decide +kernel
theorem d1_8 : decode prog_64_method_4_code 8 = .ok (.getstatic 76, 3) := by decide +kernel
theorem d1_11 : decode prog_64_method_4_code 11 = .ok (.iload_n 0, 1) := by decide +kernel
theorem d1_12 : decode prog_64_method_4_code 12 = .ok (.aaload, 1) := by decide +kernel
theorem d1_13 : decode prog_64_method_4_code 13 = .ok (.goto 4, 3) := by decide +kernel
theorem d1_17 : decode prog_64_method_4_code 17 = .ok (.areturn, 1) := by decide +kernel
theorem d1_16 : decode prog_64_method_4_code 16 = .ok (.aconst_null, 1) := by decide +kernel
def f1 (p0 : Int32) (aB : Addr) (g : Nat → Value) : Value := (if p0 < (26 : Int32) then (g p0.toNatClampNeg) else .null)
def Q1 (p0 : Int32) (aB : Addr) (g : Nat → Value) (h0 : Heap) (n0 : Nat) (v : Option Value) (h : Heap) (L : List Loc) : Prop := v = some (f1 p0 aB g) ∧ Fr n0 L ∧ h = h0
theorem pn_0 : plainName "com/example/mete/mete/core/Record$Type" = true := by first | (simp [plainName, overriddenIn]; done) | decide +kernel
theorem ef_1_a (m : MethodId) (x0 : Int32) : entryFrame m #[(.int x0)] 1 = mkF m 0 #[.val (.int x0)] [] := by first | (simp [entryFrame, mkF, argsToLocals, Value.category]; done) | rfl
set_option maxRecDepth 65536 in
set_option maxHeartbeats 40000000 in
theorem rm1 (l : Launch) (Z : State) (a0 : Array Value) (hw : ∀ d ∈ tables_1, d.before a0 Z = true) (ws : List Jvm.Cond) (p0 : Int32) (aB : Addr) (g : Nat → Value) (h0 : Heap) (n0 : Nat) (Z0 : n0 ≤ h0.size) (ha0 : Sta Z h0 "com/example/mete/mete/core/Record$Type" "BY_CODE" "[Lcom/example/mete/mete/core/Record$Type;" (.ref aB)) (ha1 : AV Z h0 aB (.object "com/example/mete/mete/core/Record$Type") 26 g) (hp : ¬ p0 < 0) (hg : ∀ k, (g k).isRef = true) :
    MetFree l (⟨"com/example/mete/mete/core/Record$Type", "coded", "(I)Lcom/example/mete/mete/core/Record$Type;"⟩ : MethodName) (head1 (Jvm.Cond.code (⟨"com/example/mete/mete/core/Record$Type", "coded", "(I)Lcom/example/mete/mete/core/Record$Type;"⟩ : MethodName) prog_64_method_4_code 1 (some (.object "com/example/mete/mete/core/Record$Type")) :: ws) ({ frames := 0, cells := 0, slots := 0, locals := 0 } : Room)) (fun a U => a = #[(.int p0)] ∧ Z.Warmed39 U.vm ∧ U.heap = h0) (fun _ _ _ _ _ => True) (fun _ U o U' => ∃ v L, o = .returned v ∧ Q1 p0 aB g h0 n0 v U'.heap L ∧ FrameEnd U o U' L ({ frames := 0, cells := 0, slots := 0, locals := 0 } : Room).cells ({ frames := 0, cells := 0, slots := 0, locals := 0 } : Room).slots) := by
  refine MetFree.of_bodySF (plainFor_of_name pn_0) hisR ?_
  intro p e s m args below meth c s₁ Bd hml0 hP hK
  obtain ⟨rfl, hZ, hh⟩ := hP
  have hx := Bd.exec
  have hby := Bd.bytes
  have hml : c.maxLocals = 1 := hml0
  have hown : s.vm.findClass "com/example/mete/mete/core/Record$Type" = some m.cls := findClass_of_methodNamed Bd.named
  have hnm := (name_of_methodNamed Bd.named Bd.method).1
  have X0 : Stand p l e ({ frames := 0, cells := 0, slots := 0, locals := 0 } : Room) s m #[(.int p0)] below meth c s₁ [] 0 0 := Stand.of_body Bd
  have e0 : s₁.heap = h0 := by rw [← hh, Bd.state]; rfl
  have N0 := Fr.nil n0
  refine Go.into (P := fun oo uu => ∃ v L, oo = .returned v ∧ Q1 p0 aB g h0 n0 v uu.heap L ∧ FrameEnd s oo uu L ({ frames := 0, cells := 0, slots := 0, locals := 0 } : Room).cells ({ frames := 0, cells := 0, slots := 0, locals := 0 } : Room).slots) (ef_1_a m p0) ?_
  show Go p e below _ (s₁.setTop (mkF m 0 #[.val (.int p0)] []))
  refine Go.via (T' := s₁.setTop (mkF m 1 #[.val (.int p0)] [(.int p0)])) (fun tZ kZ => ?_) ?_
  · show Steps p.tables e below (s₁.setTop (mkF m 0 #[.val (.int p0)] [])) _
    refine XS.iloadN X0.here hx rfl (hb hby d1_0) rfl ?_
    show Steps p.tables e below (s₁.setTop (mkF m 1 #[.val (.int p0)] [(.int p0)])) _
    exact kZ
  obtain ⟨T1, X1, e1, st1⟩ := getS2 X0 hx hZ hown (host := "") (Or.inl (hw _ (List.mem_of_getElem? (i := 5) rfl))) Via.refl e0 ha0 (g := (mkF m 1 #[.val (.int p0)] [(.int p0)])) rfl (hb hby d1_1)
  refine Go.via st1 ?_
  show Go p e below _ (T1.setTop (mkF m 4 #[.val (.int p0)] [(.ref aB), (.int p0)]))
  refine Go.via (T' := T1.setTop (mkF m 5 #[.val (.int p0)] [(.int (26 : Int32)), (.int p0)])) (fun tZ kZ => ?_) ?_
  · show Steps p.tables e below (T1.setTop (mkF m 4 #[.val (.int p0)] [(.ref aB), (.int p0)])) _
    refine AV.len ha1 X1 hx hZ e1 (hb hby d1_4) ?_
    show Steps p.tables e below (T1.setTop (mkF m 5 #[.val (.int p0)] [(.int (26 : Int32)), (.int p0)])) _
    exact kZ
  by_cases hc5 : p0 < (26 : Int32)
  · refine Go.via (T' := T1.setTop (mkF m 8 #[.val (.int p0)] [])) (fun tZ kZ => ?_) ?_
    · show Steps p.tables e below (T1.setTop (mkF m 5 #[.val (.int p0)] [(.int (26 : Int32)), (.int p0)])) _
      refine XS.icmpNo X1.here hx rfl (hb hby d1_5) rfl (tlt hc5).2.1 ?_
      exact kZ
    obtain ⟨T2, X2, e2, st2⟩ := getS2 X1 hx hZ hown (host := "") (Or.inl (hw _ (List.mem_of_getElem? (i := 5) rfl))) Via.refl e1 ha0 (g := (mkF m 8 #[.val (.int p0)] [])) rfl (hb hby d1_8)
    refine Go.via st2 ?_
    show Go p e below _ (T2.setTop (mkF m 11 #[.val (.int p0)] [(.ref aB)]))
    refine Go.via (T' := T2.setTop (mkF m 17 #[.val (.int p0)] [(g p0.toNatClampNeg)])) (fun tZ kZ => ?_) ?_
    · show Steps p.tables e below (T2.setTop (mkF m 11 #[.val (.int p0)] [(.ref aB)])) _
      refine XS.iloadN X2.here hx rfl (hb hby d1_11) rfl ?_
      show Steps p.tables e below (T2.setTop (mkF m 12 #[.val (.int p0)] [(.int p0), (.ref aB)])) _
      refine AV.aaload ha1 rfl X2 hx hZ e2 (j := p0) (own_ix hp hc5) (hb hby d1_12) ?_
      show Steps p.tables e below (T2.setTop (mkF m 13 #[.val (.int p0)] [(g p0.toNatClampNeg)])) _
      refine XS.goto X2.here hx rfl (pc0 := 13) (pc' := 17) rfl (hb hby d1_13) (by decide) (by decide) ?_
      show Steps p.tables e below (T2.setTop (mkF m 17 #[.val (.int p0)] [(g p0.toNatClampNeg)])) _
      exact kZ
    refine Go.retR X2 hx Bd.notSynchronized Bd.returns rfl (hg _) (hb hby d1_17) (by decide) (by decide) ?_
    refine ⟨?_, N0, e2⟩
    show some ((g p0.toNatClampNeg) : Value) = some (f1 p0 aB g)
    unfold f1; rw [if_pos hc5] <;> rfl
  · refine Go.via (T' := T1.setTop (mkF m 16 #[.val (.int p0)] [])) (fun tZ kZ => ?_) ?_
    · show Steps p.tables e below (T1.setTop (mkF m 5 #[.val (.int p0)] [(.int (26 : Int32)), (.int p0)])) _
      refine XS.icmpYes X1.here hx rfl (pc0 := 5) (pc' := 16) rfl (hb hby d1_5) rfl (flt hc5).2.1 (by decide) (by decide) ?_
      exact kZ
    refine Go.via (T' := T1.setTop (mkF m 17 #[.val (.int p0)] [.null])) (fun tZ kZ => ?_) ?_
    · show Steps p.tables e below (T1.setTop (mkF m 16 #[.val (.int p0)] [])) _
      refine XS.aconstNull X1.here hx rfl (hb hby d1_16) ?_
      show Steps p.tables e below (T1.setTop (mkF m 17 #[.val (.int p0)] [.null])) _
      exact kZ
    refine Go.retR X1 hx Bd.notSynchronized Bd.returns rfl rfl (hb hby d1_17) (by decide) (by decide) ?_
    refine ⟨?_, N0, e1⟩
    show some (.null : Value) = some (f1 p0 aB g)
    unfold f1; rw [if_neg hc5] <;> rfl
theorem d2_0 : decode method_3_code 0 = .ok (.iload_n 0, 1) := by decide +kernel
theorem d2_1 : decode method_3_code 1 = .ok (.bipush 6, 2) := by decide +kernel
theorem d2_3 : decode method_3_code 3 = .ok (.if_icmp .ne 7, 3) := by decide +kernel
theorem d2_6 : decode method_3_code 6 = .ok (.getstatic 19, 3) := by decide +kernel
theorem d2_9 : decode method_3_code 9 = .ok (.areturn, 1) := by decide +kernel
theorem d2_10 : decode method_3_code 10 = .ok (.iload_n 0, 1) := by decide +kernel
theorem d2_11 : decode method_3_code 11 = .ok (.bipush 7, 2) := by decide +kernel
theorem d2_13 : decode method_3_code 13 = .ok (.if_icmp .ne 7, 3) := by decide +kernel
theorem d2_16 : decode method_3_code 16 = .ok (.getstatic 23, 3) := by decide +kernel
theorem d2_19 : decode method_3_code 19 = .ok (.areturn, 1) := by decide +kernel
theorem d2_20 : decode method_3_code 20 = .ok (.iload_n 0, 1) := by decide +kernel
theorem d2_21 : decode method_3_code 21 = .ok (.bipush 9, 2) := by decide +kernel
theorem d2_23 : decode method_3_code 23 = .ok (.if_icmp .ne 7, 3) := by decide +kernel
theorem d2_26 : decode method_3_code 26 = .ok (.getstatic 26, 3) := by decide +kernel
theorem d2_29 : decode method_3_code 29 = .ok (.areturn, 1) := by decide +kernel
theorem d2_30 : decode method_3_code 30 = .ok (.iload_n 0, 1) := by decide +kernel
theorem d2_31 : decode method_3_code 31 = .ok (.bipush 10, 2) := by decide +kernel
theorem d2_33 : decode method_3_code 33 = .ok (.if_icmp .ne 7, 3) := by decide +kernel
theorem d2_36 : decode method_3_code 36 = .ok (.getstatic 29, 3) := by decide +kernel
theorem d2_39 : decode method_3_code 39 = .ok (.areturn, 1) := by decide +kernel
theorem d2_40 : decode method_3_code 40 = .ok (.iload_n 0, 1) := by decide +kernel
theorem d2_41 : decode method_3_code 41 = .ok (.bipush 12, 2) := by decide +kernel
theorem d2_43 : decode method_3_code 43 = .ok (.if_icmp .ne 7, 3) := by decide +kernel
theorem d2_46 : decode method_3_code 46 = .ok (.getstatic 32, 3) := by decide +kernel
theorem d2_49 : decode method_3_code 49 = .ok (.areturn, 1) := by decide +kernel
theorem d2_50 : decode method_3_code 50 = .ok (.iload_n 0, 1) := by decide +kernel
theorem d2_51 : decode method_3_code 51 = .ok (.bipush 14, 2) := by decide +kernel
theorem d2_53 : decode method_3_code 53 = .ok (.if_icmp .ne 7, 3) := by decide +kernel
theorem d2_56 : decode method_3_code 56 = .ok (.getstatic 35, 3) := by decide +kernel
theorem d2_59 : decode method_3_code 59 = .ok (.areturn, 1) := by decide +kernel
theorem d2_60 : decode method_3_code 60 = .ok (.iload_n 0, 1) := by decide +kernel
theorem d2_61 : decode method_3_code 61 = .ok (.bipush 15, 2) := by decide +kernel
theorem d2_63 : decode method_3_code 63 = .ok (.if_icmp .ne 7, 3) := by decide +kernel
theorem d2_66 : decode method_3_code 66 = .ok (.getstatic 38, 3) := by decide +kernel
theorem d2_69 : decode method_3_code 69 = .ok (.areturn, 1) := by decide +kernel
theorem d2_70 : decode method_3_code 70 = .ok (.iload_n 0, 1) := by decide +kernel
theorem d2_71 : decode method_3_code 71 = .ok (.bipush 17, 2) := by decide +kernel
theorem d2_73 : decode method_3_code 73 = .ok (.if_icmp .ne 7, 3) := by decide +kernel
theorem d2_76 : decode method_3_code 76 = .ok (.getstatic 41, 3) := by decide +kernel
theorem d2_79 : decode method_3_code 79 = .ok (.areturn, 1) := by decide +kernel
theorem d2_80 : decode method_3_code 80 = .ok (.iload_n 0, 1) := by decide +kernel
theorem d2_81 : decode method_3_code 81 = .ok (.bipush 18, 2) := by decide +kernel
theorem d2_83 : decode method_3_code 83 = .ok (.if_icmp .ne 7, 3) := by decide +kernel
theorem d2_86 : decode method_3_code 86 = .ok (.getstatic 44, 3) := by decide +kernel
theorem d2_89 : decode method_3_code 89 = .ok (.areturn, 1) := by decide +kernel
theorem d2_90 : decode method_3_code 90 = .ok (.iload_n 0, 1) := by decide +kernel
theorem d2_91 : decode method_3_code 91 = .ok (.bipush 19, 2) := by decide +kernel
theorem d2_93 : decode method_3_code 93 = .ok (.if_icmp .ne 7, 3) := by decide +kernel
theorem d2_96 : decode method_3_code 96 = .ok (.getstatic 47, 3) := by decide +kernel
theorem d2_99 : decode method_3_code 99 = .ok (.areturn, 1) := by decide +kernel
theorem d2_100 : decode method_3_code 100 = .ok (.iload_n 0, 1) := by decide +kernel
theorem d2_101 : decode method_3_code 101 = .ok (.bipush 20, 2) := by decide +kernel
theorem d2_103 : decode method_3_code 103 = .ok (.if_icmp .ne 7, 3) := by decide +kernel
theorem d2_106 : decode method_3_code 106 = .ok (.getstatic 50, 3) := by decide +kernel
theorem d2_109 : decode method_3_code 109 = .ok (.areturn, 1) := by decide +kernel
theorem d2_110 : decode method_3_code 110 = .ok (.iload_n 0, 1) := by decide +kernel
theorem d2_111 : decode method_3_code 111 = .ok (.bipush 21, 2) := by decide +kernel
theorem d2_113 : decode method_3_code 113 = .ok (.if_icmp .ne 7, 3) := by decide +kernel
theorem d2_116 : decode method_3_code 116 = .ok (.getstatic 53, 3) := by decide +kernel
theorem d2_119 : decode method_3_code 119 = .ok (.areturn, 1) := by decide +kernel
theorem d2_120 : decode method_3_code 120 = .ok (.iload_n 0, 1) := by decide +kernel
theorem d2_121 : decode method_3_code 121 = .ok (.bipush 23, 2) := by decide +kernel
theorem d2_123 : decode method_3_code 123 = .ok (.if_icmp .ne 7, 3) := by decide +kernel
theorem d2_126 : decode method_3_code 126 = .ok (.getstatic 56, 3) := by decide +kernel
theorem d2_129 : decode method_3_code 129 = .ok (.areturn, 1) := by decide +kernel
theorem d2_130 : decode method_3_code 130 = .ok (.iload_n 0, 1) := by decide +kernel
theorem d2_131 : decode method_3_code 131 = .ok (.bipush 24, 2) := by decide +kernel
theorem d2_133 : decode method_3_code 133 = .ok (.if_icmp .ne 7, 3) := by decide +kernel
theorem d2_136 : decode method_3_code 136 = .ok (.getstatic 59, 3) := by decide +kernel
theorem d2_139 : decode method_3_code 139 = .ok (.areturn, 1) := by decide +kernel
theorem d2_140 : decode method_3_code 140 = .ok (.iload_n 0, 1) := by decide +kernel
theorem d2_141 : decode method_3_code 141 = .ok (.bipush 25, 2) := by decide +kernel
theorem d2_143 : decode method_3_code 143 = .ok (.if_icmp .ne 7, 3) := by decide +kernel
theorem d2_146 : decode method_3_code 146 = .ok (.getstatic 62, 3) := by decide +kernel
theorem d2_149 : decode method_3_code 149 = .ok (.areturn, 1) := by decide +kernel
theorem d2_150 : decode method_3_code 150 = .ok (.aconst_null, 1) := by decide +kernel
theorem d2_151 : decode method_3_code 151 = .ok (.areturn, 1) := by decide +kernel
def f2 (p0 : Int32) (a6_ : Addr) (a7_ : Addr) (a9_ : Addr) (a10_ : Addr) (a12_ : Addr) (a14_ : Addr) (a15_ : Addr) (a17_ : Addr) (a18_ : Addr) (a19_ : Addr) (a20_ : Addr) (a21_ : Addr) (a23_ : Addr) (a24_ : Addr) (a25_ : Addr) : Value := (if p0 = (6 : Int32) then (.ref a6_) else (if p0 = (7 : Int32) then (.ref a7_) else (if p0 = (9 : Int32) then (.ref a9_) else (if p0 = (10 : Int32) then (.ref a10_) else (if p0 = (12 : Int32) then (.ref a12_) else (if p0 = (14 : Int32) then (.ref a14_) else (if p0 = (15 : Int32) then (.ref a15_) else (if p0 = (17 : Int32) then (.ref a17_) else (if p0 = (18 : Int32) then (.ref a18_) else (if p0 = (19 : Int32) then (.ref a19_) else (if p0 = (20 : Int32) then (.ref a20_) else (if p0 = (21 : Int32) then (.ref a21_) else (if p0 = (23 : Int32) then (.ref a23_) else (if p0 = (24 : Int32) then (.ref a24_) else (if p0 = (25 : Int32) then (.ref a25_) else .null)))))))))))))))
def Q2 (p0 : Int32) (a6_ : Addr) (a7_ : Addr) (a9_ : Addr) (a10_ : Addr) (a12_ : Addr) (a14_ : Addr) (a15_ : Addr) (a17_ : Addr) (a18_ : Addr) (a19_ : Addr) (a20_ : Addr) (a21_ : Addr) (a23_ : Addr) (a24_ : Addr) (a25_ : Addr) (h0 : Heap) (n0 : Nat) (v : Option Value) (h : Heap) (L : List Loc) : Prop := v = some (f2 p0 a6_ a7_ a9_ a10_ a12_ a14_ a15_ a17_ a18_ a19_ a20_ a21_ a23_ a24_ a25_) ∧ Fr n0 L ∧ h = h0
theorem pn_1 : plainName "com/example/mete/mete/core/TypeCodedPinLaw" = true := by first | (simp [plainName, overriddenIn]; done) | decide +kernel
theorem ef_2_a (m : MethodId) (x0 : Int32) : entryFrame m #[(.int x0)] 1 = mkF m 0 #[.val (.int x0)] [] := by first | (simp [entryFrame, mkF, argsToLocals, Value.category]; done) | rfl
set_option maxRecDepth 65536 in
set_option maxHeartbeats 40000000 in
theorem rm2 (l : Launch) (Z : State) (a0 : Array Value) (hw : ∀ d ∈ tables_1, d.before a0 Z = true) (ws : List Jvm.Cond) (p0 : Int32) (a6_ : Addr) (a7_ : Addr) (a9_ : Addr) (a10_ : Addr) (a12_ : Addr) (a14_ : Addr) (a15_ : Addr) (a17_ : Addr) (a18_ : Addr) (a19_ : Addr) (a20_ : Addr) (a21_ : Addr) (a23_ : Addr) (a24_ : Addr) (a25_ : Addr) (h0 : Heap) (n0 : Nat) (Z0 : n0 ≤ h0.size) (ha0 : Sta Z h0 "com/example/mete/mete/core/Record$Type" "ITEM_RECEIVED" "Lcom/example/mete/mete/core/Record$Type;" (.ref a6_)) (ha1 : Sta Z h0 "com/example/mete/mete/core/Record$Type" "LEASE_RENEWED" "Lcom/example/mete/mete/core/Record$Type;" (.ref a7_)) (ha2 : Sta Z h0 "com/example/mete/mete/core/Record$Type" "QUEUE_CREATED" "Lcom/example/mete/mete/core/Record$Type;" (.ref a9_)) (ha3 : Sta Z h0 "com/example/mete/mete/core/Record$Type" "ITEM_RELEASED" "Lcom/example/mete/mete/core/Record$Type;" (.ref a10_)) (ha4 : Sta Z h0 "com/example/mete/mete/core/Record$Type" "LEASES_RAN_OUT" "Lcom/example/mete/mete/core/Record$Type;" (.ref a12_)) (ha5 : Sta Z h0 "com/example/mete/mete/core/Record$Type" "QUEUE_CLOSED" "Lcom/example/mete/mete/core/Record$Type;" (.ref a14_)) (ha6 : Sta Z h0 "com/example/mete/mete/core/Record$Type" "QUEUE_DELETED" "Lcom/example/mete/mete/core/Record$Type;" (.ref a15_)) (ha7 : Sta Z h0 "com/example/mete/mete/core/Record$Type" "ITEM_COMMITTED" "Lcom/example/mete/mete/core/Record$Type;" (.ref a17_)) (ha8 : Sta Z h0 "com/example/mete/mete/core/Record$Type" "ITEM_FAILED" "Lcom/example/mete/mete/core/Record$Type;" (.ref a18_)) (ha9 : Sta Z h0 "com/example/mete/mete/core/Record$Type" "ITEMS_REMOVED" "Lcom/example/mete/mete/core/Record$Type;" (.ref a19_)) (ha10 : Sta Z h0 "com/example/mete/mete/core/Record$Type" "SEGMENT_BEGUN" "Lcom/example/mete/mete/core/Record$Type;" (.ref a20_)) (ha11 : Sta Z h0 "com/example/mete/mete/core/Record$Type" "QUEUE_CARRIED" "Lcom/example/mete/mete/core/Record$Type;" (.ref a21_)) (ha12 : Sta Z h0 "com/example/mete/mete/core/Record$Type" "CHANGE_BEGUN" "Lcom/example/mete/mete/core/Record$Type;" (.ref a23_)) (ha13 : Sta Z h0 "com/example/mete/mete/core/Record$Type" "ITEM_SUBMITTED" "Lcom/example/mete/mete/core/Record$Type;" (.ref a24_)) (ha14 : Sta Z h0 "com/example/mete/mete/core/Record$Type" "ITEM_CARRIED" "Lcom/example/mete/mete/core/Record$Type;" (.ref a25_)) :
    MetFree l (⟨"com/example/mete/mete/core/TypeCodedPinLaw", "expected", "(I)Lcom/example/mete/mete/core/Record$Type;"⟩ : MethodName) (head1 (Jvm.Cond.code (⟨"com/example/mete/mete/core/TypeCodedPinLaw", "expected", "(I)Lcom/example/mete/mete/core/Record$Type;"⟩ : MethodName) method_3_code 1 (some (.object "com/example/mete/mete/core/Record$Type")) :: ws) ({ frames := 0, cells := 0, slots := 0, locals := 0 } : Room)) (fun a U => a = #[(.int p0)] ∧ Z.Warmed39 U.vm ∧ U.heap = h0) (fun _ _ _ _ _ => True) (fun _ U o U' => ∃ v L, o = .returned v ∧ Q2 p0 a6_ a7_ a9_ a10_ a12_ a14_ a15_ a17_ a18_ a19_ a20_ a21_ a23_ a24_ a25_ h0 n0 v U'.heap L ∧ FrameEnd U o U' L ({ frames := 0, cells := 0, slots := 0, locals := 0 } : Room).cells ({ frames := 0, cells := 0, slots := 0, locals := 0 } : Room).slots) := by
  refine MetFree.of_bodySF (plainFor_of_name pn_1) hisR ?_
  intro p e s m args below meth c s₁ Bd hml0 hP hK
  obtain ⟨rfl, hZ, hh⟩ := hP
  have hx := Bd.exec
  have hby := Bd.bytes
  have hml : c.maxLocals = 1 := hml0
  have hown : s.vm.findClass "com/example/mete/mete/core/TypeCodedPinLaw" = some m.cls := findClass_of_methodNamed Bd.named
  have hnm := (name_of_methodNamed Bd.named Bd.method).1
  have X0 : Stand p l e ({ frames := 0, cells := 0, slots := 0, locals := 0 } : Room) s m #[(.int p0)] below meth c s₁ [] 0 0 := Stand.of_body Bd
  have e0 : s₁.heap = h0 := by rw [← hh, Bd.state]; rfl
  have N0 := Fr.nil n0
  refine Go.into (P := fun oo uu => ∃ v L, oo = .returned v ∧ Q2 p0 a6_ a7_ a9_ a10_ a12_ a14_ a15_ a17_ a18_ a19_ a20_ a21_ a23_ a24_ a25_ h0 n0 v uu.heap L ∧ FrameEnd s oo uu L ({ frames := 0, cells := 0, slots := 0, locals := 0 } : Room).cells ({ frames := 0, cells := 0, slots := 0, locals := 0 } : Room).slots) (ef_2_a m p0) ?_
  show Go p e below _ (s₁.setTop (mkF m 0 #[.val (.int p0)] []))
  refine Go.via (T' := s₁.setTop (mkF m 3 #[.val (.int p0)] [(.int (6 : Int32)), (.int p0)])) (fun tZ kZ => ?_) ?_
  · show Steps p.tables e below (s₁.setTop (mkF m 0 #[.val (.int p0)] [])) _
    refine XS.iloadN X0.here hx rfl (hb hby d2_0) rfl ?_
    show Steps p.tables e below (s₁.setTop (mkF m 1 #[.val (.int p0)] [(.int p0)])) _
    refine XS.bipush X0.here hx rfl (hb hby d2_1) ?_
    show Steps p.tables e below (s₁.setTop (mkF m 3 #[.val (.int p0)] [(.int (6 : Int32)), (.int p0)])) _
    exact kZ
  by_cases hc3 : p0 = (6 : Int32)
  · refine Go.via (T' := s₁.setTop (mkF m 6 #[.val (.int p0)] [])) (fun tZ kZ => ?_) ?_
    · show Steps p.tables e below (s₁.setTop (mkF m 3 #[.val (.int p0)] [(.int (6 : Int32)), (.int p0)])) _
      refine XS.icmpNo X0.here hx rfl (hb hby d2_3) rfl (teq hc3).2 ?_
      exact kZ
    obtain ⟨T1, X1, e1, st1⟩ := getS2 X0 hx hZ hown (host := "") (Or.inl (hw _ (List.mem_of_getElem? (i := 14) rfl))) Via.refl e0 ha0 (g := (mkF m 6 #[.val (.int p0)] [])) rfl (hb hby d2_6)
    refine Go.via st1 ?_
    show Go p e below _ (T1.setTop (mkF m 9 #[.val (.int p0)] [(.ref a6_)]))
    refine Go.retR X1 hx Bd.notSynchronized Bd.returns rfl rfl (hb hby d2_9) (by decide) (by decide) ?_
    refine ⟨?_, N0, e1⟩
    show some ((.ref a6_) : Value) = some (f2 p0 a6_ a7_ a9_ a10_ a12_ a14_ a15_ a17_ a18_ a19_ a20_ a21_ a23_ a24_ a25_)
    unfold f2; rw [if_pos hc3] <;> rfl
  · refine Go.via (T' := s₁.setTop (mkF m 10 #[.val (.int p0)] [])) (fun tZ kZ => ?_) ?_
    · show Steps p.tables e below (s₁.setTop (mkF m 3 #[.val (.int p0)] [(.int (6 : Int32)), (.int p0)])) _
      refine XS.icmpYes X0.here hx rfl (pc0 := 3) (pc' := 10) rfl (hb hby d2_3) rfl (feq hc3).2 (by decide) (by decide) ?_
      exact kZ
    refine Go.via (T' := s₁.setTop (mkF m 13 #[.val (.int p0)] [(.int (7 : Int32)), (.int p0)])) (fun tZ kZ => ?_) ?_
    · show Steps p.tables e below (s₁.setTop (mkF m 10 #[.val (.int p0)] [])) _
      refine XS.iloadN X0.here hx rfl (hb hby d2_10) rfl ?_
      show Steps p.tables e below (s₁.setTop (mkF m 11 #[.val (.int p0)] [(.int p0)])) _
      refine XS.bipush X0.here hx rfl (hb hby d2_11) ?_
      show Steps p.tables e below (s₁.setTop (mkF m 13 #[.val (.int p0)] [(.int (7 : Int32)), (.int p0)])) _
      exact kZ
    by_cases hc13 : p0 = (7 : Int32)
    · refine Go.via (T' := s₁.setTop (mkF m 16 #[.val (.int p0)] [])) (fun tZ kZ => ?_) ?_
      · show Steps p.tables e below (s₁.setTop (mkF m 13 #[.val (.int p0)] [(.int (7 : Int32)), (.int p0)])) _
        refine XS.icmpNo X0.here hx rfl (hb hby d2_13) rfl (teq hc13).2 ?_
        exact kZ
      obtain ⟨T2, X2, e2, st2⟩ := getS2 X0 hx hZ hown (host := "") (Or.inl (hw _ (List.mem_of_getElem? (i := 18) rfl))) Via.refl e0 ha1 (g := (mkF m 16 #[.val (.int p0)] [])) rfl (hb hby d2_16)
      refine Go.via st2 ?_
      show Go p e below _ (T2.setTop (mkF m 19 #[.val (.int p0)] [(.ref a7_)]))
      refine Go.retR X2 hx Bd.notSynchronized Bd.returns rfl rfl (hb hby d2_19) (by decide) (by decide) ?_
      refine ⟨?_, N0, e2⟩
      show some ((.ref a7_) : Value) = some (f2 p0 a6_ a7_ a9_ a10_ a12_ a14_ a15_ a17_ a18_ a19_ a20_ a21_ a23_ a24_ a25_)
      unfold f2; rw [if_neg hc3, if_pos hc13] <;> rfl
    · refine Go.via (T' := s₁.setTop (mkF m 20 #[.val (.int p0)] [])) (fun tZ kZ => ?_) ?_
      · show Steps p.tables e below (s₁.setTop (mkF m 13 #[.val (.int p0)] [(.int (7 : Int32)), (.int p0)])) _
        refine XS.icmpYes X0.here hx rfl (pc0 := 13) (pc' := 20) rfl (hb hby d2_13) rfl (feq hc13).2 (by decide) (by decide) ?_
        exact kZ
      refine Go.via (T' := s₁.setTop (mkF m 23 #[.val (.int p0)] [(.int (9 : Int32)), (.int p0)])) (fun tZ kZ => ?_) ?_
      · show Steps p.tables e below (s₁.setTop (mkF m 20 #[.val (.int p0)] [])) _
        refine XS.iloadN X0.here hx rfl (hb hby d2_20) rfl ?_
        show Steps p.tables e below (s₁.setTop (mkF m 21 #[.val (.int p0)] [(.int p0)])) _
        refine XS.bipush X0.here hx rfl (hb hby d2_21) ?_
        show Steps p.tables e below (s₁.setTop (mkF m 23 #[.val (.int p0)] [(.int (9 : Int32)), (.int p0)])) _
        exact kZ
      by_cases hc23 : p0 = (9 : Int32)
      · refine Go.via (T' := s₁.setTop (mkF m 26 #[.val (.int p0)] [])) (fun tZ kZ => ?_) ?_
        · show Steps p.tables e below (s₁.setTop (mkF m 23 #[.val (.int p0)] [(.int (9 : Int32)), (.int p0)])) _
          refine XS.icmpNo X0.here hx rfl (hb hby d2_23) rfl (teq hc23).2 ?_
          exact kZ
        obtain ⟨T3, X3, e3, st3⟩ := getS2 X0 hx hZ hown (host := "") (Or.inl (hw _ (List.mem_of_getElem? (i := 26) rfl))) Via.refl e0 ha2 (g := (mkF m 26 #[.val (.int p0)] [])) rfl (hb hby d2_26)
        refine Go.via st3 ?_
        show Go p e below _ (T3.setTop (mkF m 29 #[.val (.int p0)] [(.ref a9_)]))
        refine Go.retR X3 hx Bd.notSynchronized Bd.returns rfl rfl (hb hby d2_29) (by decide) (by decide) ?_
        refine ⟨?_, N0, e3⟩
        show some ((.ref a9_) : Value) = some (f2 p0 a6_ a7_ a9_ a10_ a12_ a14_ a15_ a17_ a18_ a19_ a20_ a21_ a23_ a24_ a25_)
        unfold f2; rw [if_neg hc3, if_neg hc13, if_pos hc23] <;> rfl
      · refine Go.via (T' := s₁.setTop (mkF m 30 #[.val (.int p0)] [])) (fun tZ kZ => ?_) ?_
        · show Steps p.tables e below (s₁.setTop (mkF m 23 #[.val (.int p0)] [(.int (9 : Int32)), (.int p0)])) _
          refine XS.icmpYes X0.here hx rfl (pc0 := 23) (pc' := 30) rfl (hb hby d2_23) rfl (feq hc23).2 (by decide) (by decide) ?_
          exact kZ
        refine Go.via (T' := s₁.setTop (mkF m 33 #[.val (.int p0)] [(.int (10 : Int32)), (.int p0)])) (fun tZ kZ => ?_) ?_
        · show Steps p.tables e below (s₁.setTop (mkF m 30 #[.val (.int p0)] [])) _
          refine XS.iloadN X0.here hx rfl (hb hby d2_30) rfl ?_
          show Steps p.tables e below (s₁.setTop (mkF m 31 #[.val (.int p0)] [(.int p0)])) _
          refine XS.bipush X0.here hx rfl (hb hby d2_31) ?_
          show Steps p.tables e below (s₁.setTop (mkF m 33 #[.val (.int p0)] [(.int (10 : Int32)), (.int p0)])) _
          exact kZ
        by_cases hc33 : p0 = (10 : Int32)
        · refine Go.via (T' := s₁.setTop (mkF m 36 #[.val (.int p0)] [])) (fun tZ kZ => ?_) ?_
          · show Steps p.tables e below (s₁.setTop (mkF m 33 #[.val (.int p0)] [(.int (10 : Int32)), (.int p0)])) _
            refine XS.icmpNo X0.here hx rfl (hb hby d2_33) rfl (teq hc33).2 ?_
            exact kZ
          obtain ⟨T4, X4, e4, st4⟩ := getS2 X0 hx hZ hown (host := "") (Or.inl (hw _ (List.mem_of_getElem? (i := 20) rfl))) Via.refl e0 ha3 (g := (mkF m 36 #[.val (.int p0)] [])) rfl (hb hby d2_36)
          refine Go.via st4 ?_
          show Go p e below _ (T4.setTop (mkF m 39 #[.val (.int p0)] [(.ref a10_)]))
          refine Go.retR X4 hx Bd.notSynchronized Bd.returns rfl rfl (hb hby d2_39) (by decide) (by decide) ?_
          refine ⟨?_, N0, e4⟩
          show some ((.ref a10_) : Value) = some (f2 p0 a6_ a7_ a9_ a10_ a12_ a14_ a15_ a17_ a18_ a19_ a20_ a21_ a23_ a24_ a25_)
          unfold f2; rw [if_neg hc3, if_neg hc13, if_neg hc23, if_pos hc33] <;> rfl
        · refine Go.via (T' := s₁.setTop (mkF m 40 #[.val (.int p0)] [])) (fun tZ kZ => ?_) ?_
          · show Steps p.tables e below (s₁.setTop (mkF m 33 #[.val (.int p0)] [(.int (10 : Int32)), (.int p0)])) _
            refine XS.icmpYes X0.here hx rfl (pc0 := 33) (pc' := 40) rfl (hb hby d2_33) rfl (feq hc33).2 (by decide) (by decide) ?_
            exact kZ
          refine Go.via (T' := s₁.setTop (mkF m 43 #[.val (.int p0)] [(.int (12 : Int32)), (.int p0)])) (fun tZ kZ => ?_) ?_
          · show Steps p.tables e below (s₁.setTop (mkF m 40 #[.val (.int p0)] [])) _
            refine XS.iloadN X0.here hx rfl (hb hby d2_40) rfl ?_
            show Steps p.tables e below (s₁.setTop (mkF m 41 #[.val (.int p0)] [(.int p0)])) _
            refine XS.bipush X0.here hx rfl (hb hby d2_41) ?_
            show Steps p.tables e below (s₁.setTop (mkF m 43 #[.val (.int p0)] [(.int (12 : Int32)), (.int p0)])) _
            exact kZ
          by_cases hc43 : p0 = (12 : Int32)
          · refine Go.via (T' := s₁.setTop (mkF m 46 #[.val (.int p0)] [])) (fun tZ kZ => ?_) ?_
            · show Steps p.tables e below (s₁.setTop (mkF m 43 #[.val (.int p0)] [(.int (12 : Int32)), (.int p0)])) _
              refine XS.icmpNo X0.here hx rfl (hb hby d2_43) rfl (teq hc43).2 ?_
              exact kZ
            obtain ⟨T5, X5, e5, st5⟩ := getS2 X0 hx hZ hown (host := "") (Or.inl (hw _ (List.mem_of_getElem? (i := 16) rfl))) Via.refl e0 ha4 (g := (mkF m 46 #[.val (.int p0)] [])) rfl (hb hby d2_46)
            refine Go.via st5 ?_
            show Go p e below _ (T5.setTop (mkF m 49 #[.val (.int p0)] [(.ref a12_)]))
            refine Go.retR X5 hx Bd.notSynchronized Bd.returns rfl rfl (hb hby d2_49) (by decide) (by decide) ?_
            refine ⟨?_, N0, e5⟩
            show some ((.ref a12_) : Value) = some (f2 p0 a6_ a7_ a9_ a10_ a12_ a14_ a15_ a17_ a18_ a19_ a20_ a21_ a23_ a24_ a25_)
            unfold f2; rw [if_neg hc3, if_neg hc13, if_neg hc23, if_neg hc33, if_pos hc43] <;> rfl
          · refine Go.via (T' := s₁.setTop (mkF m 50 #[.val (.int p0)] [])) (fun tZ kZ => ?_) ?_
            · show Steps p.tables e below (s₁.setTop (mkF m 43 #[.val (.int p0)] [(.int (12 : Int32)), (.int p0)])) _
              refine XS.icmpYes X0.here hx rfl (pc0 := 43) (pc' := 50) rfl (hb hby d2_43) rfl (feq hc43).2 (by decide) (by decide) ?_
              exact kZ
            refine Go.via (T' := s₁.setTop (mkF m 53 #[.val (.int p0)] [(.int (14 : Int32)), (.int p0)])) (fun tZ kZ => ?_) ?_
            · show Steps p.tables e below (s₁.setTop (mkF m 50 #[.val (.int p0)] [])) _
              refine XS.iloadN X0.here hx rfl (hb hby d2_50) rfl ?_
              show Steps p.tables e below (s₁.setTop (mkF m 51 #[.val (.int p0)] [(.int p0)])) _
              refine XS.bipush X0.here hx rfl (hb hby d2_51) ?_
              show Steps p.tables e below (s₁.setTop (mkF m 53 #[.val (.int p0)] [(.int (14 : Int32)), (.int p0)])) _
              exact kZ
            by_cases hc53 : p0 = (14 : Int32)
            · refine Go.via (T' := s₁.setTop (mkF m 56 #[.val (.int p0)] [])) (fun tZ kZ => ?_) ?_
              · show Steps p.tables e below (s₁.setTop (mkF m 53 #[.val (.int p0)] [(.int (14 : Int32)), (.int p0)])) _
                refine XS.icmpNo X0.here hx rfl (hb hby d2_53) rfl (teq hc53).2 ?_
                exact kZ
              obtain ⟨T6, X6, e6, st6⟩ := getS2 X0 hx hZ hown (host := "") (Or.inl (hw _ (List.mem_of_getElem? (i := 12) rfl))) Via.refl e0 ha5 (g := (mkF m 56 #[.val (.int p0)] [])) rfl (hb hby d2_56)
              refine Go.via st6 ?_
              show Go p e below _ (T6.setTop (mkF m 59 #[.val (.int p0)] [(.ref a14_)]))
              refine Go.retR X6 hx Bd.notSynchronized Bd.returns rfl rfl (hb hby d2_59) (by decide) (by decide) ?_
              refine ⟨?_, N0, e6⟩
              show some ((.ref a14_) : Value) = some (f2 p0 a6_ a7_ a9_ a10_ a12_ a14_ a15_ a17_ a18_ a19_ a20_ a21_ a23_ a24_ a25_)
              unfold f2; rw [if_neg hc3, if_neg hc13, if_neg hc23, if_neg hc33, if_neg hc43, if_pos hc53] <;> rfl
            · refine Go.via (T' := s₁.setTop (mkF m 60 #[.val (.int p0)] [])) (fun tZ kZ => ?_) ?_
              · show Steps p.tables e below (s₁.setTop (mkF m 53 #[.val (.int p0)] [(.int (14 : Int32)), (.int p0)])) _
                refine XS.icmpYes X0.here hx rfl (pc0 := 53) (pc' := 60) rfl (hb hby d2_53) rfl (feq hc53).2 (by decide) (by decide) ?_
                exact kZ
              refine Go.via (T' := s₁.setTop (mkF m 63 #[.val (.int p0)] [(.int (15 : Int32)), (.int p0)])) (fun tZ kZ => ?_) ?_
              · show Steps p.tables e below (s₁.setTop (mkF m 60 #[.val (.int p0)] [])) _
                refine XS.iloadN X0.here hx rfl (hb hby d2_60) rfl ?_
                show Steps p.tables e below (s₁.setTop (mkF m 61 #[.val (.int p0)] [(.int p0)])) _
                refine XS.bipush X0.here hx rfl (hb hby d2_61) ?_
                show Steps p.tables e below (s₁.setTop (mkF m 63 #[.val (.int p0)] [(.int (15 : Int32)), (.int p0)])) _
                exact kZ
              by_cases hc63 : p0 = (15 : Int32)
              · refine Go.via (T' := s₁.setTop (mkF m 66 #[.val (.int p0)] [])) (fun tZ kZ => ?_) ?_
                · show Steps p.tables e below (s₁.setTop (mkF m 63 #[.val (.int p0)] [(.int (15 : Int32)), (.int p0)])) _
                  refine XS.icmpNo X0.here hx rfl (hb hby d2_63) rfl (teq hc63).2 ?_
                  exact kZ
                obtain ⟨T7, X7, e7, st7⟩ := getS2 X0 hx hZ hown (host := "") (Or.inl (hw _ (List.mem_of_getElem? (i := 32) rfl))) Via.refl e0 ha6 (g := (mkF m 66 #[.val (.int p0)] [])) rfl (hb hby d2_66)
                refine Go.via st7 ?_
                show Go p e below _ (T7.setTop (mkF m 69 #[.val (.int p0)] [(.ref a15_)]))
                refine Go.retR X7 hx Bd.notSynchronized Bd.returns rfl rfl (hb hby d2_69) (by decide) (by decide) ?_
                refine ⟨?_, N0, e7⟩
                show some ((.ref a15_) : Value) = some (f2 p0 a6_ a7_ a9_ a10_ a12_ a14_ a15_ a17_ a18_ a19_ a20_ a21_ a23_ a24_ a25_)
                unfold f2; rw [if_neg hc3, if_neg hc13, if_neg hc23, if_neg hc33, if_neg hc43, if_neg hc53, if_pos hc63] <;> rfl
              · refine Go.via (T' := s₁.setTop (mkF m 70 #[.val (.int p0)] [])) (fun tZ kZ => ?_) ?_
                · show Steps p.tables e below (s₁.setTop (mkF m 63 #[.val (.int p0)] [(.int (15 : Int32)), (.int p0)])) _
                  refine XS.icmpYes X0.here hx rfl (pc0 := 63) (pc' := 70) rfl (hb hby d2_63) rfl (feq hc63).2 (by decide) (by decide) ?_
                  exact kZ
                refine Go.via (T' := s₁.setTop (mkF m 73 #[.val (.int p0)] [(.int (17 : Int32)), (.int p0)])) (fun tZ kZ => ?_) ?_
                · show Steps p.tables e below (s₁.setTop (mkF m 70 #[.val (.int p0)] [])) _
                  refine XS.iloadN X0.here hx rfl (hb hby d2_70) rfl ?_
                  show Steps p.tables e below (s₁.setTop (mkF m 71 #[.val (.int p0)] [(.int p0)])) _
                  refine XS.bipush X0.here hx rfl (hb hby d2_71) ?_
                  show Steps p.tables e below (s₁.setTop (mkF m 73 #[.val (.int p0)] [(.int (17 : Int32)), (.int p0)])) _
                  exact kZ
                by_cases hc73 : p0 = (17 : Int32)
                · refine Go.via (T' := s₁.setTop (mkF m 76 #[.val (.int p0)] [])) (fun tZ kZ => ?_) ?_
                  · show Steps p.tables e below (s₁.setTop (mkF m 73 #[.val (.int p0)] [(.int (17 : Int32)), (.int p0)])) _
                    refine XS.icmpNo X0.here hx rfl (hb hby d2_73) rfl (teq hc73).2 ?_
                    exact kZ
                  obtain ⟨T8, X8, e8, st8⟩ := getS2 X0 hx hZ hown (host := "") (Or.inl (hw _ (List.mem_of_getElem? (i := 40) rfl))) Via.refl e0 ha7 (g := (mkF m 76 #[.val (.int p0)] [])) rfl (hb hby d2_76)
                  refine Go.via st8 ?_
                  show Go p e below _ (T8.setTop (mkF m 79 #[.val (.int p0)] [(.ref a17_)]))
                  refine Go.retR X8 hx Bd.notSynchronized Bd.returns rfl rfl (hb hby d2_79) (by decide) (by decide) ?_
                  refine ⟨?_, N0, e8⟩
                  show some ((.ref a17_) : Value) = some (f2 p0 a6_ a7_ a9_ a10_ a12_ a14_ a15_ a17_ a18_ a19_ a20_ a21_ a23_ a24_ a25_)
                  unfold f2; rw [if_neg hc3, if_neg hc13, if_neg hc23, if_neg hc33, if_neg hc43, if_neg hc53, if_neg hc63, if_pos hc73] <;> rfl
                · refine Go.via (T' := s₁.setTop (mkF m 80 #[.val (.int p0)] [])) (fun tZ kZ => ?_) ?_
                  · show Steps p.tables e below (s₁.setTop (mkF m 73 #[.val (.int p0)] [(.int (17 : Int32)), (.int p0)])) _
                    refine XS.icmpYes X0.here hx rfl (pc0 := 73) (pc' := 80) rfl (hb hby d2_73) rfl (feq hc73).2 (by decide) (by decide) ?_
                    exact kZ
                  refine Go.via (T' := s₁.setTop (mkF m 83 #[.val (.int p0)] [(.int (18 : Int32)), (.int p0)])) (fun tZ kZ => ?_) ?_
                  · show Steps p.tables e below (s₁.setTop (mkF m 80 #[.val (.int p0)] [])) _
                    refine XS.iloadN X0.here hx rfl (hb hby d2_80) rfl ?_
                    show Steps p.tables e below (s₁.setTop (mkF m 81 #[.val (.int p0)] [(.int p0)])) _
                    refine XS.bipush X0.here hx rfl (hb hby d2_81) ?_
                    show Steps p.tables e below (s₁.setTop (mkF m 83 #[.val (.int p0)] [(.int (18 : Int32)), (.int p0)])) _
                    exact kZ
                  by_cases hc83 : p0 = (18 : Int32)
                  · refine Go.via (T' := s₁.setTop (mkF m 86 #[.val (.int p0)] [])) (fun tZ kZ => ?_) ?_
                    · show Steps p.tables e below (s₁.setTop (mkF m 83 #[.val (.int p0)] [(.int (18 : Int32)), (.int p0)])) _
                      refine XS.icmpNo X0.here hx rfl (hb hby d2_83) rfl (teq hc83).2 ?_
                      exact kZ
                    obtain ⟨T9, X9, e9, st9⟩ := getS2 X0 hx hZ hown (host := "") (Or.inl (hw _ (List.mem_of_getElem? (i := 28) rfl))) Via.refl e0 ha8 (g := (mkF m 86 #[.val (.int p0)] [])) rfl (hb hby d2_86)
                    refine Go.via st9 ?_
                    show Go p e below _ (T9.setTop (mkF m 89 #[.val (.int p0)] [(.ref a18_)]))
                    refine Go.retR X9 hx Bd.notSynchronized Bd.returns rfl rfl (hb hby d2_89) (by decide) (by decide) ?_
                    refine ⟨?_, N0, e9⟩
                    show some ((.ref a18_) : Value) = some (f2 p0 a6_ a7_ a9_ a10_ a12_ a14_ a15_ a17_ a18_ a19_ a20_ a21_ a23_ a24_ a25_)
                    unfold f2; rw [if_neg hc3, if_neg hc13, if_neg hc23, if_neg hc33, if_neg hc43, if_neg hc53, if_neg hc63, if_neg hc73, if_pos hc83] <;> rfl
                  · refine Go.via (T' := s₁.setTop (mkF m 90 #[.val (.int p0)] [])) (fun tZ kZ => ?_) ?_
                    · show Steps p.tables e below (s₁.setTop (mkF m 83 #[.val (.int p0)] [(.int (18 : Int32)), (.int p0)])) _
                      refine XS.icmpYes X0.here hx rfl (pc0 := 83) (pc' := 90) rfl (hb hby d2_83) rfl (feq hc83).2 (by decide) (by decide) ?_
                      exact kZ
                    refine Go.via (T' := s₁.setTop (mkF m 93 #[.val (.int p0)] [(.int (19 : Int32)), (.int p0)])) (fun tZ kZ => ?_) ?_
                    · show Steps p.tables e below (s₁.setTop (mkF m 90 #[.val (.int p0)] [])) _
                      refine XS.iloadN X0.here hx rfl (hb hby d2_90) rfl ?_
                      show Steps p.tables e below (s₁.setTop (mkF m 91 #[.val (.int p0)] [(.int p0)])) _
                      refine XS.bipush X0.here hx rfl (hb hby d2_91) ?_
                      show Steps p.tables e below (s₁.setTop (mkF m 93 #[.val (.int p0)] [(.int (19 : Int32)), (.int p0)])) _
                      exact kZ
                    by_cases hc93 : p0 = (19 : Int32)
                    · refine Go.via (T' := s₁.setTop (mkF m 96 #[.val (.int p0)] [])) (fun tZ kZ => ?_) ?_
                      · show Steps p.tables e below (s₁.setTop (mkF m 93 #[.val (.int p0)] [(.int (19 : Int32)), (.int p0)])) _
                        refine XS.icmpNo X0.here hx rfl (hb hby d2_93) rfl (teq hc93).2 ?_
                        exact kZ
                      obtain ⟨T10, X10, e10, st10⟩ := getS2 X0 hx hZ hown (host := "") (Or.inl (hw _ (List.mem_of_getElem? (i := 34) rfl))) Via.refl e0 ha9 (g := (mkF m 96 #[.val (.int p0)] [])) rfl (hb hby d2_96)
                      refine Go.via st10 ?_
                      show Go p e below _ (T10.setTop (mkF m 99 #[.val (.int p0)] [(.ref a19_)]))
                      refine Go.retR X10 hx Bd.notSynchronized Bd.returns rfl rfl (hb hby d2_99) (by decide) (by decide) ?_
                      refine ⟨?_, N0, e10⟩
                      show some ((.ref a19_) : Value) = some (f2 p0 a6_ a7_ a9_ a10_ a12_ a14_ a15_ a17_ a18_ a19_ a20_ a21_ a23_ a24_ a25_)
                      unfold f2; rw [if_neg hc3, if_neg hc13, if_neg hc23, if_neg hc33, if_neg hc43, if_neg hc53, if_neg hc63, if_neg hc73, if_neg hc83, if_pos hc93] <;> rfl
                    · refine Go.via (T' := s₁.setTop (mkF m 100 #[.val (.int p0)] [])) (fun tZ kZ => ?_) ?_
                      · show Steps p.tables e below (s₁.setTop (mkF m 93 #[.val (.int p0)] [(.int (19 : Int32)), (.int p0)])) _
                        refine XS.icmpYes X0.here hx rfl (pc0 := 93) (pc' := 100) rfl (hb hby d2_93) rfl (feq hc93).2 (by decide) (by decide) ?_
                        exact kZ
                      refine Go.via (T' := s₁.setTop (mkF m 103 #[.val (.int p0)] [(.int (20 : Int32)), (.int p0)])) (fun tZ kZ => ?_) ?_
                      · show Steps p.tables e below (s₁.setTop (mkF m 100 #[.val (.int p0)] [])) _
                        refine XS.iloadN X0.here hx rfl (hb hby d2_100) rfl ?_
                        show Steps p.tables e below (s₁.setTop (mkF m 101 #[.val (.int p0)] [(.int p0)])) _
                        refine XS.bipush X0.here hx rfl (hb hby d2_101) ?_
                        show Steps p.tables e below (s₁.setTop (mkF m 103 #[.val (.int p0)] [(.int (20 : Int32)), (.int p0)])) _
                        exact kZ
                      by_cases hc103 : p0 = (20 : Int32)
                      · refine Go.via (T' := s₁.setTop (mkF m 106 #[.val (.int p0)] [])) (fun tZ kZ => ?_) ?_
                        · show Steps p.tables e below (s₁.setTop (mkF m 103 #[.val (.int p0)] [(.int (20 : Int32)), (.int p0)])) _
                          refine XS.icmpNo X0.here hx rfl (hb hby d2_103) rfl (teq hc103).2 ?_
                          exact kZ
                        obtain ⟨T11, X11, e11, st11⟩ := getS2 X0 hx hZ hown (host := "") (Or.inl (hw _ (List.mem_of_getElem? (i := 30) rfl))) Via.refl e0 ha10 (g := (mkF m 106 #[.val (.int p0)] [])) rfl (hb hby d2_106)
                        refine Go.via st11 ?_
                        show Go p e below _ (T11.setTop (mkF m 109 #[.val (.int p0)] [(.ref a20_)]))
                        refine Go.retR X11 hx Bd.notSynchronized Bd.returns rfl rfl (hb hby d2_109) (by decide) (by decide) ?_
                        refine ⟨?_, N0, e11⟩
                        show some ((.ref a20_) : Value) = some (f2 p0 a6_ a7_ a9_ a10_ a12_ a14_ a15_ a17_ a18_ a19_ a20_ a21_ a23_ a24_ a25_)
                        unfold f2; rw [if_neg hc3, if_neg hc13, if_neg hc23, if_neg hc33, if_neg hc43, if_neg hc53, if_neg hc63, if_neg hc73, if_neg hc83, if_neg hc93, if_pos hc103] <;> rfl
                      · refine Go.via (T' := s₁.setTop (mkF m 110 #[.val (.int p0)] [])) (fun tZ kZ => ?_) ?_
                        · show Steps p.tables e below (s₁.setTop (mkF m 103 #[.val (.int p0)] [(.int (20 : Int32)), (.int p0)])) _
                          refine XS.icmpYes X0.here hx rfl (pc0 := 103) (pc' := 110) rfl (hb hby d2_103) rfl (feq hc103).2 (by decide) (by decide) ?_
                          exact kZ
                        refine Go.via (T' := s₁.setTop (mkF m 113 #[.val (.int p0)] [(.int (21 : Int32)), (.int p0)])) (fun tZ kZ => ?_) ?_
                        · show Steps p.tables e below (s₁.setTop (mkF m 110 #[.val (.int p0)] [])) _
                          refine XS.iloadN X0.here hx rfl (hb hby d2_110) rfl ?_
                          show Steps p.tables e below (s₁.setTop (mkF m 111 #[.val (.int p0)] [(.int p0)])) _
                          refine XS.bipush X0.here hx rfl (hb hby d2_111) ?_
                          show Steps p.tables e below (s₁.setTop (mkF m 113 #[.val (.int p0)] [(.int (21 : Int32)), (.int p0)])) _
                          exact kZ
                        by_cases hc113 : p0 = (21 : Int32)
                        · refine Go.via (T' := s₁.setTop (mkF m 116 #[.val (.int p0)] [])) (fun tZ kZ => ?_) ?_
                          · show Steps p.tables e below (s₁.setTop (mkF m 113 #[.val (.int p0)] [(.int (21 : Int32)), (.int p0)])) _
                            refine XS.icmpNo X0.here hx rfl (hb hby d2_113) rfl (teq hc113).2 ?_
                            exact kZ
                          obtain ⟨T12, X12, e12, st12⟩ := getS2 X0 hx hZ hown (host := "") (Or.inl (hw _ (List.mem_of_getElem? (i := 38) rfl))) Via.refl e0 ha11 (g := (mkF m 116 #[.val (.int p0)] [])) rfl (hb hby d2_116)
                          refine Go.via st12 ?_
                          show Go p e below _ (T12.setTop (mkF m 119 #[.val (.int p0)] [(.ref a21_)]))
                          refine Go.retR X12 hx Bd.notSynchronized Bd.returns rfl rfl (hb hby d2_119) (by decide) (by decide) ?_
                          refine ⟨?_, N0, e12⟩
                          show some ((.ref a21_) : Value) = some (f2 p0 a6_ a7_ a9_ a10_ a12_ a14_ a15_ a17_ a18_ a19_ a20_ a21_ a23_ a24_ a25_)
                          unfold f2; rw [if_neg hc3, if_neg hc13, if_neg hc23, if_neg hc33, if_neg hc43, if_neg hc53, if_neg hc63, if_neg hc73, if_neg hc83, if_neg hc93, if_neg hc103, if_pos hc113] <;> rfl
                        · refine Go.via (T' := s₁.setTop (mkF m 120 #[.val (.int p0)] [])) (fun tZ kZ => ?_) ?_
                          · show Steps p.tables e below (s₁.setTop (mkF m 113 #[.val (.int p0)] [(.int (21 : Int32)), (.int p0)])) _
                            refine XS.icmpYes X0.here hx rfl (pc0 := 113) (pc' := 120) rfl (hb hby d2_113) rfl (feq hc113).2 (by decide) (by decide) ?_
                            exact kZ
                          refine Go.via (T' := s₁.setTop (mkF m 123 #[.val (.int p0)] [(.int (23 : Int32)), (.int p0)])) (fun tZ kZ => ?_) ?_
                          · show Steps p.tables e below (s₁.setTop (mkF m 120 #[.val (.int p0)] [])) _
                            refine XS.iloadN X0.here hx rfl (hb hby d2_120) rfl ?_
                            show Steps p.tables e below (s₁.setTop (mkF m 121 #[.val (.int p0)] [(.int p0)])) _
                            refine XS.bipush X0.here hx rfl (hb hby d2_121) ?_
                            show Steps p.tables e below (s₁.setTop (mkF m 123 #[.val (.int p0)] [(.int (23 : Int32)), (.int p0)])) _
                            exact kZ
                          by_cases hc123 : p0 = (23 : Int32)
                          · refine Go.via (T' := s₁.setTop (mkF m 126 #[.val (.int p0)] [])) (fun tZ kZ => ?_) ?_
                            · show Steps p.tables e below (s₁.setTop (mkF m 123 #[.val (.int p0)] [(.int (23 : Int32)), (.int p0)])) _
                              refine XS.icmpNo X0.here hx rfl (hb hby d2_123) rfl (teq hc123).2 ?_
                              exact kZ
                            obtain ⟨T13, X13, e13, st13⟩ := getS2 X0 hx hZ hown (host := "") (Or.inl (hw _ (List.mem_of_getElem? (i := 22) rfl))) Via.refl e0 ha12 (g := (mkF m 126 #[.val (.int p0)] [])) rfl (hb hby d2_126)
                            refine Go.via st13 ?_
                            show Go p e below _ (T13.setTop (mkF m 129 #[.val (.int p0)] [(.ref a23_)]))
                            refine Go.retR X13 hx Bd.notSynchronized Bd.returns rfl rfl (hb hby d2_129) (by decide) (by decide) ?_
                            refine ⟨?_, N0, e13⟩
                            show some ((.ref a23_) : Value) = some (f2 p0 a6_ a7_ a9_ a10_ a12_ a14_ a15_ a17_ a18_ a19_ a20_ a21_ a23_ a24_ a25_)
                            unfold f2; rw [if_neg hc3, if_neg hc13, if_neg hc23, if_neg hc33, if_neg hc43, if_neg hc53, if_neg hc63, if_neg hc73, if_neg hc83, if_neg hc93, if_neg hc103, if_neg hc113, if_pos hc123] <;> rfl
                          · refine Go.via (T' := s₁.setTop (mkF m 130 #[.val (.int p0)] [])) (fun tZ kZ => ?_) ?_
                            · show Steps p.tables e below (s₁.setTop (mkF m 123 #[.val (.int p0)] [(.int (23 : Int32)), (.int p0)])) _
                              refine XS.icmpYes X0.here hx rfl (pc0 := 123) (pc' := 130) rfl (hb hby d2_123) rfl (feq hc123).2 (by decide) (by decide) ?_
                              exact kZ
                            refine Go.via (T' := s₁.setTop (mkF m 133 #[.val (.int p0)] [(.int (24 : Int32)), (.int p0)])) (fun tZ kZ => ?_) ?_
                            · show Steps p.tables e below (s₁.setTop (mkF m 130 #[.val (.int p0)] [])) _
                              refine XS.iloadN X0.here hx rfl (hb hby d2_130) rfl ?_
                              show Steps p.tables e below (s₁.setTop (mkF m 131 #[.val (.int p0)] [(.int p0)])) _
                              refine XS.bipush X0.here hx rfl (hb hby d2_131) ?_
                              show Steps p.tables e below (s₁.setTop (mkF m 133 #[.val (.int p0)] [(.int (24 : Int32)), (.int p0)])) _
                              exact kZ
                            by_cases hc133 : p0 = (24 : Int32)
                            · refine Go.via (T' := s₁.setTop (mkF m 136 #[.val (.int p0)] [])) (fun tZ kZ => ?_) ?_
                              · show Steps p.tables e below (s₁.setTop (mkF m 133 #[.val (.int p0)] [(.int (24 : Int32)), (.int p0)])) _
                                refine XS.icmpNo X0.here hx rfl (hb hby d2_133) rfl (teq hc133).2 ?_
                                exact kZ
                              obtain ⟨T14, X14, e14, st14⟩ := getS2 X0 hx hZ hown (host := "") (Or.inl (hw _ (List.mem_of_getElem? (i := 24) rfl))) Via.refl e0 ha13 (g := (mkF m 136 #[.val (.int p0)] [])) rfl (hb hby d2_136)
                              refine Go.via st14 ?_
                              show Go p e below _ (T14.setTop (mkF m 139 #[.val (.int p0)] [(.ref a24_)]))
                              refine Go.retR X14 hx Bd.notSynchronized Bd.returns rfl rfl (hb hby d2_139) (by decide) (by decide) ?_
                              refine ⟨?_, N0, e14⟩
                              show some ((.ref a24_) : Value) = some (f2 p0 a6_ a7_ a9_ a10_ a12_ a14_ a15_ a17_ a18_ a19_ a20_ a21_ a23_ a24_ a25_)
                              unfold f2; rw [if_neg hc3, if_neg hc13, if_neg hc23, if_neg hc33, if_neg hc43, if_neg hc53, if_neg hc63, if_neg hc73, if_neg hc83, if_neg hc93, if_neg hc103, if_neg hc113, if_neg hc123, if_pos hc133] <;> rfl
                            · refine Go.via (T' := s₁.setTop (mkF m 140 #[.val (.int p0)] [])) (fun tZ kZ => ?_) ?_
                              · show Steps p.tables e below (s₁.setTop (mkF m 133 #[.val (.int p0)] [(.int (24 : Int32)), (.int p0)])) _
                                refine XS.icmpYes X0.here hx rfl (pc0 := 133) (pc' := 140) rfl (hb hby d2_133) rfl (feq hc133).2 (by decide) (by decide) ?_
                                exact kZ
                              refine Go.via (T' := s₁.setTop (mkF m 143 #[.val (.int p0)] [(.int (25 : Int32)), (.int p0)])) (fun tZ kZ => ?_) ?_
                              · show Steps p.tables e below (s₁.setTop (mkF m 140 #[.val (.int p0)] [])) _
                                refine XS.iloadN X0.here hx rfl (hb hby d2_140) rfl ?_
                                show Steps p.tables e below (s₁.setTop (mkF m 141 #[.val (.int p0)] [(.int p0)])) _
                                refine XS.bipush X0.here hx rfl (hb hby d2_141) ?_
                                show Steps p.tables e below (s₁.setTop (mkF m 143 #[.val (.int p0)] [(.int (25 : Int32)), (.int p0)])) _
                                exact kZ
                              by_cases hc143 : p0 = (25 : Int32)
                              · refine Go.via (T' := s₁.setTop (mkF m 146 #[.val (.int p0)] [])) (fun tZ kZ => ?_) ?_
                                · show Steps p.tables e below (s₁.setTop (mkF m 143 #[.val (.int p0)] [(.int (25 : Int32)), (.int p0)])) _
                                  refine XS.icmpNo X0.here hx rfl (hb hby d2_143) rfl (teq hc143).2 ?_
                                  exact kZ
                                obtain ⟨T15, X15, e15, st15⟩ := getS2 X0 hx hZ hown (host := "") (Or.inl (hw _ (List.mem_of_getElem? (i := 36) rfl))) Via.refl e0 ha14 (g := (mkF m 146 #[.val (.int p0)] [])) rfl (hb hby d2_146)
                                refine Go.via st15 ?_
                                show Go p e below _ (T15.setTop (mkF m 149 #[.val (.int p0)] [(.ref a25_)]))
                                refine Go.retR X15 hx Bd.notSynchronized Bd.returns rfl rfl (hb hby d2_149) (by decide) (by decide) ?_
                                refine ⟨?_, N0, e15⟩
                                show some ((.ref a25_) : Value) = some (f2 p0 a6_ a7_ a9_ a10_ a12_ a14_ a15_ a17_ a18_ a19_ a20_ a21_ a23_ a24_ a25_)
                                unfold f2; rw [if_neg hc3, if_neg hc13, if_neg hc23, if_neg hc33, if_neg hc43, if_neg hc53, if_neg hc63, if_neg hc73, if_neg hc83, if_neg hc93, if_neg hc103, if_neg hc113, if_neg hc123, if_neg hc133, if_pos hc143] <;> rfl
                              · refine Go.via (T' := s₁.setTop (mkF m 150 #[.val (.int p0)] [])) (fun tZ kZ => ?_) ?_
                                · show Steps p.tables e below (s₁.setTop (mkF m 143 #[.val (.int p0)] [(.int (25 : Int32)), (.int p0)])) _
                                  refine XS.icmpYes X0.here hx rfl (pc0 := 143) (pc' := 150) rfl (hb hby d2_143) rfl (feq hc143).2 (by decide) (by decide) ?_
                                  exact kZ
                                refine Go.via (T' := s₁.setTop (mkF m 151 #[.val (.int p0)] [.null])) (fun tZ kZ => ?_) ?_
                                · show Steps p.tables e below (s₁.setTop (mkF m 150 #[.val (.int p0)] [])) _
                                  refine XS.aconstNull X0.here hx rfl (hb hby d2_150) ?_
                                  show Steps p.tables e below (s₁.setTop (mkF m 151 #[.val (.int p0)] [.null])) _
                                  exact kZ
                                refine Go.retR X0 hx Bd.notSynchronized Bd.returns rfl rfl (hb hby d2_151) (by decide) (by decide) ?_
                                refine ⟨?_, N0, e0⟩
                                show some (.null : Value) = some (f2 p0 a6_ a7_ a9_ a10_ a12_ a14_ a15_ a17_ a18_ a19_ a20_ a21_ a23_ a24_ a25_)
                                unfold f2; rw [if_neg hc3, if_neg hc13, if_neg hc23, if_neg hc33, if_neg hc43, if_neg hc53, if_neg hc63, if_neg hc73, if_neg hc83, if_neg hc93, if_neg hc103, if_neg hc113, if_neg hc123, if_neg hc133, if_neg hc143] <;> rfl
def own_g (a6_ a7_ a9_ a10_ a12_ a14_ a15_ a17_ a18_ a19_ a20_ a21_ a23_ a24_ a25_ : Addr) (k : Nat) : Value := match k with | 6 => .ref a6_ | 7 => .ref a7_ | 9 => .ref a9_ | 10 => .ref a10_ | 12 => .ref a12_ | 14 => .ref a14_ | 15 => .ref a15_ | 17 => .ref a17_ | 18 => .ref a18_ | 19 => .ref a19_ | 20 => .ref a20_ | 21 => .ref a21_ | 23 => .ref a23_ | 24 => .ref a24_ | 25 => .ref a25_ | _ => .null
theorem own_gr (a6_ a7_ a9_ a10_ a12_ a14_ a15_ a17_ a18_ a19_ a20_ a21_ a23_ a24_ a25_ : Addr) (k : Nat) : (own_g a6_ a7_ a9_ a10_ a12_ a14_ a15_ a17_ a18_ a19_ a20_ a21_ a23_ a24_ a25_ k).isRef = true := by
  unfold own_g; split <;> rfl
theorem own_nat (p : Int32) (h0 : ¬ p < 0) (h1 : p < 26) : ∃ k : Nat, k < 26 ∧ p = Int32.ofNat k := by
  rw [Int32.lt_iff_toInt_lt] at h0 h1
  have e0 : (0 : Int32).toInt = 0 := rfl
  have e1 : (26 : Int32).toInt = 26 := rfl
  refine ⟨p.toInt.toNat, by omega, ?_⟩
  apply Int32.toInt_inj.mp
  rw [Int32.toInt_ofNat_of_lt (by omega)]
  omega
theorem own_same (a6_ a7_ a9_ a10_ a12_ a14_ a15_ a17_ a18_ a19_ a20_ a21_ a23_ a24_ a25_ aB : Addr) (p : Int32) (h0 : ¬ p < 0) : f1 p aB (own_g a6_ a7_ a9_ a10_ a12_ a14_ a15_ a17_ a18_ a19_ a20_ a21_ a23_ a24_ a25_) = f2 p a6_ a7_ a9_ a10_ a12_ a14_ a15_ a17_ a18_ a19_ a20_ a21_ a23_ a24_ a25_ := by
  by_cases h1 : p < 26
  · obtain ⟨k, hk, rfl⟩ := own_nat p h0 h1
    match k, hk with
    | 0, _ => rfl
    | 1, _ => rfl
    | 2, _ => rfl
    | 3, _ => rfl
    | 4, _ => rfl
    | 5, _ => rfl
    | 6, _ => rfl
    | 7, _ => rfl
    | 8, _ => rfl
    | 9, _ => rfl
    | 10, _ => rfl
    | 11, _ => rfl
    | 12, _ => rfl
    | 13, _ => rfl
    | 14, _ => rfl
    | 15, _ => rfl
    | 16, _ => rfl
    | 17, _ => rfl
    | 18, _ => rfl
    | 19, _ => rfl
    | 20, _ => rfl
    | 21, _ => rfl
    | 22, _ => rfl
    | 23, _ => rfl
    | 24, _ => rfl
    | 25, _ => rfl
    | n + 26, hk => exact absurd hk (by omega)
  · unfold f1 f2
    rw [if_neg h1]
    rw [if_neg (fun q : p = 6 => h1 (by rw [q]; decide))]
    rw [if_neg (fun q : p = 7 => h1 (by rw [q]; decide))]
    rw [if_neg (fun q : p = 9 => h1 (by rw [q]; decide))]
    rw [if_neg (fun q : p = 10 => h1 (by rw [q]; decide))]
    rw [if_neg (fun q : p = 12 => h1 (by rw [q]; decide))]
    rw [if_neg (fun q : p = 14 => h1 (by rw [q]; decide))]
    rw [if_neg (fun q : p = 15 => h1 (by rw [q]; decide))]
    rw [if_neg (fun q : p = 17 => h1 (by rw [q]; decide))]
    rw [if_neg (fun q : p = 18 => h1 (by rw [q]; decide))]
    rw [if_neg (fun q : p = 19 => h1 (by rw [q]; decide))]
    rw [if_neg (fun q : p = 20 => h1 (by rw [q]; decide))]
    rw [if_neg (fun q : p = 21 => h1 (by rw [q]; decide))]
    rw [if_neg (fun q : p = 23 => h1 (by rw [q]; decide))]
    rw [if_neg (fun q : p = 24 => h1 (by rw [q]; decide))]
    rw [if_neg (fun q : p = 25 => h1 (by rw [q]; decide))]
theorem own_ite {c : Prop} [Decidable c] {a b : Value} (ha : a.isRef = true) (hb : b.isRef = true) : (if c then a else b).isRef = true := by split <;> assumption
theorem own_cat {v : Value} (h : v.isRef = true) : v.category = 1 := by rcases ref_cases h with rfl | ⟨a, rfl⟩ <;> rfl
theorem own_f2r (p : Int32) (a6_ a7_ a9_ a10_ a12_ a14_ a15_ a17_ a18_ a19_ a20_ a21_ a23_ a24_ a25_ : Addr) : (f2 p a6_ a7_ a9_ a10_ a12_ a14_ a15_ a17_ a18_ a19_ a20_ a21_ a23_ a24_ a25_).isRef = true := own_ite rfl (own_ite rfl (own_ite rfl (own_ite rfl (own_ite rfl (own_ite rfl (own_ite rfl (own_ite rfl (own_ite rfl (own_ite rfl (own_ite rfl (own_ite rfl (own_ite rfl (own_ite rfl (own_ite rfl (rfl)))))))))))))))
theorem own_eqr {t u : Term} {a : Addr} {args : Array Value} {s : State} (h : (Cond.eq t u).value args s none s [] = some true) (hu : u.eval args s none [] s = some (.ref a)) : t.eval args s none [] s = some (.ref a) := by
  obtain ⟨x, y, h1, h2, k, k'⟩ := cmp_v (Or.inl h)
  cases hu.symm.trans h2
  have r := gotT (eq_R h1 hu k'.2 k'.1) h
  rw [h1, r]
theorem own_len {t : Term} {a : Addr} {cl : Cell} {ty : FieldType} {n : Int32} {args : Array Value} {s : State} (ht : t.eval args s none [] s = some (.ref a)) (A : Arr s s.heap a cl ty) (hl : (Term.length t).eval args s none [] s = some (.int n)) : cl.slots.size = n.toNatClampNeg := by
  have ha : s.arrayAt? a = some cl := A.fin (Vm.Alike.refl _)
  by_cases q : cl.slots.size < 2 ^ 31
  · rw [len_f ht ha q] at hl
    cases hl
    simp only [Int32.toNatClampNeg, len_toInt q]; rfl
  · simp [Term.eval, ht, ha, q] at hl
def Q0 (n0 : Nat) (v : Option Value) (h : Heap) (L : List Loc) : Prop := v = some (.int 1) ∧ Fr n0 L
def w0_0 (p0 : Int32) (p1 : Int32) : Int32 := (if (p1 &&& (3 : Int32)) = (1 : Int32) then (p0 &&& (255 : Int32)) else (p0 &&& (2147483647 : Int32)))
def w0_1 (p0 : Int32) (p1 : Int32) : Int32 := (if (p1 &&& (3 : Int32)) = (0 : Int32) then (p0 &&& (31 : Int32)) else (w0_0 p0 p1))
theorem pd_0 : parseMethodDescriptor "(I)Lcom/example/mete/mete/core/Record$Type;" = some ⟨[.int], some (.object "com/example/mete/mete/core/Record$Type")⟩ := by decide +kernel
theorem own_nn (i j : Int32) : ¬ w0_1 i j < 0 := by
  have e0 : (0 : Int32).toInt = 0 := rfl
  have e1 := Jvm.Kit.i32_mask i 31 (k := 5) (by decide) (by decide)
  have e2 := Jvm.Kit.i32_mask i 255 (k := 8) (by decide) (by decide)
  have e3 := Jvm.Kit.i32_mask i 2147483647 (k := 31) (by decide) (by decide)
  unfold w0_1 w0_0
  rw [Int32.lt_iff_toInt_lt, e0]
  split
  · rw [e1]; omega
  · split
    · rw [e2]; omega
    · rw [e3]; omega
theorem ef_0_aa (m : MethodId) (x0 : Int32) (x1 : Int32) : entryFrame m #[(.int x0), (.int x1)] maxLocals = mkF m 0 #[.val (.int x0), .val (.int x1), .unset, .unset] [] := by first | (simp [entryFrame, mkF, argsToLocals, Value.category, maxLocals]; done) | rfl
set_option maxRecDepth 65536 in
set_option maxHeartbeats 40000000 in
theorem rm0 (l : Launch) (Z : State) (a0 : Array Value) (hw : ∀ d ∈ tables_1, d.before a0 Z = true) (ws : List Jvm.Cond) (p0 : Int32) (p1 : Int32) (a6_ : Addr) (a7_ : Addr) (a9_ : Addr) (a10_ : Addr) (a12_ : Addr) (a14_ : Addr) (a15_ : Addr) (a17_ : Addr) (a18_ : Addr) (a19_ : Addr) (a20_ : Addr) (a21_ : Addr) (a23_ : Addr) (a24_ : Addr) (a25_ : Addr) (aB : Addr) (h0 : Heap) (n0 : Nat) (Z0 : n0 ≤ h0.size) (ha0 : Sta Z h0 "com/example/mete/mete/core/Record$Type" "BY_CODE" "[Lcom/example/mete/mete/core/Record$Type;" (.ref aB)) (ha1 : Sta Z h0 "com/example/mete/mete/core/Record$Type" "ITEM_RECEIVED" "Lcom/example/mete/mete/core/Record$Type;" (.ref a6_)) (ha2 : Sta Z h0 "com/example/mete/mete/core/Record$Type" "LEASE_RENEWED" "Lcom/example/mete/mete/core/Record$Type;" (.ref a7_)) (ha3 : Sta Z h0 "com/example/mete/mete/core/Record$Type" "QUEUE_CREATED" "Lcom/example/mete/mete/core/Record$Type;" (.ref a9_)) (ha4 : Sta Z h0 "com/example/mete/mete/core/Record$Type" "ITEM_RELEASED" "Lcom/example/mete/mete/core/Record$Type;" (.ref a10_)) (ha5 : Sta Z h0 "com/example/mete/mete/core/Record$Type" "LEASES_RAN_OUT" "Lcom/example/mete/mete/core/Record$Type;" (.ref a12_)) (ha6 : Sta Z h0 "com/example/mete/mete/core/Record$Type" "QUEUE_CLOSED" "Lcom/example/mete/mete/core/Record$Type;" (.ref a14_)) (ha7 : Sta Z h0 "com/example/mete/mete/core/Record$Type" "QUEUE_DELETED" "Lcom/example/mete/mete/core/Record$Type;" (.ref a15_)) (ha8 : Sta Z h0 "com/example/mete/mete/core/Record$Type" "ITEM_COMMITTED" "Lcom/example/mete/mete/core/Record$Type;" (.ref a17_)) (ha9 : Sta Z h0 "com/example/mete/mete/core/Record$Type" "ITEM_FAILED" "Lcom/example/mete/mete/core/Record$Type;" (.ref a18_)) (ha10 : Sta Z h0 "com/example/mete/mete/core/Record$Type" "ITEMS_REMOVED" "Lcom/example/mete/mete/core/Record$Type;" (.ref a19_)) (ha11 : Sta Z h0 "com/example/mete/mete/core/Record$Type" "SEGMENT_BEGUN" "Lcom/example/mete/mete/core/Record$Type;" (.ref a20_)) (ha12 : Sta Z h0 "com/example/mete/mete/core/Record$Type" "QUEUE_CARRIED" "Lcom/example/mete/mete/core/Record$Type;" (.ref a21_)) (ha13 : Sta Z h0 "com/example/mete/mete/core/Record$Type" "CHANGE_BEGUN" "Lcom/example/mete/mete/core/Record$Type;" (.ref a23_)) (ha14 : Sta Z h0 "com/example/mete/mete/core/Record$Type" "ITEM_SUBMITTED" "Lcom/example/mete/mete/core/Record$Type;" (.ref a24_)) (ha15 : Sta Z h0 "com/example/mete/mete/core/Record$Type" "ITEM_CARRIED" "Lcom/example/mete/mete/core/Record$Type;" (.ref a25_)) (ha16 : AV Z h0 aB (.object "com/example/mete/mete/core/Record$Type") 26 (own_g a6_ a7_ a9_ a10_ a12_ a14_ a15_ a17_ a18_ a19_ a20_ a21_ a23_ a24_ a25_)) :
    MetFree l x (head1 (Jvm.Cond.code x code maxLocals ret :: ws) room_1) (fun a U => a = #[(.int p0), (.int p1)] ∧ Z.Warmed39 U.vm ∧ U.heap = h0) (fun _ _ _ _ _ => True) (fun _ U o U' => ∃ v L, o = .returned v ∧ Q0 n0 v U'.heap L ∧ FrameEnd U o U' L 0 0) := by
  refine MetFree.of_bodySF (plainFor_of_name pn_1) hisR ?_
  intro p e s m args below meth c s₁ Bd hml0 hP hK
  obtain ⟨rfl, hZ, hh⟩ := hP
  have hx := Bd.exec
  have hby := Bd.bytes
  have hml : c.maxLocals = 4 := hml0
  have hown : s.vm.findClass "com/example/mete/mete/core/TypeCodedPinLaw" = some m.cls := findClass_of_methodNamed Bd.named
  have hnm := (name_of_methodNamed Bd.named Bd.method).1
  have X0 : Stand p l e room_1 s m #[(.int p0), (.int p1)] below meth c s₁ [] 0 0 := Stand.of_body Bd
  have e0 : s₁.heap = h0 := by rw [← hh, Bd.state]; rfl
  have N0 := Fr.nil n0
  refine Go.into (P := fun oo uu => ∃ v L, oo = .returned v ∧ Q0 n0 v uu.heap L ∧ FrameEnd s oo uu L 0 0) (ef_0_aa m p0 p1) ?_
  show Go p e below _ (s₁.setTop (mkF m 0 #[.val (.int p0), .val (.int p1), .unset, .unset] []))
  refine Go.via (T' := s₁.setTop (mkF m 36 #[.val (.int p0), .val (.int p1), .val (.int (p1 &&& (3 : Int32))), .val (.int (w0_1 p0 p1))] [(.int (w0_1 p0 p1))])) (fun tZ kZ => ?_) ?_
  · show Steps p.tables e below (s₁.setTop (mkF m 0 #[.val (.int p0), .val (.int p1), .unset, .unset] [])) _
    refine XS.iloadN X0.here hx rfl (hb hby at_0) rfl ?_
    show Steps p.tables e below (s₁.setTop (mkF m 1 #[.val (.int p0), .val (.int p1), .unset, .unset] [(.int p1)])) _
    refine XS.iconst X0.here hx rfl (hb hby at_1) ?_
    show Steps p.tables e below (s₁.setTop (mkF m 2 #[.val (.int p0), .val (.int p1), .unset, .unset] [(.int (3 : Int32)), (.int p1)])) _
    refine XS.iand X0.here hx rfl (hb hby at_2) rfl ?_
    show Steps p.tables e below (s₁.setTop (mkF m 3 #[.val (.int p0), .val (.int p1), .unset, .unset] [(.int (p1 &&& (3 : Int32)))])) _
    refine XS.istoreN X0.here hx rfl (hb hby at_3) rfl (l' := #[.val (.int p0), .val (.int p1), .val (.int (p1 &&& (3 : Int32))), .unset]) rfl ?_
    show Steps p.tables e below (s₁.setTop (mkF m 4 #[.val (.int p0), .val (.int p1), .val (.int (p1 &&& (3 : Int32))), .unset] [])) _
    refine XS.iloadN X0.here hx rfl (hb hby at_4) rfl ?_
    show Steps p.tables e below (s₁.setTop (mkF m 5 #[.val (.int p0), .val (.int p1), .val (.int (p1 &&& (3 : Int32))), .unset] [(.int (p1 &&& (3 : Int32)))])) _
    have sg5 : Steps p.tables e below (s₁.setTop (mkF m 35 #[.val (.int p0), .val (.int p1), .val (.int (p1 &&& (3 : Int32))), .val (.int (if (p1 &&& (3 : Int32)) = (0 : Int32) then (p0 &&& (31 : Int32)) else (w0_0 p0 p1)))] [])) tZ → Steps p.tables e below (s₁.setTop (mkF m 5 #[.val (.int p0), .val (.int p1), .val (.int (p1 &&& (3 : Int32))), .unset] [(.int (p1 &&& (3 : Int32)))])) tZ := by
      intro kj
      by_cases hc5 : (p1 &&& (3 : Int32)) = (0 : Int32)
      · try simp only [if_pos hc5] at kj
        refine XS.ifNo X0.here hx rfl (hb hby at_5) rfl ((if0 _ _).trans (teq hc5).2) ?_
        show Steps p.tables e below (s₁.setTop (mkF m 8 #[.val (.int p0), .val (.int p1), .val (.int (p1 &&& (3 : Int32))), .unset] [])) _
        refine XS.iloadN X0.here hx rfl (hb hby at_8) rfl ?_
        show Steps p.tables e below (s₁.setTop (mkF m 9 #[.val (.int p0), .val (.int p1), .val (.int (p1 &&& (3 : Int32))), .unset] [(.int p0)])) _
        refine XS.bipush X0.here hx rfl (hb hby at_9) ?_
        show Steps p.tables e below (s₁.setTop (mkF m 11 #[.val (.int p0), .val (.int p1), .val (.int (p1 &&& (3 : Int32))), .unset] [(.int (31 : Int32)), (.int p0)])) _
        refine XS.iand X0.here hx rfl (hb hby at_11) rfl ?_
        show Steps p.tables e below (s₁.setTop (mkF m 12 #[.val (.int p0), .val (.int p1), .val (.int (p1 &&& (3 : Int32))), .unset] [(.int (p0 &&& (31 : Int32)))])) _
        refine XS.istoreN X0.here hx rfl (hb hby at_12) rfl (l' := #[.val (.int p0), .val (.int p1), .val (.int (p1 &&& (3 : Int32))), .val (.int (p0 &&& (31 : Int32)))]) rfl ?_
        show Steps p.tables e below (s₁.setTop (mkF m 13 #[.val (.int p0), .val (.int p1), .val (.int (p1 &&& (3 : Int32))), .val (.int (p0 &&& (31 : Int32)))] [])) _
        refine XS.goto X0.here hx rfl (pc0 := 13) (pc' := 35) rfl (hb hby at_13) (by decide) (by decide) ?_
        show Steps p.tables e below (s₁.setTop (mkF m 35 #[.val (.int p0), .val (.int p1), .val (.int (p1 &&& (3 : Int32))), .val (.int (p0 &&& (31 : Int32)))] [])) _
        exact kj
      · try simp only [if_neg hc5] at kj
        refine XS.ifYes X0.here hx rfl (pc0 := 5) (pc' := 16) rfl (hb hby at_5) rfl ((if0 _ _).trans (feq hc5).2) (by decide) (by decide) ?_
        show Steps p.tables e below (s₁.setTop (mkF m 16 #[.val (.int p0), .val (.int p1), .val (.int (p1 &&& (3 : Int32))), .unset] [])) _
        refine XS.iloadN X0.here hx rfl (hb hby at_16) rfl ?_
        show Steps p.tables e below (s₁.setTop (mkF m 17 #[.val (.int p0), .val (.int p1), .val (.int (p1 &&& (3 : Int32))), .unset] [(.int (p1 &&& (3 : Int32)))])) _
        refine XS.iconst X0.here hx rfl (hb hby at_17) ?_
        show Steps p.tables e below (s₁.setTop (mkF m 18 #[.val (.int p0), .val (.int p1), .val (.int (p1 &&& (3 : Int32))), .unset] [(.int (1 : Int32)), (.int (p1 &&& (3 : Int32)))])) _
        have sg18 : Steps p.tables e below (s₁.setTop (mkF m 35 #[.val (.int p0), .val (.int p1), .val (.int (p1 &&& (3 : Int32))), .val (.int (if (p1 &&& (3 : Int32)) = (1 : Int32) then (p0 &&& (255 : Int32)) else (p0 &&& (2147483647 : Int32))))] [])) tZ → Steps p.tables e below (s₁.setTop (mkF m 18 #[.val (.int p0), .val (.int p1), .val (.int (p1 &&& (3 : Int32))), .unset] [(.int (1 : Int32)), (.int (p1 &&& (3 : Int32)))])) tZ := by
          intro kj
          by_cases hc18 : (p1 &&& (3 : Int32)) = (1 : Int32)
          · try simp only [if_pos hc18] at kj
            refine XS.icmpNo X0.here hx rfl (hb hby at_18) rfl (teq hc18).2 ?_
            show Steps p.tables e below (s₁.setTop (mkF m 21 #[.val (.int p0), .val (.int p1), .val (.int (p1 &&& (3 : Int32))), .unset] [])) _
            refine XS.iloadN X0.here hx rfl (hb hby at_21) rfl ?_
            show Steps p.tables e below (s₁.setTop (mkF m 22 #[.val (.int p0), .val (.int p1), .val (.int (p1 &&& (3 : Int32))), .unset] [(.int p0)])) _
            refine XS.sipush X0.here hx rfl (hb hby at_22) ?_
            show Steps p.tables e below (s₁.setTop (mkF m 25 #[.val (.int p0), .val (.int p1), .val (.int (p1 &&& (3 : Int32))), .unset] [(.int (255 : Int32)), (.int p0)])) _
            refine XS.iand X0.here hx rfl (hb hby at_25) rfl ?_
            show Steps p.tables e below (s₁.setTop (mkF m 26 #[.val (.int p0), .val (.int p1), .val (.int (p1 &&& (3 : Int32))), .unset] [(.int (p0 &&& (255 : Int32)))])) _
            refine XS.istoreN X0.here hx rfl (hb hby at_26) rfl (l' := #[.val (.int p0), .val (.int p1), .val (.int (p1 &&& (3 : Int32))), .val (.int (p0 &&& (255 : Int32)))]) rfl ?_
            show Steps p.tables e below (s₁.setTop (mkF m 27 #[.val (.int p0), .val (.int p1), .val (.int (p1 &&& (3 : Int32))), .val (.int (p0 &&& (255 : Int32)))] [])) _
            refine XS.goto X0.here hx rfl (pc0 := 27) (pc' := 35) rfl (hb hby at_27) (by decide) (by decide) ?_
            show Steps p.tables e below (s₁.setTop (mkF m 35 #[.val (.int p0), .val (.int p1), .val (.int (p1 &&& (3 : Int32))), .val (.int (p0 &&& (255 : Int32)))] [])) _
            exact kj
          · try simp only [if_neg hc18] at kj
            refine XS.icmpYes X0.here hx rfl (pc0 := 18) (pc' := 30) rfl (hb hby at_18) rfl (feq hc18).2 (by decide) (by decide) ?_
            show Steps p.tables e below (s₁.setTop (mkF m 30 #[.val (.int p0), .val (.int p1), .val (.int (p1 &&& (3 : Int32))), .unset] [])) _
            refine XS.iloadN X0.here hx rfl (hb hby at_30) rfl ?_
            show Steps p.tables e below (s₁.setTop (mkF m 31 #[.val (.int p0), .val (.int p1), .val (.int (p1 &&& (3 : Int32))), .unset] [(.int p0)])) _
            refine X0.ldcInt hx hown (mvT hZ (hw _ (List.mem_of_getElem? (i := 0) rfl))) (g := (mkF m 31 #[.val (.int p0), .val (.int p1), .val (.int (p1 &&& (3 : Int32))), .unset] [(.int p0)])) rfl (hb hby at_31) _ ?_
            show Steps p.tables e below (s₁.setTop (mkF m 33 #[.val (.int p0), .val (.int p1), .val (.int (p1 &&& (3 : Int32))), .unset] [(.int (2147483647 : Int32)), (.int p0)])) _
            refine XS.iand X0.here hx rfl (hb hby at_33) rfl ?_
            show Steps p.tables e below (s₁.setTop (mkF m 34 #[.val (.int p0), .val (.int p1), .val (.int (p1 &&& (3 : Int32))), .unset] [(.int (p0 &&& (2147483647 : Int32)))])) _
            refine XS.istoreN X0.here hx rfl (hb hby at_34) rfl (l' := #[.val (.int p0), .val (.int p1), .val (.int (p1 &&& (3 : Int32))), .val (.int (p0 &&& (2147483647 : Int32)))]) rfl ?_
            show Steps p.tables e below (s₁.setTop (mkF m 35 #[.val (.int p0), .val (.int p1), .val (.int (p1 &&& (3 : Int32))), .val (.int (p0 &&& (2147483647 : Int32)))] [])) _
            exact kj
        refine sg18 ?_
        show Steps p.tables e below (s₁.setTop (mkF m 35 #[.val (.int p0), .val (.int p1), .val (.int (p1 &&& (3 : Int32))), .val (.int (w0_0 p0 p1))] [])) _
        exact kj
    refine sg5 ?_
    show Steps p.tables e below (s₁.setTop (mkF m 35 #[.val (.int p0), .val (.int p1), .val (.int (p1 &&& (3 : Int32))), .val (.int (w0_1 p0 p1))] [])) _
    refine XS.iloadN X0.here hx rfl (hb hby at_35) rfl ?_
    show Steps p.tables e below (s₁.setTop (mkF m 36 #[.val (.int p0), .val (.int p1), .val (.int (p1 &&& (3 : Int32))), .val (.int (w0_1 p0 p1))] [(.int (w0_1 p0 p1))])) _
    exact kZ
  obtain ⟨_, _, ⟨T1, L1, k1, n1⟩, -, X1, ⟨Lc1, hQ1, l1, y1, z1⟩, st1⟩ := Jvm.LawKit.callS X0 hx (y := (⟨"com/example/mete/mete/core/Record$Type", "coded", "(I)Lcom/example/mete/mete/core/Record$Type;"⟩ : MethodName)) hown (mvT hZ (hw _ (List.mem_of_getElem? (i := 1) rfl))) (mvT hZ (hw _ (List.mem_of_getElem? (i := 2) rfl))) (mvT hZ (hw _ (List.mem_of_getElem? (i := 3) rfl))) (mvT hZ (hw _ (List.mem_of_getElem? (i := 4) rfl))) (by decide) (backOf (W := 0) (rm1 l Z a0 hw [] (w0_1 p0 p1) aB (own_g a6_ a7_ a9_ a10_ a12_ a14_ a15_ a17_ a18_ a19_ a20_ a21_ a23_ a24_ a25_) h0 n0 Z0 ha0 ha16 (own_nn _ _) (own_gr a6_ a7_ a9_ a10_ a12_ a14_ a15_ a17_ a18_ a19_ a20_ a21_ a23_ a24_ a25_)) hZ (hw _ (List.mem_of_getElem? (i := 4) rfl)) (hw _ (List.mem_of_getElem? (i := 3) rfl)) (by decide) (by decide)) (g := (mkF m 36 #[.val (.int p0), .val (.int p1), .val (.int (p1 &&& (3 : Int32))), .val (.int (w0_1 p0 p1))] [(.int (w0_1 p0 p1))])) rfl (by rw [hml]; rfl) (argsL := [(.int (w0_1 p0 p1))]) (rest := []) (lenOf pd_0 rfl) rfl (by show 2 * 0 + _ ≤ _; exact Nat.le_of_eq rfl) (hb hby at_36) (fun _ _ => ⟨rfl, e0, (by decide : 0 + 0 ≤ _), (by decide : 0 + 0 ≤ _)⟩)
  dsimp only [Pt.U, Pt.locs, Pt.cells, Pt.slots] at X1 l1 y1 z1 st1 hQ1
  subst l1 y1 z1
  obtain ⟨rfl, N1q, e1⟩ := hQ1
  have N1 := Fr.app N0 N1q
  refine Go.via st1 ?_
  show Go p e below _ (T1.setTop (mkF m 39 #[.val (.int p0), .val (.int p1), .val (.int (p1 &&& (3 : Int32))), .val (.int (w0_1 p0 p1))] [(f1 (w0_1 p0 p1) aB (own_g a6_ a7_ a9_ a10_ a12_ a14_ a15_ a17_ a18_ a19_ a20_ a21_ a23_ a24_ a25_))]))
  refine Go.via (T' := T1.setTop (mkF m 40 #[.val (.int p0), .val (.int p1), .val (.int (p1 &&& (3 : Int32))), .val (.int (w0_1 p0 p1))] [(.int (w0_1 p0 p1)), (f1 (w0_1 p0 p1) aB (own_g a6_ a7_ a9_ a10_ a12_ a14_ a15_ a17_ a18_ a19_ a20_ a21_ a23_ a24_ a25_))])) (fun tZ kZ => ?_) ?_
  · show Steps p.tables e below (T1.setTop (mkF m 39 #[.val (.int p0), .val (.int p1), .val (.int (p1 &&& (3 : Int32))), .val (.int (w0_1 p0 p1))] [(f1 (w0_1 p0 p1) aB (own_g a6_ a7_ a9_ a10_ a12_ a14_ a15_ a17_ a18_ a19_ a20_ a21_ a23_ a24_ a25_))])) _
    refine XS.iloadN X1.here hx rfl (hb hby at_39) rfl ?_
    show Steps p.tables e below (T1.setTop (mkF m 40 #[.val (.int p0), .val (.int p1), .val (.int (p1 &&& (3 : Int32))), .val (.int (w0_1 p0 p1))] [(.int (w0_1 p0 p1)), (f1 (w0_1 p0 p1) aB (own_g a6_ a7_ a9_ a10_ a12_ a14_ a15_ a17_ a18_ a19_ a20_ a21_ a23_ a24_ a25_))])) _
    exact kZ
  obtain ⟨_, _, ⟨T2, L2, k2, n2⟩, -, X2, ⟨Lc2, hQ2, l2, y2, z2⟩, st2⟩ := Jvm.LawKit.callS X1 hx (y := (⟨"com/example/mete/mete/core/TypeCodedPinLaw", "expected", "(I)Lcom/example/mete/mete/core/Record$Type;"⟩ : MethodName)) hown (mvT hZ (hw _ (List.mem_of_getElem? (i := 7) rfl))) (mvT hZ (hw _ (List.mem_of_getElem? (i := 8) rfl))) (mvT hZ (hw _ (List.mem_of_getElem? (i := 9) rfl))) (mvT hZ (hw _ (List.mem_of_getElem? (i := 10) rfl))) (by decide) (backOf (W := 1) (rm2 l Z a0 hw [] (w0_1 p0 p1) a6_ a7_ a9_ a10_ a12_ a14_ a15_ a17_ a18_ a19_ a20_ a21_ a23_ a24_ a25_ h0 n0 Z0 ha1 ha2 ha3 ha4 ha5 ha6 ha7 ha8 ha9 ha10 ha11 ha12 ha13 ha14 ha15) hZ (hw _ (List.mem_of_getElem? (i := 10) rfl)) (hw _ (List.mem_of_getElem? (i := 9) rfl)) (by decide) (by decide)) (g := (mkF m 40 #[.val (.int p0), .val (.int p1), .val (.int (p1 &&& (3 : Int32))), .val (.int (w0_1 p0 p1))] [(.int (w0_1 p0 p1)), (f1 (w0_1 p0 p1) aB (own_g a6_ a7_ a9_ a10_ a12_ a14_ a15_ a17_ a18_ a19_ a20_ a21_ a23_ a24_ a25_))])) rfl (by rw [hml]; rfl) (argsL := [(.int (w0_1 p0 p1))]) (rest := [(f1 (w0_1 p0 p1) aB (own_g a6_ a7_ a9_ a10_ a12_ a14_ a15_ a17_ a18_ a19_ a20_ a21_ a23_ a24_ a25_))]) (lenOf pd_0 rfl) rfl (by show 2 * 0 + ([(f1 (w0_1 p0 p1) aB (own_g a6_ a7_ a9_ a10_ a12_ a14_ a15_ a17_ a18_ a19_ a20_ a21_ a23_ a24_ a25_))].map fun v => v.category).sum ≤ _; simp [own_cat (v := (f1 (w0_1 p0 p1) aB (own_g a6_ a7_ a9_ a10_ a12_ a14_ a15_ a17_ a18_ a19_ a20_ a21_ a23_ a24_ a25_))) (by rw [own_same a6_ a7_ a9_ a10_ a12_ a14_ a15_ a17_ a18_ a19_ a20_ a21_ a23_ a24_ a25_ aB _ (own_nn _ _)]; exact own_f2r _ a6_ a7_ a9_ a10_ a12_ a14_ a15_ a17_ a18_ a19_ a20_ a21_ a23_ a24_ a25_), List.map]) (hb hby at_40) (fun _ _ => ⟨rfl, e1, (by decide : 0 + 0 + 0 ≤ _), (by decide : 0 + 0 + 0 ≤ _)⟩)
  dsimp only [Pt.U, Pt.locs, Pt.cells, Pt.slots] at X2 l2 y2 z2 st2 hQ2
  subst l2 y2 z2
  obtain ⟨rfl, N2q, e2⟩ := hQ2
  have N2 := Fr.app N1 N2q
  refine Go.via st2 ?_
  show Go p e below _ (T2.setTop (mkF m 43 #[.val (.int p0), .val (.int p1), .val (.int (p1 &&& (3 : Int32))), .val (.int (w0_1 p0 p1))] [(f2 (w0_1 p0 p1) a6_ a7_ a9_ a10_ a12_ a14_ a15_ a17_ a18_ a19_ a20_ a21_ a23_ a24_ a25_), (f1 (w0_1 p0 p1) aB (own_g a6_ a7_ a9_ a10_ a12_ a14_ a15_ a17_ a18_ a19_ a20_ a21_ a23_ a24_ a25_))]))
  refine Go.via (T' := T2.setTop (mkF m 51 #[.val (.int p0), .val (.int p1), .val (.int (p1 &&& (3 : Int32))), .val (.int (w0_1 p0 p1))] [(.int (1 : Int32))])) (fun tZ kZ => ?_) ?_
  · show Steps p.tables e below (T2.setTop (mkF m 43 #[.val (.int p0), .val (.int p1), .val (.int (p1 &&& (3 : Int32))), .val (.int (w0_1 p0 p1))] [(f2 (w0_1 p0 p1) a6_ a7_ a9_ a10_ a12_ a14_ a15_ a17_ a18_ a19_ a20_ a21_ a23_ a24_ a25_), (f1 (w0_1 p0 p1) aB (own_g a6_ a7_ a9_ a10_ a12_ a14_ a15_ a17_ a18_ a19_ a20_ a21_ a23_ a24_ a25_))])) _
    refine Jvm.RoadKit.acmp (g := (mkF m 43 #[.val (.int p0), .val (.int p1), .val (.int (p1 &&& (3 : Int32))), .val (.int (w0_1 p0 p1))] [(f2 (w0_1 p0 p1) a6_ a7_ a9_ a10_ a12_ a14_ a15_ a17_ a18_ a19_ a20_ a21_ a23_ a24_ a25_), (f1 (w0_1 p0 p1) aB (own_g a6_ a7_ a9_ a10_ a12_ a14_ a15_ a17_ a18_ a19_ a20_ a21_ a23_ a24_ a25_))])) X2 hx rfl (by rw [own_same a6_ a7_ a9_ a10_ a12_ a14_ a15_ a17_ a18_ a19_ a20_ a21_ a23_ a24_ a25_ aB _ (own_nn _ _)]; exact own_f2r _ a6_ a7_ a9_ a10_ a12_ a14_ a15_ a17_ a18_ a19_ a20_ a21_ a23_ a24_ a25_) (own_f2r _ a6_ a7_ a9_ a10_ a12_ a14_ a15_ a17_ a18_ a19_ a20_ a21_ a23_ a24_ a25_) (pc0 := 43) (pc' := 46) (same := true) rfl (hb hby at_43) rfl (decide_eq_true (own_same a6_ a7_ a9_ a10_ a12_ a14_ a15_ a17_ a18_ a19_ a20_ a21_ a23_ a24_ a25_ aB _ (own_nn _ _))) (by decide) (by decide) ?_
    show Steps p.tables e below (T2.setTop (mkF m 46 #[.val (.int p0), .val (.int p1), .val (.int (p1 &&& (3 : Int32))), .val (.int (w0_1 p0 p1))] [])) _
    refine XS.iconst X2.here hx rfl (hb hby at_46) ?_
    show Steps p.tables e below (T2.setTop (mkF m 47 #[.val (.int p0), .val (.int p1), .val (.int (p1 &&& (3 : Int32))), .val (.int (w0_1 p0 p1))] [(.int (1 : Int32))])) _
    refine XS.goto X2.here hx rfl (pc0 := 47) (pc' := 51) rfl (hb hby at_47) (by decide) (by decide) ?_
    show Steps p.tables e below (T2.setTop (mkF m 51 #[.val (.int p0), .val (.int p1), .val (.int (p1 &&& (3 : Int32))), .val (.int (w0_1 p0 p1))] [(.int (1 : Int32))])) _
    exact kZ
  refine Go.retN X2 hx Bd.notSynchronized (t := .boolean) Bd.returns (by simp) (hb hby at_51) (by decide) (by decide) ?_
  exact ⟨rfl, N2⟩
set_option maxRecDepth 65536 in
set_option maxHeartbeats 40000000 in
theorem comes_1 {Post : Tables → Env → Array Value → State → Outcome → State → Prop} (hpost : ∀ tb e args s v u, (limb_1_1.after args s (.returned v) u = true ∧ limb_1_2.after args s (.returned v) u = true ∧ True) → FrameEnd s (.returned v) u (Jvm.fieldLocs frame_1_writes args s ++ Jvm.arrayLocs frame_1_arrays args s ++ Jvm.staticLocs frame_1_statics s) 0 0 → Post tb e args s (.returned v) u) :
    ArmFor flags0 classFile x code maxLocals ret World_1 tables_1 room_1 Calls_1 rest_1 Pre_1 Post := by
  intro l hfl _ _ p e ha hc hk s m args below hf hA hF happ hP
  obtain ⟨hcalls, hrest, hpre⟩ := hP
  obtain ⟨-, -, -, hnamed, -, -, -, hat⟩ := (Spec.applies_iff hf).mp happ
  obtain ⟨hg, hn⟩ := and_e (Cond.before_iff.mp (show (Jvm.Cond.and given_1 narrow_1).before args s = true from hpre))
  obtain ⟨g1, g2⟩ := and_e hg
  obtain ⟨g3, g4⟩ := and_e g2
  obtain ⟨w0, w1, rfl⟩ : ∃ w0 w1 : Value, args = #[w0, w1] := by
    have hs : args.size = 2 := by simpa [Cond.value, given_1] using g1
    obtain ⟨L⟩ := args
    match L, hs with
    | [w0, w1], _ => exact ⟨w0, w1, rfl⟩
  have hw := fun d (hd : d ∈ tables_1) => atoms_spec (ws := Jvm.Cond.code x code maxLocals ret :: tables_1) hat d (List.mem_cons_of_mem _ hd)
  have hfit : Fit s := fun {y c} hc i hi => by
    obtain ⟨ha, rfl⟩ := Array.getElem?_eq_some_iff.mp hc
    have q := List.all_eq_true.mp ((Array.all_eq_true_iff_forall_mem.mp hF) _ (Array.getElem_mem ha)) i (List.mem_range.mpr hi)
    simpa [Array.getElem?_eq_getElem hi] using q
  obtain ⟨i0, ei0⟩ := is_v g3
  obtain rfl : w0 = (.int i0) := Option.some.inj ei0
  obtain ⟨i1, ei1⟩ := is_v g4
  obtain rfl : w1 = (.int i1) := Option.some.inj ei1
  obtain ⟨hn1, hn2⟩ := and_e hn
  obtain ⟨hn3, hn4⟩ := and_e hn2
  obtain ⟨hn5, hn6⟩ := and_e hn4
  obtain ⟨hn7, hn8⟩ := and_e hn6
  obtain ⟨hn9, hn10⟩ := and_e hn8
  obtain ⟨hn11, hn12⟩ := and_e hn10
  obtain ⟨hn13, hn14⟩ := and_e hn12
  obtain ⟨hn15, hn16⟩ := and_e hn14
  obtain ⟨hn17, hn18⟩ := and_e hn16
  obtain ⟨hn19, hn20⟩ := and_e hn18
  obtain ⟨hn21, hn22⟩ := and_e hn20
  obtain ⟨hn23, hn24⟩ := and_e hn22
  obtain ⟨hn25, hn26⟩ := and_e hn24
  obtain ⟨hn27, hn28⟩ := and_e hn26
  obtain ⟨hn29, hn30⟩ := and_e hn28
  obtain ⟨hn31, hn32⟩ := and_e hn30
  obtain ⟨hn33, hn34⟩ := and_e hn32
  obtain ⟨hn35, hn36⟩ := and_e hn34
  obtain ⟨hn37, hn38⟩ := and_e hn36
  obtain ⟨hn39, hn40⟩ := and_e hn38
  obtain ⟨hn41, hn42⟩ := and_e hn40
  obtain ⟨hn43, hn44⟩ := and_e hn42
  obtain ⟨hn45, hn46⟩ := and_e hn44
  obtain ⟨hn47, hn48⟩ := and_e hn46
  obtain ⟨hn49, hn50⟩ := and_e hn48
  obtain ⟨hn51, hn52⟩ := and_e hn50
  obtain ⟨hn53, hn54⟩ := and_e hn52
  obtain ⟨hn55, hn56⟩ := and_e hn54
  obtain ⟨hn57, hn58⟩ := and_e hn56
  obtain ⟨hn59, hn60⟩ := and_e hn58
  obtain ⟨hn61, hn62⟩ := and_e hn60
  obtain ⟨hn63, hn64⟩ := and_e hn62
  obtain ⟨hn65, hn66⟩ := and_e hn64
  obtain ⟨hn67, hn68⟩ := and_e hn66
  obtain ⟨hn69, hn70⟩ := and_e hn68
  obtain ⟨hn71, hn72⟩ := and_e hn70
  obtain ⟨hn73, hn74⟩ := and_e hn72
  obtain ⟨hn75, hn76⟩ := and_e hn74
  obtain ⟨hn77, hn78⟩ := and_e hn76
  obtain ⟨hn79, hn80⟩ := and_e hn78
  obtain ⟨hn81, hn82⟩ := and_e hn80
  obtain ⟨hn83, hn84⟩ := and_e hn82
  obtain ⟨a14_, ev_a14_⟩ := exa_v hn7
  have S_a14_ : Sta s s.heap "com/example/mete/mete/core/Record$Type" "QUEUE_CLOSED" "Lcom/example/mete/mete/core/Record$Type;" (.ref a14_) := Sta.start ev_a14_ (Or.inr ⟨(hw _ (List.mem_of_getElem? (i := 3) rfl)), (hw _ (List.mem_of_getElem? (i := 11) rfl))⟩)
  have E_a14_ : Exa s s.heap a14_ "com/example/mete/mete/core/Record$Type" := Exa.start ev_a14_ hn7
  obtain ⟨a6_, ev_a6_⟩ := exa_v hn13
  have S_a6_ : Sta s s.heap "com/example/mete/mete/core/Record$Type" "ITEM_RECEIVED" "Lcom/example/mete/mete/core/Record$Type;" (.ref a6_) := Sta.start ev_a6_ (Or.inr ⟨(hw _ (List.mem_of_getElem? (i := 3) rfl)), (hw _ (List.mem_of_getElem? (i := 13) rfl))⟩)
  have E_a6_ : Exa s s.heap a6_ "com/example/mete/mete/core/Record$Type" := Exa.start ev_a6_ hn13
  obtain ⟨a12_, ev_a12_⟩ := exa_v hn17
  have S_a12_ : Sta s s.heap "com/example/mete/mete/core/Record$Type" "LEASES_RAN_OUT" "Lcom/example/mete/mete/core/Record$Type;" (.ref a12_) := Sta.start ev_a12_ (Or.inr ⟨(hw _ (List.mem_of_getElem? (i := 3) rfl)), (hw _ (List.mem_of_getElem? (i := 15) rfl))⟩)
  have E_a12_ : Exa s s.heap a12_ "com/example/mete/mete/core/Record$Type" := Exa.start ev_a12_ hn17
  obtain ⟨a7_, ev_a7_⟩ := exa_v hn29
  have S_a7_ : Sta s s.heap "com/example/mete/mete/core/Record$Type" "LEASE_RENEWED" "Lcom/example/mete/mete/core/Record$Type;" (.ref a7_) := Sta.start ev_a7_ (Or.inr ⟨(hw _ (List.mem_of_getElem? (i := 3) rfl)), (hw _ (List.mem_of_getElem? (i := 17) rfl))⟩)
  have E_a7_ : Exa s s.heap a7_ "com/example/mete/mete/core/Record$Type" := Exa.start ev_a7_ hn29
  obtain ⟨a10_, ev_a10_⟩ := exa_v hn33
  have S_a10_ : Sta s s.heap "com/example/mete/mete/core/Record$Type" "ITEM_RELEASED" "Lcom/example/mete/mete/core/Record$Type;" (.ref a10_) := Sta.start ev_a10_ (Or.inr ⟨(hw _ (List.mem_of_getElem? (i := 3) rfl)), (hw _ (List.mem_of_getElem? (i := 19) rfl))⟩)
  have E_a10_ : Exa s s.heap a10_ "com/example/mete/mete/core/Record$Type" := Exa.start ev_a10_ hn33
  obtain ⟨a23_, ev_a23_⟩ := exa_v hn39
  have S_a23_ : Sta s s.heap "com/example/mete/mete/core/Record$Type" "CHANGE_BEGUN" "Lcom/example/mete/mete/core/Record$Type;" (.ref a23_) := Sta.start ev_a23_ (Or.inr ⟨(hw _ (List.mem_of_getElem? (i := 3) rfl)), (hw _ (List.mem_of_getElem? (i := 21) rfl))⟩)
  have E_a23_ : Exa s s.heap a23_ "com/example/mete/mete/core/Record$Type" := Exa.start ev_a23_ hn39
  obtain ⟨a24_, ev_a24_⟩ := exa_v hn45
  have S_a24_ : Sta s s.heap "com/example/mete/mete/core/Record$Type" "ITEM_SUBMITTED" "Lcom/example/mete/mete/core/Record$Type;" (.ref a24_) := Sta.start ev_a24_ (Or.inr ⟨(hw _ (List.mem_of_getElem? (i := 3) rfl)), (hw _ (List.mem_of_getElem? (i := 23) rfl))⟩)
  have E_a24_ : Exa s s.heap a24_ "com/example/mete/mete/core/Record$Type" := Exa.start ev_a24_ hn45
  obtain ⟨a9_, ev_a9_⟩ := exa_v hn49
  have S_a9_ : Sta s s.heap "com/example/mete/mete/core/Record$Type" "QUEUE_CREATED" "Lcom/example/mete/mete/core/Record$Type;" (.ref a9_) := Sta.start ev_a9_ (Or.inr ⟨(hw _ (List.mem_of_getElem? (i := 3) rfl)), (hw _ (List.mem_of_getElem? (i := 25) rfl))⟩)
  have E_a9_ : Exa s s.heap a9_ "com/example/mete/mete/core/Record$Type" := Exa.start ev_a9_ hn49
  obtain ⟨a18_, ev_a18_⟩ := exa_v hn53
  have S_a18_ : Sta s s.heap "com/example/mete/mete/core/Record$Type" "ITEM_FAILED" "Lcom/example/mete/mete/core/Record$Type;" (.ref a18_) := Sta.start ev_a18_ (Or.inr ⟨(hw _ (List.mem_of_getElem? (i := 3) rfl)), (hw _ (List.mem_of_getElem? (i := 27) rfl))⟩)
  have E_a18_ : Exa s s.heap a18_ "com/example/mete/mete/core/Record$Type" := Exa.start ev_a18_ hn53
  obtain ⟨a20_, ev_a20_⟩ := exa_v hn59
  have S_a20_ : Sta s s.heap "com/example/mete/mete/core/Record$Type" "SEGMENT_BEGUN" "Lcom/example/mete/mete/core/Record$Type;" (.ref a20_) := Sta.start ev_a20_ (Or.inr ⟨(hw _ (List.mem_of_getElem? (i := 3) rfl)), (hw _ (List.mem_of_getElem? (i := 29) rfl))⟩)
  have E_a20_ : Exa s s.heap a20_ "com/example/mete/mete/core/Record$Type" := Exa.start ev_a20_ hn59
  obtain ⟨a15_, ev_a15_⟩ := exa_v hn65
  have S_a15_ : Sta s s.heap "com/example/mete/mete/core/Record$Type" "QUEUE_DELETED" "Lcom/example/mete/mete/core/Record$Type;" (.ref a15_) := Sta.start ev_a15_ (Or.inr ⟨(hw _ (List.mem_of_getElem? (i := 3) rfl)), (hw _ (List.mem_of_getElem? (i := 31) rfl))⟩)
  have E_a15_ : Exa s s.heap a15_ "com/example/mete/mete/core/Record$Type" := Exa.start ev_a15_ hn65
  obtain ⟨a19_, ev_a19_⟩ := exa_v hn69
  have S_a19_ : Sta s s.heap "com/example/mete/mete/core/Record$Type" "ITEMS_REMOVED" "Lcom/example/mete/mete/core/Record$Type;" (.ref a19_) := Sta.start ev_a19_ (Or.inr ⟨(hw _ (List.mem_of_getElem? (i := 3) rfl)), (hw _ (List.mem_of_getElem? (i := 33) rfl))⟩)
  have E_a19_ : Exa s s.heap a19_ "com/example/mete/mete/core/Record$Type" := Exa.start ev_a19_ hn69
  obtain ⟨a25_, ev_a25_⟩ := exa_v hn73
  have S_a25_ : Sta s s.heap "com/example/mete/mete/core/Record$Type" "ITEM_CARRIED" "Lcom/example/mete/mete/core/Record$Type;" (.ref a25_) := Sta.start ev_a25_ (Or.inr ⟨(hw _ (List.mem_of_getElem? (i := 3) rfl)), (hw _ (List.mem_of_getElem? (i := 35) rfl))⟩)
  have E_a25_ : Exa s s.heap a25_ "com/example/mete/mete/core/Record$Type" := Exa.start ev_a25_ hn73
  obtain ⟨a21_, ev_a21_⟩ := exa_v hn77
  have S_a21_ : Sta s s.heap "com/example/mete/mete/core/Record$Type" "QUEUE_CARRIED" "Lcom/example/mete/mete/core/Record$Type;" (.ref a21_) := Sta.start ev_a21_ (Or.inr ⟨(hw _ (List.mem_of_getElem? (i := 3) rfl)), (hw _ (List.mem_of_getElem? (i := 37) rfl))⟩)
  have E_a21_ : Exa s s.heap a21_ "com/example/mete/mete/core/Record$Type" := Exa.start ev_a21_ hn77
  obtain ⟨a17_, ev_a17_⟩ := exa_v hn81
  have S_a17_ : Sta s s.heap "com/example/mete/mete/core/Record$Type" "ITEM_COMMITTED" "Lcom/example/mete/mete/core/Record$Type;" (.ref a17_) := Sta.start ev_a17_ (Or.inr ⟨(hw _ (List.mem_of_getElem? (i := 3) rfl)), (hw _ (List.mem_of_getElem? (i := 39) rfl))⟩)
  have E_a17_ : Exa s s.heap a17_ "com/example/mete/mete/core/Record$Type" := Exa.start ev_a17_ hn81
  obtain ⟨aB, ev_aB⟩ := arr_v hn1
  have S_aB : Sta s s.heap "com/example/mete/mete/core/Record$Type" "BY_CODE" "[Lcom/example/mete/mete/core/Record$Type;" (.ref aB) := Sta.start ev_aB (Or.inr ⟨(hw _ (List.mem_of_getElem? (i := 3) rfl)), (hw _ (List.mem_of_getElem? (i := 6) rfl))⟩)
  obtain ⟨cB, A_aB⟩ := Arr.start ev_aB hn1
  have len_aB := own_len ev_aB A_aB (own_eqi hn3)
  have el0 := (elem_in (null_v hn5) ev_aB rfl A_aB.1).2
  have el1 := (elem_in (null_v hn25) ev_aB rfl A_aB.1).2
  have el2 := (elem_in (null_v hn27) ev_aB rfl A_aB.1).2
  have el3 := (elem_in (null_v hn21) ev_aB rfl A_aB.1).2
  have el4 := (elem_in (null_v hn57) ev_aB rfl A_aB.1).2
  have el5 := (elem_in (null_v hn23) ev_aB rfl A_aB.1).2
  have el6 := (elem_in (own_eqr hn15 ev_a6_) ev_aB rfl A_aB.1).2
  have el7 := (elem_in (own_eqr hn31 ev_a7_) ev_aB rfl A_aB.1).2
  have el8 := (elem_in (null_v hn11) ev_aB rfl A_aB.1).2
  have el9 := (elem_in (own_eqr hn51 ev_a9_) ev_aB rfl A_aB.1).2
  have el10 := (elem_in (own_eqr hn35 ev_a10_) ev_aB rfl A_aB.1).2
  have el11 := (elem_in (null_v hn37) ev_aB rfl A_aB.1).2
  have el12 := (elem_in (own_eqr hn19 ev_a12_) ev_aB rfl A_aB.1).2
  have el13 := (elem_in (null_v hn63) ev_aB rfl A_aB.1).2
  have el14 := (elem_in (own_eqr hn9 ev_a14_) ev_aB rfl A_aB.1).2
  have el15 := (elem_in (own_eqr hn67 ev_a15_) ev_aB rfl A_aB.1).2
  have el16 := (elem_in (null_v hn43) ev_aB rfl A_aB.1).2
  have el17 := (elem_in (own_eqr hn83 ev_a17_) ev_aB rfl A_aB.1).2
  have el18 := (elem_in (own_eqr hn55 ev_a18_) ev_aB rfl A_aB.1).2
  have el19 := (elem_in (own_eqr hn71 ev_a19_) ev_aB rfl A_aB.1).2
  have el20 := (elem_in (own_eqr hn61 ev_a20_) ev_aB rfl A_aB.1).2
  have el21 := (elem_in (own_eqr hn79 ev_a21_) ev_aB rfl A_aB.1).2
  have el22 := (elem_in (null_v hn84) ev_aB rfl A_aB.1).2
  have el23 := (elem_in (own_eqr hn41 ev_a23_) ev_aB rfl A_aB.1).2
  have el24 := (elem_in (own_eqr hn47 ev_a24_) ev_aB rfl A_aB.1).2
  have el25 := (elem_in (own_eqr hn75 ev_a25_) ev_aB rfl A_aB.1).2
  have V_aB : AV s s.heap aB (.object "com/example/mete/mete/core/Record$Type") 26 (own_g a6_ a7_ a9_ a10_ a12_ a14_ a15_ a17_ a18_ a19_ a20_ a21_ a23_ a24_ a25_) := ⟨by decide, cB, A_aB, len_aB, fun k hk => by
    match k, hk with
    | 0, _ => exact el0
    | 1, _ => exact el1
    | 2, _ => exact el2
    | 3, _ => exact el3
    | 4, _ => exact el4
    | 5, _ => exact el5
    | 6, _ => exact el6
    | 7, _ => exact el7
    | 8, _ => exact el8
    | 9, _ => exact el9
    | 10, _ => exact el10
    | 11, _ => exact el11
    | 12, _ => exact el12
    | 13, _ => exact el13
    | 14, _ => exact el14
    | 15, _ => exact el15
    | 16, _ => exact el16
    | 17, _ => exact el17
    | 18, _ => exact el18
    | 19, _ => exact el19
    | 20, _ => exact el20
    | 21, _ => exact el21
    | 22, _ => exact el22
    | 23, _ => exact el23
    | 24, _ => exact el24
    | 25, _ => exact el25
    | n + 26, hk => exact absurd hk (by omega)⟩
  obtain ⟨n, o, h1, h2, h3, _, L, rfl, ⟨rfl, N⟩, hq⟩ := rm0 l s _ hw tables_1 i0 i1 a6_ a7_ a9_ a10_ a12_ a14_ a15_ a17_ a18_ a19_ a20_ a21_ a23_ a24_ a25_ aB s.heap s.heap.size (Nat.le_refl _) S_aB S_a6_ S_a7_ S_a9_ S_a10_ S_a12_ S_a14_ S_a15_ S_a17_ S_a18_ S_a19_ S_a20_ S_a21_ S_a23_ S_a24_ S_a25_ V_aB p e ha hc hk s m _ below hf ((Spec.applies_iff_loose hf).mp happ).1 ⟨rfl, State.Warmed39.refl s, rfl⟩ trivial
  refine ⟨n, _, h1, h2, h3, hpost _ _ _ _ _ _ ⟨Cond.after_iff.mpr rfl, Cond.after_iff.mpr (eq_i res_at (Term.int_eval (1)) rfl), trivial⟩ ⟨hq.1, hq.2.1, (hq.2.2.sift fun y hy => Or.inr (N y hy)).mono (by decide) (by decide)⟩⟩
theorem main_1_1 : Claimed_1_1 := comes_1 fun _ _ _ _ _ _ h hF => ⟨h.1, hF⟩
theorem main_1_2 : Claimed_1_2 := comes_1 fun _ _ _ _ _ _ h hF => ⟨h.2.1, hF⟩
end Jvm.Pilot.@@N@@
namespace Jvm.Pilot.@@N@@
open Jvm Jvm.ClassFile Sem Op Lib Jvm.Free Jvm.Stand Jvm.Pilot.@@N@@.Jvm.D
/-! MADE BY PROGRAM (witnessworld.py) out of the Statement's table words and the real class files: 13 classes; the members and pool entries that the words name. The judged class is class 1, her method 1. -/
namespace start1
open Jvm.ClassFile
def u (s : String) : CpInfo := .utf8 (stringToUtf16 s)
/-- a pool by its gaps: so many unusable entries, then the entry; so many at the end -/
def gap : Nat → List CpInfo → List CpInfo
  | 0, r => r
  | n + 1, r => .unusable :: gap n r
def poolList (es : List (Nat × CpInfo)) (last : Nat) : List CpInfo := es.foldr (fun e r => gap e.1 (e.2 :: r)) (gap last [])
def pool (es : List (Nat × CpInfo)) (last : Nat) : Array CpInfo := ⟨poolList es last⟩
def fileOf (pool : Array CpInfo) (this : Nat) (attrs : Array Attribute := #[]) (ms : Array MethodInfo := #[]) (fl : Nat := 33) (sup : Nat := 0) (ifs : Array Nat := #[]) (fds : Array FieldInfo := #[]) : ClassFile where
  minorVersion := 0
  majorVersion := 65
  constantPool := pool
  accessFlags := fl
  thisClass := this
  superClass := sup
  interfaces := ifs
  fields := fds
  methods := ms
  attributes := attrs
def plain (name : String) (sup : Option ClassId) : Class where
  name := name
  kind := .ordinary
  loader := none
  accessFlags := 33
  super := sup
  interfaces := #[]
  cf := none
  fields := #[]
  methods := #[]
  instanceTypes := #[]
  staticTypes := #[]
  resolved := #[]
  callSites := []
  init := .initialized
  statics := none
  mirror := none

def pool0 : Array CpInfo := pool [(5, u "<init>"), (0, u "()V"), (1, .class_ 10), (1, u "java/lang/Object")] 113

def k0m0 : Method := { name := "<init>", desc := "()V", sig := { parameters := [], returnType := none }, accessFlags := 1, code := none }
/-- java/lang/Object -/
def k0 : Class := { plain "java/lang/Object" none with
  accessFlags := 33
  interfaces := #[]
  cf := some (fileOf pool0 8 #[] #[{ accessFlags := 1, nameIndex := 5, descriptorIndex := 6, attributes := #[] }] 33 0 #[] #[])
  fields := #[]
  methods := #[k0m0]
  instanceTypes := #[]
  staticTypes := #[]
  resolved := Array.replicate 124 none
  statics := none }

def pool1 : Array CpInfo := pool [(2, .class_ 4), (1, u "java/lang/Object"), (0, u "<init>"), (0, u "()V"), (0, .integer 2147483647), (0, .methodref 9 10), (0, .class_ 11), (0, .nameAndType 12 13), (0, u "com/example/mete/mete/core/Record$Type"), (0, u "coded"), (0, u "(I)Lcom/example/mete/mete/core/Record$Type;"), (0, .methodref 15 16), (0, .class_ 17), (0, .nameAndType 18 13), (0, u "com/example/mete/mete/core/TypeCodedPinLaw"), (0, u "expected"), (0, .fieldref 9 20), (0, .nameAndType 21 22), (0, u "ITEM_RECEIVED"), (0, u "Lcom/example/mete/mete/core/Record$Type;"), (0, .fieldref 9 24), (0, .nameAndType 25 22), (0, u "LEASE_RENEWED"), (0, .fieldref 9 27), (0, .nameAndType 28 22), (0, u "QUEUE_CREATED"), (0, .fieldref 9 30), (0, .nameAndType 31 22), (0, u "ITEM_RELEASED"), (0, .fieldref 9 33), (0, .nameAndType 34 22), (0, u "LEASES_RAN_OUT"), (0, .fieldref 9 36), (0, .nameAndType 37 22), (0, u "QUEUE_CLOSED"), (0, .fieldref 9 39), (0, .nameAndType 40 22), (0, u "QUEUE_DELETED"), (0, .fieldref 9 42), (0, .nameAndType 43 22), (0, u "ITEM_COMMITTED"), (0, .fieldref 9 45), (0, .nameAndType 46 22), (0, u "ITEM_FAILED"), (0, .fieldref 9 48), (0, .nameAndType 49 22), (0, u "ITEMS_REMOVED"), (0, .fieldref 9 51), (0, .nameAndType 52 22), (0, u "SEGMENT_BEGUN"), (0, .fieldref 9 54), (0, .nameAndType 55 22), (0, u "QUEUE_CARRIED"), (0, .fieldref 9 57), (0, .nameAndType 58 22), (0, u "CHANGE_BEGUN"), (0, .fieldref 9 60), (0, .nameAndType 61 22), (0, u "ITEM_SUBMITTED"), (0, .fieldref 9 63), (0, .nameAndType 64 22), (0, u "ITEM_CARRIED"), (2, u "law"), (0, u "(II)Z")] 7

def k1m0 : Method := { name := "<init>", desc := "()V", sig := { parameters := [], returnType := none }, accessFlags := 2, code := none }
def k1c1 : Code := { maxStack := 2, maxLocals := 4, code := code, exceptionTable := #[], attributes := #[] }
def k1m1 : Method := { name := "law", desc := "(II)Z", sig := { parameters := [.int, .int], returnType := some .boolean }, accessFlags := 9, code := some k1c1 }
def k1c2 : Code := { maxStack := 2, maxLocals := 1, code := method_3_code, exceptionTable := #[], attributes := #[] }
def k1m2 : Method := { name := "expected", desc := "(I)Lcom/example/mete/mete/core/Record$Type;", sig := { parameters := [.int], returnType := some (.object "com/example/mete/mete/core/Record$Type") }, accessFlags := 10, code := some k1c2 }
/-- com/example/mete/mete/core/TypeCodedPinLaw -/
def k1 : Class := { plain "com/example/mete/mete/core/TypeCodedPinLaw" (some 0) with
  accessFlags := 49
  interfaces := #[]
  cf := some (fileOf pool1 15 #[] #[{ accessFlags := 2, nameIndex := 5, descriptorIndex := 6, attributes := #[] }, { accessFlags := 9, nameIndex := 67, descriptorIndex := 68, attributes := #[] }, { accessFlags := 10, nameIndex := 18, descriptorIndex := 13, attributes := #[] }] 49 2 #[] #[])
  fields := #[]
  methods := #[k1m0, k1m1, k1m2]
  instanceTypes := #[]
  staticTypes := #[]
  resolved := Array.replicate 76 none
  statics := none }

def pool2 : Array CpInfo := pool [(1, .class_ 2), (0, u "java/lang/constant/Constable"), (0, .class_ 4), (0, u "java/lang/Object")] 6

/-- java/lang/constant/Constable -/
def k2 : Class := { plain "java/lang/constant/Constable" (some 0) with
  accessFlags := 1537
  interfaces := #[]
  cf := some (fileOf pool2 1 #[] #[] 1537 3 #[] #[])
  fields := #[]
  methods := #[]
  instanceTypes := #[]
  staticTypes := #[]
  resolved := Array.replicate 11 none
  statics := none }

def pool3 : Array CpInfo := pool [(1, .class_ 2), (0, u "java/lang/Comparable"), (0, .class_ 4), (0, u "java/lang/Object")] 7

/-- java/lang/Comparable -/
def k3 : Class := { plain "java/lang/Comparable" (some 0) with
  accessFlags := 1537
  interfaces := #[]
  cf := some (fileOf pool3 1 #[] #[] 1537 3 #[] #[])
  fields := #[]
  methods := #[]
  instanceTypes := #[]
  staticTypes := #[]
  resolved := Array.replicate 12 none
  statics := none }

def pool4 : Array CpInfo := pool [(1, .class_ 2), (0, u "java/io/Serializable"), (0, .class_ 4), (0, u "java/lang/Object")] 2

/-- java/io/Serializable -/
def k4 : Class := { plain "java/io/Serializable" (some 0) with
  accessFlags := 1537
  interfaces := #[]
  cf := some (fileOf pool4 1 #[] #[] 1537 3 #[] #[])
  fields := #[]
  methods := #[]
  instanceTypes := #[]
  staticTypes := #[]
  resolved := Array.replicate 7 none
  statics := none }

def pool5 : Array CpInfo := pool [(2, .class_ 4), (1, u "java/lang/Enum"), (0, u "name"), (0, u "Ljava/lang/String;"), (2, u "ordinal"), (0, u "I"), (1, .class_ 14), (1, u "java/lang/Object"), (4, u "hash"), (86, .class_ 108), (1, u "java/lang/Enum$EnumDesc"), (2, .class_ 112), (0, u "java/lang/constant/Constable"), (0, .class_ 114), (0, u "java/lang/Comparable"), (0, .class_ 116), (0, u "java/io/Serializable")] 87

/-- java/lang/Enum -/
def k5 : Class := { plain "java/lang/Enum" (some 0) with
  accessFlags := 1057
  interfaces := #[2, 3, 4]
  cf := some (fileOf pool5 2 #[.nestMembers #[106]] #[] 1057 12 #[111, 113, 115] #[{ accessFlags := 18, nameIndex := 5, descriptorIndex := 6, attributes := #[] }, { accessFlags := 18, nameIndex := 9, descriptorIndex := 10, attributes := #[] }, { accessFlags := 2, nameIndex := 19, descriptorIndex := 10, attributes := #[] }])
  fields := #[{ name := "name", type := (.object "java/lang/String"), accessFlags := 18, slot := 0, constantValue := 0 }, { name := "ordinal", type := .int, accessFlags := 18, slot := 1, constantValue := 0 }, { name := "hash", type := .int, accessFlags := 2, slot := 2, constantValue := 0 }]
  methods := #[]
  instanceTypes := #[(.object "java/lang/String"), .int, .int]
  staticTypes := #[]
  resolved := Array.replicate 204 none
  statics := none }

def pool6 : Array CpInfo := pool [(1, .class_ 2), (0, u "com/example/mete/mete/core/Record$Type"), (2, u "ITEM_RECEIVED"), (0, u "Lcom/example/mete/mete/core/Record$Type;"), (2, u "LEASE_RENEWED"), (2, u "QUEUE_CREATED"), (2, u "ITEM_RELEASED"), (2, u "LEASES_RAN_OUT"), (2, u "QUEUE_CLOSED"), (2, u "QUEUE_DELETED"), (2, u "ITEM_COMMITTED"), (2, u "ITEM_FAILED"), (2, u "ITEMS_REMOVED"), (2, u "SEGMENT_BEGUN"), (2, u "QUEUE_CARRIED"), (2, u "CHANGE_BEGUN"), (2, u "ITEM_SUBMITTED"), (2, u "ITEM_CARRIED"), (2, u "$VALUES"), (0, u "[Lcom/example/mete/mete/core/Record$Type;"), (6, .class_ 61), (1, u "java/lang/Enum"), (8, u "code"), (0, u "I"), (2, u "reader"), (0, u "Lcom/example/mete/mete/core/Record$Reader;"), (0, .fieldref 1 77), (0, .nameAndType 78 52), (0, u "BY_CODE"), (80, u "coded"), (0, u "(I)Lcom/example/mete/mete/core/Record$Type;"), (9, .class_ 171), (0, u "com/example/mete/mete/core/Record")] 135

def k6c0 : Code := { maxStack := 2, maxLocals := 1, code := prog_64_method_4_code, exceptionTable := #[], attributes := #[] }
def k6m0 : Method := { name := "coded", desc := "(I)Lcom/example/mete/mete/core/Record$Type;", sig := { parameters := [.int], returnType := some (.object "com/example/mete/mete/core/Record$Type") }, accessFlags := 8, code := some k6c0 }
/-- com/example/mete/mete/core/Record$Type -/
def k6 : Class := { plain "com/example/mete/mete/core/Record$Type" (some 5) with
  accessFlags := 16432
  interfaces := #[]
  cf := some (fileOf pool6 1 #[.nestHost 170] #[{ accessFlags := 8, nameIndex := 159, descriptorIndex := 160, attributes := #[] }] 16432 59 #[] #[{ accessFlags := 16409, nameIndex := 5, descriptorIndex := 6, attributes := #[] }, { accessFlags := 16409, nameIndex := 9, descriptorIndex := 6, attributes := #[] }, { accessFlags := 16409, nameIndex := 12, descriptorIndex := 6, attributes := #[] }, { accessFlags := 16409, nameIndex := 15, descriptorIndex := 6, attributes := #[] }, { accessFlags := 16409, nameIndex := 18, descriptorIndex := 6, attributes := #[] }, { accessFlags := 16409, nameIndex := 21, descriptorIndex := 6, attributes := #[] }, { accessFlags := 16409, nameIndex := 24, descriptorIndex := 6, attributes := #[] }, { accessFlags := 16409, nameIndex := 27, descriptorIndex := 6, attributes := #[] }, { accessFlags := 16409, nameIndex := 30, descriptorIndex := 6, attributes := #[] }, { accessFlags := 16409, nameIndex := 33, descriptorIndex := 6, attributes := #[] }, { accessFlags := 16409, nameIndex := 36, descriptorIndex := 6, attributes := #[] }, { accessFlags := 16409, nameIndex := 39, descriptorIndex := 6, attributes := #[] }, { accessFlags := 16409, nameIndex := 42, descriptorIndex := 6, attributes := #[] }, { accessFlags := 16409, nameIndex := 45, descriptorIndex := 6, attributes := #[] }, { accessFlags := 16409, nameIndex := 48, descriptorIndex := 6, attributes := #[] }, { accessFlags := 26, nameIndex := 78, descriptorIndex := 52, attributes := #[] }, { accessFlags := 18, nameIndex := 70, descriptorIndex := 71, attributes := #[] }, { accessFlags := 18, nameIndex := 74, descriptorIndex := 75, attributes := #[] }, { accessFlags := 4122, nameIndex := 51, descriptorIndex := 52, attributes := #[] }])
  fields := #[{ name := "ITEM_RECEIVED", type := (.object "com/example/mete/mete/core/Record$Type"), accessFlags := 16409, slot := 0, constantValue := 0 }, { name := "LEASE_RENEWED", type := (.object "com/example/mete/mete/core/Record$Type"), accessFlags := 16409, slot := 1, constantValue := 0 }, { name := "QUEUE_CREATED", type := (.object "com/example/mete/mete/core/Record$Type"), accessFlags := 16409, slot := 2, constantValue := 0 }, { name := "ITEM_RELEASED", type := (.object "com/example/mete/mete/core/Record$Type"), accessFlags := 16409, slot := 3, constantValue := 0 }, { name := "LEASES_RAN_OUT", type := (.object "com/example/mete/mete/core/Record$Type"), accessFlags := 16409, slot := 4, constantValue := 0 }, { name := "QUEUE_CLOSED", type := (.object "com/example/mete/mete/core/Record$Type"), accessFlags := 16409, slot := 5, constantValue := 0 }, { name := "QUEUE_DELETED", type := (.object "com/example/mete/mete/core/Record$Type"), accessFlags := 16409, slot := 6, constantValue := 0 }, { name := "ITEM_COMMITTED", type := (.object "com/example/mete/mete/core/Record$Type"), accessFlags := 16409, slot := 7, constantValue := 0 }, { name := "ITEM_FAILED", type := (.object "com/example/mete/mete/core/Record$Type"), accessFlags := 16409, slot := 8, constantValue := 0 }, { name := "ITEMS_REMOVED", type := (.object "com/example/mete/mete/core/Record$Type"), accessFlags := 16409, slot := 9, constantValue := 0 }, { name := "SEGMENT_BEGUN", type := (.object "com/example/mete/mete/core/Record$Type"), accessFlags := 16409, slot := 10, constantValue := 0 }, { name := "QUEUE_CARRIED", type := (.object "com/example/mete/mete/core/Record$Type"), accessFlags := 16409, slot := 11, constantValue := 0 }, { name := "CHANGE_BEGUN", type := (.object "com/example/mete/mete/core/Record$Type"), accessFlags := 16409, slot := 12, constantValue := 0 }, { name := "ITEM_SUBMITTED", type := (.object "com/example/mete/mete/core/Record$Type"), accessFlags := 16409, slot := 13, constantValue := 0 }, { name := "ITEM_CARRIED", type := (.object "com/example/mete/mete/core/Record$Type"), accessFlags := 16409, slot := 14, constantValue := 0 }, { name := "BY_CODE", type := (.array (.object "com/example/mete/mete/core/Record$Type")), accessFlags := 26, slot := 15, constantValue := 0 }, { name := "code", type := .int, accessFlags := 18, slot := 3, constantValue := 0 }, { name := "reader", type := (.object "com/example/mete/mete/core/Record$Reader"), accessFlags := 18, slot := 4, constantValue := 0 }, { name := "$VALUES", type := (.array (.object "com/example/mete/mete/core/Record$Type")), accessFlags := 4122, slot := 16, constantValue := 0 }]
  methods := #[k6m0]
  instanceTypes := #[(.object "java/lang/String"), .int, .int, .int, (.object "com/example/mete/mete/core/Record$Reader")]
  staticTypes := #[(.object "com/example/mete/mete/core/Record$Type"), (.object "com/example/mete/mete/core/Record$Type"), (.object "com/example/mete/mete/core/Record$Type"), (.object "com/example/mete/mete/core/Record$Type"), (.object "com/example/mete/mete/core/Record$Type"), (.object "com/example/mete/mete/core/Record$Type"), (.object "com/example/mete/mete/core/Record$Type"), (.object "com/example/mete/mete/core/Record$Type"), (.object "com/example/mete/mete/core/Record$Type"), (.object "com/example/mete/mete/core/Record$Type"), (.object "com/example/mete/mete/core/Record$Type"), (.object "com/example/mete/mete/core/Record$Type"), (.object "com/example/mete/mete/core/Record$Type"), (.object "com/example/mete/mete/core/Record$Type"), (.object "com/example/mete/mete/core/Record$Type"), (.array (.object "com/example/mete/mete/core/Record$Type")), (.array (.object "com/example/mete/mete/core/Record$Type"))]
  resolved := Array.replicate 307 none
  statics := some 0 }

def pool7 : Array CpInfo := pool [(1, u "java/lang/Cloneable"), (0, .class_ 1), (0, u "java/lang/Object"), (0, .class_ 3)] 3

/-- java/lang/Cloneable -/
def k7 : Class := { plain "java/lang/Cloneable" (some 0) with
  accessFlags := 1537
  interfaces := #[]
  cf := some (fileOf pool7 2 #[] #[] 1537 4 #[] #[])
  fields := #[]
  methods := #[]
  instanceTypes := #[]
  staticTypes := #[]
  resolved := Array.replicate 8 none
  statics := none }

/-- the primitive byte -/
def k8 : Class := { plain "byte" none with kind := .primitive 'B', accessFlags := 0x411 }
/-- [B -/
def k9 : Class := { plain "[B" (some 0) with kind := .array 8 .byte, interfaces := #[7, 4], accessFlags := 1041 }

/-- the primitive int -/
def k10 : Class := { plain "int" none with kind := .primitive 'I', accessFlags := 0x411 }
/-- [I -/
def k11 : Class := { plain "[I" (some 0) with kind := .array 10 .int, interfaces := #[7, 4], accessFlags := 1041 }

/-- [Lcom/example/mete/mete/core/Record$Type; -/
def k12 : Class := { plain "[Lcom/example/mete/mete/core/Record$Type;" (some 0) with kind := .array 6 (.object "com/example/mete/mete/core/Record$Type"), interfaces := #[7, 4], accessFlags := 1041 }

def heap : Heap := #[{ cls := 6, slots := #[.ref 2, .ref 3, .ref 4, .ref 5, .ref 6, .ref 7, .ref 8, .ref 9, .ref 10, .ref 11, .ref 12, .ref 13, .ref 14, .ref 15, .ref 16, .ref 1, .null], vm := .statics 6 },
  { cls := 12, slots := #[.null, .null, .null, .null, .null, .null, .ref 2, .ref 3, .null, .ref 4, .ref 5, .null, .ref 6, .null, .ref 7, .ref 8, .null, .ref 9, .ref 10, .ref 11, .ref 12, .ref 13, .null, .ref 14, .ref 15, .ref 16], vm := .none },
  { cls := 6, slots := #[.null, .int 0, .int 0, .int 6, .null], vm := .none },
  { cls := 6, slots := #[.null, .int 1, .int 0, .int 7, .null], vm := .none },
  { cls := 6, slots := #[.null, .int 2, .int 0, .int 9, .null], vm := .none },
  { cls := 6, slots := #[.null, .int 3, .int 0, .int 10, .null], vm := .none },
  { cls := 6, slots := #[.null, .int 4, .int 0, .int 12, .null], vm := .none },
  { cls := 6, slots := #[.null, .int 5, .int 0, .int 14, .null], vm := .none },
  { cls := 6, slots := #[.null, .int 6, .int 0, .int 15, .null], vm := .none },
  { cls := 6, slots := #[.null, .int 7, .int 0, .int 17, .null], vm := .none },
  { cls := 6, slots := #[.null, .int 8, .int 0, .int 18, .null], vm := .none },
  { cls := 6, slots := #[.null, .int 9, .int 0, .int 19, .null], vm := .none },
  { cls := 6, slots := #[.null, .int 10, .int 0, .int 20, .null], vm := .none },
  { cls := 6, slots := #[.null, .int 11, .int 0, .int 21, .null], vm := .none },
  { cls := 6, slots := #[.null, .int 12, .int 0, .int 23, .null], vm := .none },
  { cls := 6, slots := #[.null, .int 13, .int 0, .int 24, .null], vm := .none },
  { cls := 6, slots := #[.null, .int 14, .int 0, .int 25, .null], vm := .none }]
def classes : Array Class := #[k0, k1, k2, k3, k4, k5, k6, k7, k8, k9, k10, k11, k12]
def interned : List (Array UInt16 × Addr) := []
def slotsUsed : Nat := 118
def theMethod : MethodId := ⟨1, 1⟩
def args0 : Array Value := #[.int 6, .int 0]
def aboutOver (below : List Frame) : State where
  vm := { classes := classes, interned := interned.toArray }
  heap := heap
  slotsUsed := slotsUsed
  threads := #[{ frames := .invoking theMethod args0 :: below }]
def below0 : List Frame := [.native { method := ⟨0, 0⟩, args := #[] }]
def about1 : State := aboutOver below0
def p0 : Program := .bare "" "" ""
def e0 : Env := launch0.env 0 0 0
theorem w_frames : about1.frames = Frame.invoking theMethod args0 :: below0 := rfl
set_option maxRecDepth 65536 in
theorem w_args : argsFit about1.vm theMethod args0 = true := by decide +kernel
set_option maxRecDepth 65536 in
theorem w_heap : heapFits about1 = true := by decide +kernel
set_option maxRecDepth 65536 in
theorem w_runnable : about1.curStatus? = some .runnable := by decide +kernel
set_option maxRecDepth 65536 in
theorem w_alone : about1.alone = true := by decide +kernel
set_option maxRecDepth 65536 in
theorem w_named : about1.methodNamed? x = some theMethod := by decide +kernel
set_option maxRecDepth 65536 in
theorem w_hears : about1.hears theMethod below0 = true := by decide +kernel
set_option maxRecDepth 65536 in
theorem w_ripe : about1.ripe theMethod args0 below0 = true := by decide +kernel
theorem w_running : about1.status = .running := rfl
set_option maxRecDepth 65536 in
theorem w_room : about1.hasRoom e0.platform room_1 = true :=
  launch0.hasRoom_least _ room_1 (by decide +kernel) (by decide +kernel) (by decide +kernel) (by decide +kernel) (by decide +kernel) (by decide +kernel)
theorem allAtoms_all (ts : List Jvm.Cond) (a : Array Jvm.Value) (st : Jvm.State) : (allAtoms ts).before a st = ts.all (fun c => c.before a st) := by
  induction ts with
  | nil => rfl
  | cons c t ih =>
    show (Jvm.Cond.and c (allAtoms t)).before a st = _
    rw [Jvm.Cond.before_and, ih, List.all_cons]
def words1 : List Jvm.Cond := Jvm.Cond.code x code maxLocals ret :: tables_1
/-- a 'code' word, met by the world's own term for the bytes: nothing is compared byte by byte -/
theorem code_word {y : MethodName} {bytes : ByteArray} {mx : Nat} {rt : Option FieldType} {a : Array Value} {s : State} {m : MethodId} {meth : Method} {c : Code} (h1 : s.methodNamed? y = some m) (h2 : s.vm.method? m = some meth) (h3 : meth.code = some c) (h4 : c.code = bytes)
    (h5 : (c.maxLocals == mx && c.exceptionTable.isEmpty && decide (c.maxStack ≤ mostOperands) && decide (meth.sig.returnType = rt) && !meth.locks && decide (parseMethodDescriptor y.desc = some meth.sig)) = true) : (Jvm.Cond.code y bytes mx rt).before a s = true := by
  simp only [Bool.and_eq_true, beq_iff_eq, Bool.not_eq_true', decide_eq_true_eq] at h5
  obtain ⟨⟨⟨⟨⟨g1, g2⟩, g3⟩, g4⟩, g5⟩, g6⟩ := h5
  simp [Cond.before, Cond.holds, Cond.value, h1, h2, h3, h4, g1, g2, g3, g4, g5, g6]
def isCode : Jvm.Cond → Bool
  | .code _ _ _ _ => true
  | _ => false
theorem all_split {L : List Jvm.Cond} {P : Jvm.Cond → Bool} (h1 : L.all (fun c => isCode c || P c) = true) (h2 : ∀ c ∈ L.filter isCode, P c = true) : L.all P = true := by
  refine List.all_eq_true.mpr fun c hc => ?_
  have h := List.all_eq_true.mp h1 c hc
  rcases Bool.eq_false_or_eq_true (isCode c) with hi | hi
  · exact h2 c (List.mem_filter.mpr ⟨hc, hi⟩)
  · simpa [hi] using h
set_option maxRecDepth 65536 in
theorem w_c0 : (Jvm.Cond.code x code maxLocals ret).before args0 about1 = true := code_word (m := ⟨1, 1⟩) (meth := k1m1) (c := k1c1) (by decide +kernel) rfl rfl rfl (by decide +kernel)
set_option maxRecDepth 65536 in
theorem w_c1 : (Jvm.Cond.code ({ cls := "com/example/mete/mete/core/Record$Type", name := "coded", desc := "(I)Lcom/example/mete/mete/core/Record$Type;" } : Jvm.MethodName) prog_64_method_4_code (1 : Nat) (Option.some (Jvm.ClassFile.FieldType.object "com/example/mete/mete/core/Record$Type"))).before args0 about1 = true := code_word (m := ⟨6, 0⟩) (meth := k6m0) (c := k6c0) (by decide +kernel) rfl rfl rfl (by decide +kernel)
set_option maxRecDepth 65536 in
theorem w_c2 : (Jvm.Cond.code ({ cls := "com/example/mete/mete/core/TypeCodedPinLaw", name := "expected", desc := "(I)Lcom/example/mete/mete/core/Record$Type;" } : Jvm.MethodName) method_3_code (1 : Nat) (Option.some (Jvm.ClassFile.FieldType.object "com/example/mete/mete/core/Record$Type"))).before args0 about1 = true := code_word (m := ⟨1, 2⟩) (meth := k1m2) (c := k1c2) (by decide +kernel) rfl rfl rfl (by decide +kernel)
def codes1 : List Jvm.Cond := [Jvm.Cond.code x code maxLocals ret, Jvm.Cond.code ({ cls := "com/example/mete/mete/core/Record$Type", name := "coded", desc := "(I)Lcom/example/mete/mete/core/Record$Type;" } : Jvm.MethodName) prog_64_method_4_code (1 : Nat) (Option.some (Jvm.ClassFile.FieldType.object "com/example/mete/mete/core/Record$Type")), Jvm.Cond.code ({ cls := "com/example/mete/mete/core/TypeCodedPinLaw", name := "expected", desc := "(I)Lcom/example/mete/mete/core/Record$Type;" } : Jvm.MethodName) method_3_code (1 : Nat) (Option.some (Jvm.ClassFile.FieldType.object "com/example/mete/mete/core/Record$Type"))]
set_option maxRecDepth 65536 in
theorem codes_eq : words1.filter isCode = codes1 := rfl
theorem w_codes : ∀ c ∈ words1.filter isCode, c.before args0 about1 = true := by
  rw [codes_eq]
  intro c hc
  simp only [codes1, List.mem_cons, List.not_mem_nil, or_false] at hc
  rcases hc with rfl | rfl | rfl
  · exact w_c0
  · exact w_c1
  · exact w_c2
set_option maxRecDepth 65536 in
theorem w_t1 : (words1.take 24).all (fun c => isCode c || c.before args0 about1) = true := by decide +kernel
set_option maxRecDepth 65536 in
theorem w_t2 : (words1.drop 24).all (fun c => isCode c || c.before args0 about1) = true := by decide +kernel
theorem w_tables : (allAtoms (Jvm.Cond.code x code maxLocals ret :: tables_1)).before args0 about1 = true := by
  rw [allAtoms_all]
  show words1.all (fun c => c.before args0 about1) = true
  refine all_split ?_ w_codes
  rw [← List.take_append_drop 24 words1, List.all_append, w_t1, w_t2]
  rfl
set_option maxRecDepth 65536 in
theorem w_case : (Jvm.Cond.and given_1 narrow_1).before args0 about1 = true := by decide +kernel
theorem w_applies : (headSpec (Jvm.Cond.code x code maxLocals ret :: tables_1) room_1).applies x e0.platform about1 = true :=
  (Spec.applies_iff w_frames).mpr ⟨w_running, w_runnable, w_alone, w_named, w_hears, w_ripe, w_room, w_tables⟩
theorem atStart : AtStart classFile x code maxLocals ret World_1 tables_1 room_1 Calls_1 rest_1 Pre_1 launch0 p0 e0 about1 theMethod args0 below0 :=
  ⟨lists_1, trivial, launch0.admits_env _ _ _, launch0.least_env, fairChoices_fair.cas, fairChoices_fair.clock, w_frames, w_args, w_heap, w_applies, trivial, trivial, w_case⟩
end start1
theorem witness_1 : WitnessClaimed_1 := ⟨start1.p0, start1.e0, start1.about1, start1.theMethod, start1.args0, start1.below0, start1.atStart⟩
end Jvm.Pilot.@@N@@
