import JvmDerived
import JvmDerived.Pilot.@@N@@Statement
import JvmDerived.Pilot.@@N@@Code
set_option linter.unusedVariables false
set_option linter.unusedSimpArgs false
@@BLOCK:NumsL.lean.txt@@
namespace Jvm.Pilot.@@N@@
open Jvm Jvm.ClassFile Sem Op Lib Jvm.Free Jvm.Stand Jvm.LawKit Jvm.RoadKit Bundle Jvm.Pilot.@@N@@.Jvm.D
/-- from T the run comes to an end of which P speaks -/
def Go (p : Program) (e : Env) (below : List Frame) (P : Outcome → State → Prop) (T : State) : Prop := ∃ s₂ o, Steps p.tables e below T s₂ ∧ s₂.status = .running ∧ Ended s₂ below o ∧ P o s₂
theorem Go.via {p : Program} {e : Env} {below : List Frame} {P : Outcome → State → Prop} {T T' : State} (h : ∀ t, Steps p.tables e below T' t → Steps p.tables e below T t) (g : Go p e below P T') : Go p e below P T := by
  obtain ⟨s₂, o, a, b⟩ := g
  exact ⟨s₂, o, h _ a, b⟩
theorem Go.into {p : Program} {e : Env} {below : List Frame} {P : Outcome → State → Prop} {T : State} {g g' : JFrame} (q : g = g') (h : Go p e below P (T.setTop g')) : ∃ s₂ o, Steps p.tables e below (T.setTop g) s₂ ∧ s₂.status = .running ∧ Ended s₂ below o ∧ P o s₂ := by
  subst q; exact h
section Ret
variable {p : Program} {l : Launch} {e : Env} {R : Room} {s : State} {m : MethodId} {args : Array Value} {below : List Frame} {meth : Method} {c : Code} {T : State} {locs : List Loc} {cells slots K N : Nat}
theorem Go.fin (X : Stand p l e R s m args below meth c T locs cells slots) (hlk : meth.locks = false) {v : Option Value} (hv : meth.sig.returnType = none → v = none) {Q : Option Value → Heap → List Loc → Prop} {g : JFrame}
    (st : ∀ fs, (∀ (f : JFrame) (acts : List Action), f.method = m → f.locked = none → f.entered = [] → (doReturn e (T.setTop f) acts v).1 = T.setFrames fs) → Steps p.tables e below (T.setTop g) (T.setFrames fs))
    (hk : cells ≤ K) (hn : slots ≤ N) (hq : Q v T.heap locs) : Go p e below (fun o u => ∃ v L, o = .returned v ∧ Q v u.heap L ∧ FrameEnd s o u L K N) (T.setTop g) := by
  obtain ⟨fs, hr, hrun, hended, hW, hsame⟩ := X.leave (v := v) hv
  exact ⟨_, _, st fs hr, hrun, hended, _, _, rfl, hq, ⟨_, rfl⟩, hW, hsame.mono hk hn⟩
theorem Go.retI (X : Stand p l e R s m args below meth c T locs cells slots) (hx : p.tables.exec = Jvm.exec) (hlk : meth.locks = false) {Q : Option Value → Heap → List Loc → Prop} {pc : Nat} {Ls : Array Slot} {z : Int32} {rest : List Value} (hret : meth.sig.returnType = some .int) (hd : decode c.code pc = .ok (.ireturn, 1))
    (hk : cells ≤ K) (hn : slots ≤ N) (hq : Q (some (.int z)) T.heap locs) : Go p e below (fun o u => ∃ v L, o = .returned v ∧ Q v u.heap L ∧ FrameEnd s o u L K N) (T.setTop (mkF m pc Ls (.int z :: rest))) :=
  Go.fin X hlk (v := some (.int z)) (fun h => by rw [hret] at h; cases h) (fun fs hr => retOut X hx hret rfl (Or.inl ⟨rfl, Or.inl rfl, _, rfl⟩) hd hr) hk hn hq
theorem Go.retN (X : Stand p l e R s m args below meth c T locs cells slots) (hx : p.tables.exec = Jvm.exec) (hlk : meth.locks = false) {Q : Option Value → Heap → List Loc → Prop} {pc : Nat} {Ls : Array Slot} {z : Int32} {rest : List Value} {t : FieldType} (hret : meth.sig.returnType = some t) (ht : t = .boolean ∨ t = .byte ∨ t = .char ∨ t = .short) (hd : decode c.code pc = .ok (.ireturn, 1))
    (hk : cells ≤ K) (hn : slots ≤ N) (hq : Q (some (.int (nar t z))) T.heap locs) : Go p e below (fun o u => ∃ v L, o = .returned v ∧ Q v u.heap L ∧ FrameEnd s o u L K N) (T.setTop (mkF m pc Ls (.int z :: rest))) :=
  Go.fin X hlk (v := some (.int (nar t z))) (fun h => by rw [hret] at h; cases h) (fun fs hr => Jvm.RoadKit.retN X hx hret ht hd hr) hk hn hq
theorem Go.retJ (X : Stand p l e R s m args below meth c T locs cells slots) (hx : p.tables.exec = Jvm.exec) (hlk : meth.locks = false) {Q : Option Value → Heap → List Loc → Prop} {pc : Nat} {Ls : Array Slot} {z : Int64} {rest : List Value} (hret : meth.sig.returnType = some .long) (hd : decode c.code pc = .ok (.lreturn, 1))
    (hk : cells ≤ K) (hn : slots ≤ N) (hq : Q (some (.long z)) T.heap locs) : Go p e below (fun o u => ∃ v L, o = .returned v ∧ Q v u.heap L ∧ FrameEnd s o u L K N) (T.setTop (mkF m pc Ls (.long z :: rest))) :=
  Go.fin X hlk (v := some (.long z)) (fun h => by rw [hret] at h; cases h) (fun fs hr => retOut X hx hret rfl (Or.inr (Or.inl ⟨rfl, rfl, _, rfl⟩)) hd hr) hk hn hq
theorem Go.retR (X : Stand p l e R s m args below meth c T locs cells slots) (hx : p.tables.exec = Jvm.exec) (hlk : meth.locks = false) {Q : Option Value → Heap → List Loc → Prop} {pc : Nat} {Ls : Array Slot} {w : Value} {rest : List Value} {t : FieldType} (hret : meth.sig.returnType = some t) (ht : t.isReference = true) (hw : w.isRef = true) (hd : decode c.code pc = .ok (.areturn, 1))
    (hk : cells ≤ K) (hn : slots ≤ N) (hq : Q (some w) T.heap locs) : Go p e below (fun o u => ∃ v L, o = .returned v ∧ Q v u.heap L ∧ FrameEnd s o u L K N) (T.setTop (mkF m pc Ls (w :: rest))) :=
  Go.fin X hlk (v := some w) (fun h => by rw [hret] at h; cases h) (fun fs hr => retOut X hx hret (by rcases ref_cases hw with rfl | ⟨z, rfl⟩ <;> cases t <;> rfl) (Or.inr (Or.inr (Or.inr (Or.inr ⟨rfl, ht, hw⟩)))) hd hr) hk hn hq
theorem Go.retV (X : Stand p l e R s m args below meth c T locs cells slots) (hx : p.tables.exec = Jvm.exec) (hlk : meth.locks = false) {Q : Option Value → Heap → List Loc → Prop} {pc : Nat} {Ls : Array Slot} (hret : meth.sig.returnType = none) (hd : decode c.code pc = .ok (.return_, 1))
    (hk : cells ≤ K) (hn : slots ≤ N) (hq : Q none T.heap locs) : Go p e below (fun o u => ∃ v L, o = .returned v ∧ Q v u.heap L ∧ FrameEnd s o u L K N) (T.setTop (mkF m pc Ls [])) :=
  Go.fin X hlk (v := none) (fun _ => rfl) (fun fs hr => X.returnOut hx hret hd hr) hk hn hq
theorem Go.retNW {vm₁ : Vm} (X : Stand p l e R (s.setVm vm₁) m args below meth c T locs cells slots) (hx : p.tables.exec = Jvm.exec) {n : Nat} (hS : s.Since vm₁ n) (hnn : n ≤ T.heap.size) (hlk : meth.locks = false) {Q : Option Value → Heap → List Loc → Prop} {pc : Nat} {Ls : Array Slot} {z : Int32} {rest : List Value} {t : FieldType} (hret : meth.sig.returnType = some t) (ht : t = .boolean ∨ t = .byte ∨ t = .char ∨ t = .short) (hd : decode c.code pc = .ok (.ireturn, 1))
    (hk : cells ≤ K) (hn : slots ≤ N) (hq : Q (some (.int (nar t z))) T.heap locs) : Go p e below (fun o u => ∃ v L, o = .returned v ∧ Q v u.heap L ∧ ReturnedEndW s o u L K N) (T.setTop (mkF m pc Ls (.int z :: rest))) := by
  obtain ⟨fs, hr, hrun, hended, h1, h2, h3, h4⟩ := X.leaveW hS hnn (v := some (.int (nar t z))) (fun h => by rw [hret] at h; cases h) hlk
  exact ⟨_, _, Jvm.RoadKit.retN X hx hret ht hd hr, hrun, hended, _, _, rfl, hq, h1, h2, h3, h4.mono hk hn⟩
end Ret
theorem own_eqi {t : Term} {n : Int32} {args : Array Value} {s : State} (h : (Cond.eq t (.int n)).value args s none s [] = some true) : t.eval args s none [] s = some (.int n) := by
  obtain ⟨x, y, h1, h2, k, -⟩ := cmp_v (Or.inl h)
  cases (show some y = some (Value.int n) from h2.symm)
  cases x with
  | int z => rw [h1]; congr 2; have q := h; simp [Cond.value, h1, Term.eval] at q; exact q
  | _ => simp [Kin, Value.isRef] at k
theorem own_ns1 {h : Heap} {a : Addr} {ws : List Addr} (q : ∀ cell : Cell, h[a]? = some cell → cell.vm.isStatics = false) (r : ∀ (x : Addr) (c : Cell), h[x]? = some c → c.vm.isStatics = true → x ∉ ws) : ∀ (x : Addr) (c : Cell), h[x]? = some c → c.vm.isStatics = true → x ∉ a :: ws := fun x c hx hc => ninS (fun e => by subst e; rw [q c hx] at hc; cases hc) (r x c hx hc)
theorem own_sk {Z : State} {h h' : Heap} {C n d : String} {v : Value} {ws : List Addr} (F : Sta Z h C n d v) (K : Keep h h' ws) (q : ∀ (x : Addr) (c : Cell), h[x]? = some c → c.vm.isStatics = true → x ∉ ws) : Sta Z h' C n d v := by
  obtain ⟨cf, i, k, f, st, cell, h1, h2, h3, h4, h5, h6, h7⟩ := F
  exact ⟨cf, i, k, f, st, cell, h1, h2, h3, h4, K.2.1 _ _ h5 (q _ _ h5 h6), h6, h7⟩

/-- an array of n places; place k holds g k -/
def AV (Z : State) (h : Heap) (a : Addr) (ty : FieldType) (n : Nat) (g : Nat → Value) : Prop := n < 2 ^ 31 ∧ ∃ c : Cell, Arr Z h a c ty ∧ c.slots.size = n ∧ ∀ k, k < n → c.slots[k]? = some (g k)
def up {α : Type} (f : Nat → α) (i : Nat) (v : α) : Nat → α := fun k => if k = i then v else f k
section AVs
variable {p : Program} {l : Launch} {e : Env} {R : Room} {s : State} {m : MethodId} {args : Array Value} {below : List Frame} {meth : Method} {c : Code} {T : State} {locs : List Loc} {cells slots : Nat}
variable {Z : State} {h h' : Heap} {a b : Addr} {ty : FieldType} {n : Nat} {g g' : Nat → Value} {sl : Nat} {v : Value} {ws : List Addr} {j : Int32}
theorem AV.lt (F : AV Z h a ty n g) : a < h.size := by obtain ⟨_, c, A, -⟩ := F; exact A.lt
theorem AV.ext (F : AV Z h a ty n g) (E : Ext h h') : AV Z h' a ty n g := by obtain ⟨q, c, A, r⟩ := F; exact ⟨q, c, A.ext E, r⟩
theorem AV.other (F : AV Z h b ty n g) (W : Wr h h' a sl v) (q : b ≠ a) : AV Z h' b ty n g := by obtain ⟨q', c, A, r⟩ := F; exact ⟨q', c, A.other W q, r⟩
theorem AV.keep (F : AV Z h a ty n g) (K : Keep h h' ws) (q : a ∉ ws) : AV Z h' a ty n g := by obtain ⟨q', c, A, r⟩ := F; exact ⟨q', c, ⟨K.2.1 a c A.1 q, A.2⟩, r⟩
theorem AV.congr (F : AV Z h a ty n g) (q : ∀ k, k < n → g k = g' k) : AV Z h a ty n g' := by obtain ⟨q', c, A, r1, r2⟩ := F; exact ⟨q', c, A, r1, fun k hk => by rw [← q k hk]; exact r2 k hk⟩
theorem AV.set (F : AV Z h a ty n g) (W : Wr h h' a sl v) : AV Z h' a ty n (up g sl v) := by
  obtain ⟨q', c, A, r1, r2⟩ := F
  refine ⟨q', _, A.same W, by rw [sz_set]; exact r1, fun k hk => ?_⟩
  by_cases u : k = sl
  · subst u; simp [Cell.setSlot, up, r1, hk]
  · simp only [Cell.setSlot, up, if_neg u]; rw [Array.getElem?_setIfInBounds_ne (Ne.symm u)]; exact r2 k hk
theorem AV.new {k : ClassId} {z : Int32} (A : Arr Z h a (newA k ty z) ty) : AV Z h a ty z.toNatClampNeg (fun _ => defaultValue ty) := by
  refine ⟨by have := Int32.toInt_lt z; simp only [Int32.toNatClampNeg]; omega, _, A, sz_new _ _ _, fun i hi => by simp [newA, hi]⟩
theorem AV.inb {cl : Cell} (hs : cl.slots.size = n) (hj : ¬ j < 0 ∧ j.toNatClampNeg < n) : ¬ (j < 0 ∨ cl.slots.size ≤ j.toNatClampNeg) := fun q => q.elim hj.1 fun q => by rw [hs] at q; exact absurd hj.2 (Nat.not_lt.mpr q)
theorem AV.len (F : AV Z h a ty n g) (X : Stand p l e R s m args below meth c T locs cells slots) (hx : p.tables.exec = Jvm.exec) (hZ : Z.Warmed39 s.vm) (eT : T.heap = h) {pc : Nat} {Ls : Array Slot} {rest : List Value} (hd : decode c.code pc = .ok (.arraylength, 1)) {t : State}
    (k : Steps p.tables e below (T.setTop (mkF m (pc + 1) Ls (.int (Int32.ofNat n) :: rest))) t) : Steps p.tables e below (T.setTop (mkF m pc Ls (.ref a :: rest))) t := by
  obtain ⟨q', cl, A, r1, r2⟩ := F
  subst r1
  exact X.arraylength hx (by rw [eT]; exact A.1) (State.isArrayOf_alike hZ.alike A.2.1) (g := mkF m pc Ls (.ref a :: rest)) rfl rfl hd _ k
theorem AV.iaload {f : Nat → Int32} (F : AV Z h a .int n (fun k => .int (f k))) (X : Stand p l e R s m args below meth c T locs cells slots) (hx : p.tables.exec = Jvm.exec) (hZ : Z.Warmed39 s.vm) (eT : T.heap = h) (hj : ¬ j < 0 ∧ j.toNatClampNeg < n) {pc : Nat} {Ls : Array Slot} {rest : List Value} (hd : decode c.code pc = .ok (.iaload, 1)) {t : State}
    (k : Steps p.tables e below (T.setTop (mkF m (pc + 1) Ls (.int (f j.toNatClampNeg) :: rest))) t) : Steps p.tables e below (T.setTop (mkF m pc Ls (.int j :: .ref a :: rest))) t := by
  obtain ⟨q', cl, A, r1, r2⟩ := F
  exact X.iaload hx (j := j) (v := .int (f j.toNatClampNeg)) (by rw [eT]; exact A.1) (State.isArrayOf_alike hZ.alike A.2.1) A.2.2 (AV.inb r1 hj) (r2 _ hj.2) (g := mkF m pc Ls (.int j :: .ref a :: rest)) rfl rfl hd _ k
theorem AV.laload {f : Nat → Int64} (F : AV Z h a .long n (fun k => .long (f k))) (X : Stand p l e R s m args below meth c T locs cells slots) (hx : p.tables.exec = Jvm.exec) (hZ : Z.Warmed39 s.vm) (eT : T.heap = h) (hj : ¬ j < 0 ∧ j.toNatClampNeg < n) {pc : Nat} {Ls : Array Slot} {rest : List Value} (hd : decode c.code pc = .ok (.laload, 1)) {t : State}
    (k : Steps p.tables e below (T.setTop (mkF m (pc + 1) Ls (.long (f j.toNatClampNeg) :: rest))) t) : Steps p.tables e below (T.setTop (mkF m pc Ls (.int j :: .ref a :: rest))) t := by
  obtain ⟨q', cl, A, r1, r2⟩ := F
  exact X.laload hx (j := j) (v := .long (f j.toNatClampNeg)) (by rw [eT]; exact A.1) (State.isArrayOf_alike hZ.alike A.2.1) A.2.2 (AV.inb r1 hj) (r2 _ hj.2) (g := mkF m pc Ls (.int j :: .ref a :: rest)) rfl rfl hd _ k
theorem AV.aaload (F : AV Z h a ty n g) (hty : ty.isReference = true) (X : Stand p l e R s m args below meth c T locs cells slots) (hx : p.tables.exec = Jvm.exec) (hZ : Z.Warmed39 s.vm) (eT : T.heap = h) (hj : ¬ j < 0 ∧ j.toNatClampNeg < n) {pc : Nat} {Ls : Array Slot} {rest : List Value} (hd : decode c.code pc = .ok (.aaload, 1)) {t : State}
    (k : Steps p.tables e below (T.setTop (mkF m (pc + 1) Ls (g j.toNatClampNeg :: rest))) t) : Steps p.tables e below (T.setTop (mkF m pc Ls (.int j :: .ref a :: rest))) t := by
  obtain ⟨q', cl, A, r1, r2⟩ := F
  exact X.aaload hx (j := j) (v := g j.toNatClampNeg) (by rw [eT]; exact A.1) (State.isArrayOf_alike hZ.alike A.2.1) hty A.2.2 (AV.inb r1 hj) (r2 _ hj.2) (g := mkF m pc Ls (.int j :: .ref a :: rest)) rfl rfl hd _ k
theorem AV.iastore {f : Nat → Int32} {x : Int32} (F : AV Z h a .int n (fun k => .int (f k))) (X : Stand p l e R s m args below meth c T locs cells slots) (hx : p.tables.exec = Jvm.exec) (hZ : Z.Warmed39 s.vm) (eT : T.heap = h) (hj : ¬ j < 0 ∧ j.toNatClampNeg < n) {pc : Nat} {Ls : Array Slot} {rest : List Value} (hd : decode c.code pc = .ok (.iastore, 1)) :
    ∃ T' h', Stand p l e R s m args below meth c T' (locs ++ [⟨a, j.toNatClampNeg⟩]) cells slots ∧ T'.heap = h' ∧ Wr h h' a j.toNatClampNeg (.int x) ∧ AV Z h' a .int n (fun k => .int (up f j.toNatClampNeg x k)) ∧
      ∀ t, Steps p.tables e below (T'.setTop (mkF m (pc + 1) Ls rest)) t → Steps p.tables e below (T.setTop (mkF m pc Ls (.int x :: .int j :: .ref a :: rest))) t := by
  have F0 := F
  obtain ⟨q', cl, A, r1, r2⟩ := F
  obtain ⟨T', h', X', e', W, st⟩ := stI X hx hZ eT A (j := j) (AV.inb r1 hj) (g := mkF m pc Ls (.int x :: .int j :: .ref a :: rest)) rfl rfl hd
  exact ⟨T', h', X', e', W, (F0.set W).congr (fun k _ => by unfold up; split <;> rfl), st⟩
theorem AV.lastore {f : Nat → Int64} {x : Int64} (F : AV Z h a .long n (fun k => .long (f k))) (X : Stand p l e R s m args below meth c T locs cells slots) (hx : p.tables.exec = Jvm.exec) (hZ : Z.Warmed39 s.vm) (eT : T.heap = h) (hj : ¬ j < 0 ∧ j.toNatClampNeg < n) {pc : Nat} {Ls : Array Slot} {rest : List Value} (hd : decode c.code pc = .ok (.lastore, 1)) :
    ∃ T' h', Stand p l e R s m args below meth c T' (locs ++ [⟨a, j.toNatClampNeg⟩]) cells slots ∧ T'.heap = h' ∧ Wr h h' a j.toNatClampNeg (.long x) ∧ AV Z h' a .long n (fun k => .long (up f j.toNatClampNeg x k)) ∧
      ∀ t, Steps p.tables e below (T'.setTop (mkF m (pc + 1) Ls rest)) t → Steps p.tables e below (T.setTop (mkF m pc Ls (.long x :: .int j :: .ref a :: rest))) t := by
  have F0 := F
  obtain ⟨q', cl, A, r1, r2⟩ := F
  obtain ⟨T', h', X', e', W, st⟩ := stJ X hx hZ eT A (j := j) (AV.inb r1 hj) (g := mkF m pc Ls (.long x :: .int j :: .ref a :: rest)) rfl rfl hd
  exact ⟨T', h', X', e', W, (F0.set W).congr (fun k _ => by unfold up; split <;> rfl), st⟩
theorem AV.bastoreZ {f : Nat → Int32} {x : Int32} (F : AV Z h a .boolean n (fun k => .int (f k))) (X : Stand p l e R s m args below meth c T locs cells slots) (hx : p.tables.exec = Jvm.exec) (hZ : Z.Warmed39 s.vm) (eT : T.heap = h) (hj : ¬ j < 0 ∧ j.toNatClampNeg < n) {pc : Nat} {Ls : Array Slot} {rest : List Value} (hd : decode c.code pc = .ok (.bastore, 1)) :
    ∃ T' h', Stand p l e R s m args below meth c T' (locs ++ [⟨a, j.toNatClampNeg⟩]) cells slots ∧ T'.heap = h' ∧ Wr h h' a j.toNatClampNeg (.int (nar .boolean x)) ∧ AV Z h' a .boolean n (fun k => .int (up f j.toNatClampNeg (nar .boolean x) k)) ∧
      ∀ t, Steps p.tables e below (T'.setTop (mkF m (pc + 1) Ls rest)) t → Steps p.tables e below (T.setTop (mkF m pc Ls (.int x :: .int j :: .ref a :: rest))) t := by
  have F0 := F
  obtain ⟨q', cl, A, r1, r2⟩ := F
  obtain ⟨T', h', X', e', W, st⟩ := stZ X hx hZ eT A (j := j) (AV.inb r1 hj) (g := mkF m pc Ls (.int x :: .int j :: .ref a :: rest)) rfl rfl hd
  exact ⟨T', h', X', e', W, (F0.set W).congr (fun k _ => by unfold up; split <;> rfl), st⟩
theorem AV.aastore (F : AV Z h a ty n g) (hty : ty.isReference = true) (S : Sto Z h a v) (X : Stand p l e R s m args below meth c T locs cells slots) (hx : p.tables.exec = Jvm.exec) (hZ : Z.Warmed39 s.vm) (eT : T.heap = h) (hj : ¬ j < 0 ∧ j.toNatClampNeg < n) {pc : Nat} {Ls : Array Slot} {rest : List Value} (hd : decode c.code pc = .ok (.aastore, 1)) :
    ∃ T' h', Stand p l e R s m args below meth c T' (locs ++ [⟨a, j.toNatClampNeg⟩]) cells slots ∧ T'.heap = h' ∧ Wr h h' a j.toNatClampNeg v ∧ AV Z h' a ty n (up g j.toNatClampNeg v) ∧
      ∀ t, Steps p.tables e below (T'.setTop (mkF m (pc + 1) Ls rest)) t → Steps p.tables e below (T.setTop (mkF m pc Ls (v :: .int j :: .ref a :: rest))) t := by
  have F0 := F
  obtain ⟨q', cl, A, r1, r2⟩ := F
  obtain ⟨T', h', X', e', W, st⟩ := stR X hx hZ eT A (j := j) (AV.inb r1 hj) hty S (g := mkF m pc Ls (v :: .int j :: .ref a :: rest)) rfl rfl hd
  exact ⟨T', h', X', e', W, F0.set W, st⟩
end AVs
/-- what may lie in an array of arrays -/
def OV (Z : State) (h : Heap) (a : Addr) (ty : FieldType) (C : String) : Prop := ∃ cl : Cell, h[a]? = some cl ∧ OvrA Z cl.cls ty C
section OVs
variable {Z : State} {h h' : Heap} {a b : Addr} {ty t0 : FieldType} {C : String} {n : Nat} {g : Nat → Value} {sl : Nat} {v : Value} {ws : List Addr}
theorem OV.ext (F : OV Z h a ty C) (E : Ext h h') : OV Z h' a ty C := by obtain ⟨cl, q, O⟩ := F; exact ⟨cl, E.2 _ _ q, O⟩
theorem OV.wr (F : OV Z h a ty C) (W : Wr h h' b sl v) : OV Z h' a ty C := by
  obtain ⟨cl, q, O⟩ := F; obtain ⟨c', e1, e2, -⟩ := wr_at W q; exact ⟨c', e1, by rw [e2]; exact O⟩
theorem OV.keep (F : OV Z h a ty C) (K : Keep h h' ws) : OV Z h' a ty C := by
  obtain ⟨cl, q, O⟩ := F; obtain ⟨c', e1, e2, -⟩ := K.2.2 _ _ q; exact ⟨c', e1, by rw [e2]; exact O⟩
theorem OV.sto (F : OV Z h a ty C) (A : AV Z h a t0 n g) (I : Ins Z h b C true) : Sto Z h a (.ref b) := by
  obtain ⟨cl, q, O⟩ := F; obtain ⟨-, c, A', -⟩ := A; cases q.symm.trans A'.1; exact Sto.ofVA A' rfl O I
end OVs
section AVc
variable {p : Program} {l : Launch} {e : Env} {R : Room} {s : State} {m : MethodId} {args : Array Value} {below : List Frame} {meth : Method} {c : Code} {T : State} {locs : List Loc} {cells slots : Nat}
variable {Z : State} {h : Heap} {a : Addr} {ty : FieldType} {n : Nat} {g0 : Nat → Value} {a0 : Array Value}
theorem AV.clone (F : AV Z h a ty n g0) (ht : ∀ k, k < n → fits ty (g0 k) = true) (X : Stand p l e R s m args below meth c T locs cells slots) (hx : p.tables.exec = Jvm.exec) (hZ : Z.Warmed39 s.vm) {own ad : String} {index : Nat} (hown : s.vm.findClass own = some m.cls)
    (w1 : (Cond.methodLink own index ⟨ad, "clone", "()Ljava/lang/Object;"⟩).before a0 Z = true) (w2 : (Cond.sameMethod ad "java/lang/Object" "clone" "()Ljava/lang/Object;").before a0 Z = true) (w3 : (Cond.native ⟨"java/lang/Object", "clone", "()Ljava/lang/Object;"⟩).before a0 Z = true)
    (w4 : (Cond.instanceMethod ⟨"java/lang/Object", "clone", "()Ljava/lang/Object;"⟩).before a0 Z = true) (w5 : (Cond.selects ad ⟨ad, "clone", "()Ljava/lang/Object;"⟩ ⟨"java/lang/Object", "clone", "()Ljava/lang/Object;"⟩).before a0 Z = true) (w6 : (Cond.castable ad "java/lang/Cloneable").before a0 Z = true)
    (eT : T.heap = h) (E : Exa Z h a ad) {g : JFrame} (hg : g.method = m) (hsize : g.locals.size = c.maxLocals) {rest : List Value} (hst : g.stack = .ref a :: rest) (hd : decode c.code g.pc = .ok (.invokevirtual index, 3))
    (hf : 1 ≤ R.frames) {W cap : Nat} (hW : 2 * g.monitorRoom + (rest.map fun v => v.category).sum ≤ W) (hl : W + 14 ≤ R.locals) (hcap : n ≤ cap) (hc : cells + 1 ≤ R.cells) (hsl : slots + cap ≤ R.slots) :
    ∃ T' h', Stand p l e R s m args below meth c T' locs (cells + 1) (slots + cap) ∧ T'.heap = h' ∧ Ext h h' ∧ AV Z h' h.size ty n g0 ∧ Exa Z h' h.size ad ∧
      ∀ target, Steps p.tables e below (T'.setTop { g with pc := g.pc + 3, stack := .ref h.size :: rest }) target → Steps p.tables e below (T.setTop g) target := by
  obtain ⟨q0, cl, A, S, H⟩ := F
  have FC : FitC Z cl := fitC_of A fun i hi v hv => by
    rw [S] at hi; rw [H i hi] at hv; cases hv; exact ht i hi
  obtain ⟨T', h', X', e', ex, A', E', st⟩ := cloneA X hx hZ hown w1 w2 w3 w4 w5 w6 eT A E FC hg hsize hst hd hf hW hl (by rw [S]; exact hcap) hc hsl
  exact ⟨T', h', X', e', ex, ⟨q0, cloneOf cl, A', S, H⟩, E', st⟩
end AVc

theorem d5_0 : decode jdk_22_method_1_code 0 = .ok (.aload_n 0, 1) := by decide +kernel
theorem d5_1 : decode jdk_22_method_1_code 1 = .ok (.invokespecial 1, 3) := by decide +kernel
theorem d5_4 : decode jdk_22_method_1_code 4 = .ok (.return_, 1) := by decide +kernel
def Q5 (Z : State) (o0 : Addr) (h0 : Heap) (n0 : Nat) (v : Option Value) (h : Heap) (L : List Loc) : Prop := v = none ∧ Fr n0 L ∧ h = h0
theorem pn_0 : plainName "java/util/AbstractCollection" = true := by first | (simp [plainName, overriddenIn]; done) | decide +kernel
theorem ef_5_a (m : MethodId) (x0 : Addr) : entryFrame m #[(.ref x0)] 1 = mkF m 0 #[.val (.ref x0)] [] := by first | (simp [entryFrame, mkF, argsToLocals, Value.category]; done) | rfl
set_option maxRecDepth 65536 in
set_option maxHeartbeats 40000000 in
theorem rm5 (l : Launch) (Z : State) (a0 : Array Value) (hw : ∀ d ∈ tables_1, d.before a0 Z = true) (ws : List Jvm.Cond) (o0 : Addr) (h0 : Heap) (n0 : Nat) (Z0 : n0 ≤ h0.size) :
    MetFree l (⟨"java/util/AbstractCollection", "<init>", "()V"⟩ : MethodName) (head1 (Jvm.Cond.code (⟨"java/util/AbstractCollection", "<init>", "()V"⟩ : MethodName) jdk_22_method_1_code 1 none :: ws) ({ frames := 1, cells := 0, slots := 0, locals := 12 } : Room)) (fun a U => a = #[(.ref o0)] ∧ Z.Warmed39 U.vm ∧ U.heap = h0) (fun _ _ _ _ _ => True) (fun _ U o U' => ∃ v L, o = .returned v ∧ Q5 Z o0 h0 n0 v U'.heap L ∧ FrameEnd U o U' L ({ frames := 1, cells := 0, slots := 0, locals := 12 } : Room).cells ({ frames := 1, cells := 0, slots := 0, locals := 12 } : Room).slots) := by
  refine MetFree.of_bodySF (plainFor_of_name pn_0) hisR ?_
  intro p e s m args below meth c s₁ Bd hml0 hP hK
  obtain ⟨rfl, hZ, hh⟩ := hP
  have hx := Bd.exec
  have hby := Bd.bytes
  have hml : c.maxLocals = 1 := hml0
  have hown : s.vm.findClass "java/util/AbstractCollection" = some m.cls := findClass_of_methodNamed Bd.named
  have hnm := (name_of_methodNamed Bd.named Bd.method).1
  have X0 : Stand p l e ({ frames := 1, cells := 0, slots := 0, locals := 12 } : Room) s m #[(.ref o0)] below meth c s₁ [] 0 0 := Stand.of_body Bd
  have e0 : s₁.heap = h0 := by rw [← hh, Bd.state]; rfl
  have N0 := Fr.nil n0
  refine Go.into (P := fun oo uu => ∃ v L, oo = .returned v ∧ Q5 Z o0 h0 n0 v uu.heap L ∧ FrameEnd s oo uu L ({ frames := 1, cells := 0, slots := 0, locals := 12 } : Room).cells ({ frames := 1, cells := 0, slots := 0, locals := 12 } : Room).slots) (ef_5_a m o0) ?_
  show Go p e below _ (s₁.setTop (mkF m 0 #[.val (.ref o0)] []))
  refine Go.via (T' := s₁.setTop (mkF m 1 #[.val (.ref o0)] [(.ref o0)])) (fun tZ kZ => ?_) ?_
  · show Steps p.tables e below (s₁.setTop (mkF m 0 #[.val (.ref o0)] [])) _
    refine XS.aloadN X0.here hx rfl (hb hby d5_0) rfl rfl ?_
    show Steps p.tables e below (s₁.setTop (mkF m 1 #[.val (.ref o0)] [(.ref o0)])) _
    exact kZ
  obtain ⟨T1, X1, e1, st1⟩ := initO X0 hx hZ hown (hw _ (List.mem_of_getElem? (i := 28) rfl)) (hw _ (List.mem_of_getElem? (i := 8) rfl)) (hw _ (List.mem_of_getElem? (i := 9) rfl)) e0 (g := (mkF m 1 #[.val (.ref o0)] [(.ref o0)])) rfl (by rw [hml]; rfl) rfl (hb hby d5_1) (by decide) (W := 0) (by show 2 * 0 + _ ≤ _; exact Nat.le_of_eq rfl) (by decide)
  refine Go.via st1 ?_
  show Go p e below _ (T1.setTop (mkF m 4 #[.val (.ref o0)] []))
  refine Go.retV X1 hx Bd.notSynchronized Bd.returns (hb hby d5_4) (by decide) (by decide) ?_
  rw [e1]
  exact ⟨rfl, N0, rfl⟩
theorem d4_0 : decode jdk_39_method_1_code 0 = .ok (.aload_n 0, 1) := by decide +kernel
theorem pd_1 : parseMethodDescriptor "()V" = some ⟨[], none⟩ := by decide +kernel
theorem d4_1 : decode jdk_39_method_1_code 1 = .ok (.invokespecial 1, 3) := by decide +kernel
theorem d4_4 : decode jdk_39_method_1_code 4 = .ok (.aload_n 0, 1) := by decide +kernel
theorem d4_5 : decode jdk_39_method_1_code 5 = .ok (.iconst 0, 1) := by decide +kernel
theorem d4_6 : decode jdk_39_method_1_code 6 = .ok (.putfield 7, 3) := by decide +kernel
theorem d4_9 : decode jdk_39_method_1_code 9 = .ok (.return_, 1) := by decide +kernel
def Q4 (Z : State) (o0 : Addr) (u : Int32) (w : Value) (h0 : Heap) (n0 : Nat) (v : Option Value) (h : Heap) (L : List Loc) : Prop := v = none ∧ Fr n0 L ∧ Keep h0 h [o0] ∧ Exa Z h o0 "java/util/ArrayList" ∧ Fld Z h o0 "java/util/AbstractList" "modCount" "I" (.int (0 : Int32)) ∧ Fld Z h o0 "java/util/ArrayList" "elementData" "[Ljava/lang/Object;" w
theorem pn_1 : plainName "java/util/AbstractList" = true := by first | (simp [plainName, overriddenIn]; done) | decide +kernel
theorem ef_4_a (m : MethodId) (x0 : Addr) : entryFrame m #[(.ref x0)] 1 = mkF m 0 #[.val (.ref x0)] [] := by first | (simp [entryFrame, mkF, argsToLocals, Value.category]; done) | rfl
set_option maxRecDepth 65536 in
set_option maxHeartbeats 40000000 in
theorem rm4 (l : Launch) (Z : State) (a0 : Array Value) (hw : ∀ d ∈ tables_1, d.before a0 Z = true) (ws : List Jvm.Cond) (o0 : Addr) (u : Int32) (w : Value) (h0 : Heap) (n0 : Nat) (Z0 : n0 ≤ h0.size) (ha0 : Exa Z h0 o0 "java/util/ArrayList") (ha1 : Fld Z h0 o0 "java/util/AbstractList" "modCount" "I" (.int u)) (ha2 : Fld Z h0 o0 "java/util/ArrayList" "elementData" "[Ljava/lang/Object;" w) (ha3 : n0 ≤ o0) :
    MetFree l (⟨"java/util/AbstractList", "<init>", "()V"⟩ : MethodName) (head1 (Jvm.Cond.code (⟨"java/util/AbstractList", "<init>", "()V"⟩ : MethodName) jdk_39_method_1_code 1 none :: ws) ({ frames := 2, cells := 0, slots := 0, locals := 24 } : Room)) (fun a U => a = #[(.ref o0)] ∧ Z.Warmed39 U.vm ∧ U.heap = h0) (fun _ _ _ _ _ => True) (fun _ U o U' => ∃ v L, o = .returned v ∧ Q4 Z o0 u w h0 n0 v U'.heap L ∧ FrameEnd U o U' L ({ frames := 2, cells := 0, slots := 0, locals := 24 } : Room).cells ({ frames := 2, cells := 0, slots := 0, locals := 24 } : Room).slots) := by
  refine MetFree.of_bodySF (plainFor_of_name pn_1) hisR ?_
  intro p e s m args below meth c s₁ Bd hml0 hP hK
  obtain ⟨rfl, hZ, hh⟩ := hP
  have hx := Bd.exec
  have hby := Bd.bytes
  have hml : c.maxLocals = 1 := hml0
  have hown : s.vm.findClass "java/util/AbstractList" = some m.cls := findClass_of_methodNamed Bd.named
  have hnm := (name_of_methodNamed Bd.named Bd.method).1
  have X0 : Stand p l e ({ frames := 2, cells := 0, slots := 0, locals := 24 } : Room) s m #[(.ref o0)] below meth c s₁ [] 0 0 := Stand.of_body Bd
  have e0 : s₁.heap = h0 := by rw [← hh, Bd.state]; rfl
  have N0 := Fr.nil n0
  refine Go.into (P := fun oo uu => ∃ v L, oo = .returned v ∧ Q4 Z o0 u w h0 n0 v uu.heap L ∧ FrameEnd s oo uu L ({ frames := 2, cells := 0, slots := 0, locals := 24 } : Room).cells ({ frames := 2, cells := 0, slots := 0, locals := 24 } : Room).slots) (ef_4_a m o0) ?_
  show Go p e below _ (s₁.setTop (mkF m 0 #[.val (.ref o0)] []))
  refine Go.via (T' := s₁.setTop (mkF m 1 #[.val (.ref o0)] [(.ref o0)])) (fun tZ kZ => ?_) ?_
  · show Steps p.tables e below (s₁.setTop (mkF m 0 #[.val (.ref o0)] [])) _
    refine XS.aloadN X0.here hx rfl (hb hby d4_0) rfl rfl ?_
    show Steps p.tables e below (s₁.setTop (mkF m 1 #[.val (.ref o0)] [(.ref o0)])) _
    exact kZ
  obtain ⟨_, _, ⟨T1, L1, k1, n1⟩, -, X1, ⟨Lc1, hQ1, l1, y1, z1⟩, st1⟩ := X0.specialBack hx (y := (⟨"java/util/AbstractCollection", "<init>", "()V"⟩ : MethodName)) rfl hown (mvT hZ (hw _ (List.mem_of_getElem? (i := 22) rfl))) (mvT hZ (hw _ (List.mem_of_getElem? (i := 23) rfl))) (mvT hZ (hw _ (List.mem_of_getElem? (i := 27) rfl))) (by decide) (backOf (W := 0) (rm5 l Z a0 hw [] o0 h0 n0 Z0 ) hZ (hw _ (List.mem_of_getElem? (i := 27) rfl)) (hw _ (List.mem_of_getElem? (i := 26) rfl)) (by decide) (by decide)) (g := (mkF m 1 #[.val (.ref o0)] [(.ref o0)])) rfl (by rw [hml]; rfl) (Steps.refl _) (a := o0) (argsL := []) (rest := []) (lenOf pd_1 rfl) rfl (by show 2 * 0 + _ ≤ _; exact Nat.le_of_eq rfl) (hb hby d4_1) (fun _ _ => ⟨rfl, e0, (by decide : 0 + 0 ≤ _), (by decide : 0 + 0 ≤ _)⟩)
  dsimp only [Pt.U, Pt.locs, Pt.cells, Pt.slots] at X1 l1 y1 z1 st1 hQ1
  subst l1 y1 z1
  obtain ⟨rfl, N1q, e1⟩ := hQ1
  have N1 := Fr.app N0 N1q
  refine Go.via (fun t k => st1.trans k) ?_
  show Go p e below _ (T1.setTop (mkF m 4 #[.val (.ref o0)] []))
  refine Go.via (T' := T1.setTop (mkF m 6 #[.val (.ref o0)] [(.int (0 : Int32)), (.ref o0)])) (fun tZ kZ => ?_) ?_
  · show Steps p.tables e below (T1.setTop (mkF m 4 #[.val (.ref o0)] [])) _
    refine XS.aloadN X1.here hx rfl (hb hby d4_4) rfl rfl ?_
    show Steps p.tables e below (T1.setTop (mkF m 5 #[.val (.ref o0)] [(.ref o0)])) _
    refine XS.iconst X1.here hx rfl (hb hby d4_5) ?_
    show Steps p.tables e below (T1.setTop (mkF m 6 #[.val (.ref o0)] [(.int (0 : Int32)), (.ref o0)])) _
    exact kZ
  obtain ⟨T2, h2, X2, e2, W2, st2⟩ := putF X1 hx hZ hown (host := "") (Or.inl (hw _ (List.mem_of_getElem? (i := 29) rfl))) Via.refl e1 ha1 ha0 (Or.inl (hw _ (List.mem_of_getElem? (i := 30) rfl))) (hw _ (List.mem_of_getElem? (i := 11) rfl)) (ty := .int) (by decide) rfl rfl (g := (mkF m 6 #[.val (.ref o0)] [(.int (0 : Int32)), (.ref o0)])) rfl rfl (hb hby d4_6)
  have N2 := Fr.snoc X2 N1 ha3
  have c3_0 := ha0.wr W2
  have c3_2 := ha2.other W2 (Or.inr (slot_ne (Or.inl (hw _ (List.mem_of_getElem? (i := 33) rfl))) (Or.inl (hw _ (List.mem_of_getElem? (i := 30) rfl))) (by decide) (t := (.array (.object "java/lang/Object"))) (t' := .int) (by decide) (by decide)))
  have K2 : Keep h0 h2 [o0] := (Keep.refl h0 [o0]).wr W2 (Or.inl (by simp))
  have Z2 : n0 ≤ h2.size := Nat.le_trans Z0 (Keep.of_wr W2).1
  have Fw2 := ha1.same W2
  refine Go.via st2 ?_
  show Go p e below _ (T2.setTop (mkF m 9 #[.val (.ref o0)] []))
  refine Go.retV X2 hx Bd.notSynchronized Bd.returns (hb hby d4_9) (by decide) (by decide) ?_
  rw [e2]
  exact ⟨rfl, N2, K2, c3_0, Fw2, c3_2⟩
theorem d3_0 : decode jdk_38_method_2_code 0 = .ok (.aload_n 0, 1) := by decide +kernel
theorem d3_1 : decode jdk_38_method_2_code 1 = .ok (.invokespecial 1, 3) := by decide +kernel
theorem d3_4 : decode jdk_38_method_2_code 4 = .ok (.aload_n 0, 1) := by decide +kernel
theorem d3_5 : decode jdk_38_method_2_code 5 = .ok (.getstatic 39, 3) := by decide +kernel
theorem d3_8 : decode jdk_38_method_2_code 8 = .ok (.putfield 9, 3) := by decide +kernel
theorem d3_11 : decode jdk_38_method_2_code 11 = .ok (.return_, 1) := by decide +kernel
def Q3 (Z : State) (o0 : Addr) (aD : Addr) (h0 : Heap) (n0 : Nat) (v : Option Value) (h : Heap) (L : List Loc) : Prop := v = none ∧ Fr n0 L ∧ Keep h0 h [o0] ∧ Exa Z h o0 "java/util/ArrayList" ∧ Fld Z h o0 "java/util/AbstractList" "modCount" "I" (.int (0 : Int32)) ∧ Fld Z h o0 "java/util/ArrayList" "elementData" "[Ljava/lang/Object;" (.ref aD) ∧ Sta Z h "java/util/ArrayList" "DEFAULTCAPACITY_EMPTY_ELEMENTDATA" "[Ljava/lang/Object;" (.ref aD)
theorem pn_2 : plainName "java/util/ArrayList" = true := by first | (simp [plainName, overriddenIn]; done) | decide +kernel
theorem ef_3_a (m : MethodId) (x0 : Addr) : entryFrame m #[(.ref x0)] 1 = mkF m 0 #[.val (.ref x0)] [] := by first | (simp [entryFrame, mkF, argsToLocals, Value.category]; done) | rfl
set_option maxRecDepth 65536 in
set_option maxHeartbeats 40000000 in
theorem rm3 (l : Launch) (Z : State) (a0 : Array Value) (hw : ∀ d ∈ tables_1, d.before a0 Z = true) (ws : List Jvm.Cond) (o0 : Addr) (aD : Addr) (h0 : Heap) (n0 : Nat) (Z0 : n0 ≤ h0.size) (ha0 : Exa Z h0 o0 "java/util/ArrayList") (ha1 : Fld Z h0 o0 "java/util/AbstractList" "modCount" "I" (.int (0 : Int32))) (ha2 : Fld Z h0 o0 "java/util/ArrayList" "elementData" "[Ljava/lang/Object;" .null) (ha3 : n0 ≤ o0) (ha4 : Sta Z h0 "java/util/ArrayList" "DEFAULTCAPACITY_EMPTY_ELEMENTDATA" "[Ljava/lang/Object;" (.ref aD)) :
    MetFree l (⟨"java/util/ArrayList", "<init>", "()V"⟩ : MethodName) (head1 (Jvm.Cond.code (⟨"java/util/ArrayList", "<init>", "()V"⟩ : MethodName) jdk_38_method_2_code 1 none :: ws) ({ frames := 3, cells := 0, slots := 0, locals := 36 } : Room)) (fun a U => a = #[(.ref o0)] ∧ Z.Warmed39 U.vm ∧ U.heap = h0) (fun _ _ _ _ _ => True) (fun _ U o U' => ∃ v L, o = .returned v ∧ Q3 Z o0 aD h0 n0 v U'.heap L ∧ FrameEnd U o U' L ({ frames := 3, cells := 0, slots := 0, locals := 36 } : Room).cells ({ frames := 3, cells := 0, slots := 0, locals := 36 } : Room).slots) := by
  refine MetFree.of_bodySF (plainFor_of_name pn_2) hisR ?_
  intro p e s m args below meth c s₁ Bd hml0 hP hK
  obtain ⟨rfl, hZ, hh⟩ := hP
  have hx := Bd.exec
  have hby := Bd.bytes
  have hml : c.maxLocals = 1 := hml0
  have hown : s.vm.findClass "java/util/ArrayList" = some m.cls := findClass_of_methodNamed Bd.named
  have hnm := (name_of_methodNamed Bd.named Bd.method).1
  have X0 : Stand p l e ({ frames := 3, cells := 0, slots := 0, locals := 36 } : Room) s m #[(.ref o0)] below meth c s₁ [] 0 0 := Stand.of_body Bd
  have e0 : s₁.heap = h0 := by rw [← hh, Bd.state]; rfl
  have N0 := Fr.nil n0
  refine Go.into (P := fun oo uu => ∃ v L, oo = .returned v ∧ Q3 Z o0 aD h0 n0 v uu.heap L ∧ FrameEnd s oo uu L ({ frames := 3, cells := 0, slots := 0, locals := 36 } : Room).cells ({ frames := 3, cells := 0, slots := 0, locals := 36 } : Room).slots) (ef_3_a m o0) ?_
  show Go p e below _ (s₁.setTop (mkF m 0 #[.val (.ref o0)] []))
  refine Go.via (T' := s₁.setTop (mkF m 1 #[.val (.ref o0)] [(.ref o0)])) (fun tZ kZ => ?_) ?_
  · show Steps p.tables e below (s₁.setTop (mkF m 0 #[.val (.ref o0)] [])) _
    refine XS.aloadN X0.here hx rfl (hb hby d3_0) rfl rfl ?_
    show Steps p.tables e below (s₁.setTop (mkF m 1 #[.val (.ref o0)] [(.ref o0)])) _
    exact kZ
  obtain ⟨_, _, ⟨T1, L1, k1, n1⟩, -, X1, ⟨Lc1, hQ1, l1, y1, z1⟩, st1⟩ := X0.specialBack hx (y := (⟨"java/util/AbstractList", "<init>", "()V"⟩ : MethodName)) rfl hown (mvT hZ (hw _ (List.mem_of_getElem? (i := 16) rfl))) (mvT hZ (hw _ (List.mem_of_getElem? (i := 17) rfl))) (mvT hZ (hw _ (List.mem_of_getElem? (i := 21) rfl))) (by decide) (backOf (W := 0) (rm4 l Z a0 hw [] o0 (0 : Int32) .null h0 n0 Z0 ha0 ha1 ha2 ha3) hZ (hw _ (List.mem_of_getElem? (i := 21) rfl)) (hw _ (List.mem_of_getElem? (i := 20) rfl)) (by decide) (by decide)) (g := (mkF m 1 #[.val (.ref o0)] [(.ref o0)])) rfl (by rw [hml]; rfl) (Steps.refl _) (a := o0) (argsL := []) (rest := []) (lenOf pd_1 rfl) rfl (by show 2 * 0 + _ ≤ _; exact Nat.le_of_eq rfl) (hb hby d3_1) (fun _ _ => ⟨rfl, e0, (by decide : 0 + 0 ≤ _), (by decide : 0 + 0 ≤ _)⟩)
  dsimp only [Pt.U, Pt.locs, Pt.cells, Pt.slots] at X1 l1 y1 z1 st1 hQ1
  subst l1 y1 z1
  obtain ⟨rfl, N1q, Kq1, f1_0, f1_1, f1_2⟩ := hQ1
  have c2_4 := own_sk ha4 Kq1 (own_ns1 ha0.nostat (fun _ _ _ _ => nin0))
  have K1 : Keep h0 T1.heap [o0] := (Keep.refl h0 [o0]).trans Kq1 (allS (Or.inl (by simp)) all0)
  have Z1 : n0 ≤ T1.heap.size := Nat.le_trans Z0 Kq1.1
  have N1 := Fr.app N0 N1q
  refine Go.via (fun t k => st1.trans k) ?_
  show Go p e below _ (T1.setTop (mkF m 4 #[.val (.ref o0)] []))
  refine Go.via (T' := T1.setTop (mkF m 5 #[.val (.ref o0)] [(.ref o0)])) (fun tZ kZ => ?_) ?_
  · show Steps p.tables e below (T1.setTop (mkF m 4 #[.val (.ref o0)] [])) _
    refine XS.aloadN X1.here hx rfl (hb hby d3_4) rfl rfl ?_
    show Steps p.tables e below (T1.setTop (mkF m 5 #[.val (.ref o0)] [(.ref o0)])) _
    exact kZ
  obtain ⟨T3, X3, e3, st3⟩ := getS2 X1 hx hZ hown (host := "") (Or.inl (hw _ (List.mem_of_getElem? (i := 31) rfl))) Via.refl rfl c2_4 (g := (mkF m 5 #[.val (.ref o0)] [(.ref o0)])) rfl (hb hby d3_5)
  refine Go.via st3 ?_
  show Go p e below _ (T3.setTop (mkF m 8 #[.val (.ref o0)] [(.ref aD), (.ref o0)]))
  obtain ⟨T4, h4, X4, e4, W4, st4⟩ := putF X3 hx hZ hown (host := "") (Or.inl (hw _ (List.mem_of_getElem? (i := 32) rfl))) Via.refl e3 f1_2 f1_0 (Or.inl (hw _ (List.mem_of_getElem? (i := 33) rfl))) (hw _ (List.mem_of_getElem? (i := 11) rfl)) (ty := (.array (.object "java/lang/Object"))) (by decide) rfl rfl (g := (mkF m 8 #[.val (.ref o0)] [(.ref aD), (.ref o0)])) rfl rfl (hb hby d3_8)
  have N4 := Fr.snoc X4 N1 ha3
  have c5_0 := f1_0.wr W4
  have c5_1 := f1_1.other W4 (Or.inr (slot_ne (Or.inl (hw _ (List.mem_of_getElem? (i := 30) rfl))) (Or.inl (hw _ (List.mem_of_getElem? (i := 33) rfl))) (by decide) (t := .int) (t' := (.array (.object "java/lang/Object"))) (by decide) (by decide)))
  have c5_4 := c2_4.wr W4
  have K4 : Keep h0 h4 [o0] := K1.wr W4 (Or.inl (by simp))
  have Z4 : n0 ≤ h4.size := Nat.le_trans Z1 (Keep.of_wr W4).1
  have Fw4 := f1_2.same W4
  refine Go.via st4 ?_
  show Go p e below _ (T4.setTop (mkF m 11 #[.val (.ref o0)] []))
  refine Go.retV X4 hx Bd.notSynchronized Bd.returns (hb hby d3_11) (by decide) (by decide) ?_
  rw [e4]
  exact ⟨rfl, N4, K4, c5_0, c5_1, Fw4, c5_4⟩
theorem d1_0 : decode prog_52_method_1_code 0 = .ok (.aload_n 0, 1) := by decide +kernel
theorem d1_1 : decode prog_52_method_1_code 1 = .ok (.invokespecial 1, 3) := by decide +kernel
theorem d1_4 : decode prog_52_method_1_code 4 = .ok (.aload_n 0, 1) := by decide +kernel
theorem d1_5 : decode prog_52_method_1_code 5 = .ok (.new 7, 3) := by decide +kernel
theorem d1_8 : decode prog_52_method_1_code 8 = .ok (.dup, 1) := by decide +kernel
theorem d1_9 : decode prog_52_method_1_code 9 = .ok (.invokespecial 9, 3) := by decide +kernel
theorem d1_12 : decode prog_52_method_1_code 12 = .ok (.putfield 10, 3) := by decide +kernel
theorem d1_15 : decode prog_52_method_1_code 15 = .ok (.aload_n 0, 1) := by decide +kernel
theorem d1_16 : decode prog_52_method_1_code 16 = .ok (.aload_n 1, 1) := by decide +kernel
theorem d1_17 : decode prog_52_method_1_code 17 = .ok (.invokevirtual 16, 3) := by decide +kernel
theorem d1_20 : decode prog_52_method_1_code 20 = .ok (.checkcast 17, 3) := by decide +kernel
theorem d1_23 : decode prog_52_method_1_code 23 = .ok (.putfield 22, 3) := by decide +kernel
theorem d1_26 : decode prog_52_method_1_code 26 = .ok (.aload_n 0, 1) := by decide +kernel
theorem d1_27 : decode prog_52_method_1_code 27 = .ok (.aload_n 1, 1) := by decide +kernel
theorem d1_28 : decode prog_52_method_1_code 28 = .ok (.arraylength, 1) := by decide +kernel
theorem d1_29 : decode prog_52_method_1_code 29 = .ok (.newarray .int, 2) := by decide +kernel
theorem d1_31 : decode prog_52_method_1_code 31 = .ok (.putfield 25, 3) := by decide +kernel
theorem d1_34 : decode prog_52_method_1_code 34 = .ok (.iconst 0, 1) := by decide +kernel
theorem d1_35 : decode prog_52_method_1_code 35 = .ok (.istore_n 2, 1) := by decide +kernel
theorem d1_36 : decode prog_52_method_1_code 36 = .ok (.iconst 0, 1) := by decide +kernel
theorem d1_37 : decode prog_52_method_1_code 37 = .ok (.istore_n 3, 1) := by decide +kernel
theorem d1_38 : decode prog_52_method_1_code 38 = .ok (.iload_n 3, 1) := by decide +kernel
theorem d1_39 : decode prog_52_method_1_code 39 = .ok (.aload_n 1, 1) := by decide +kernel
theorem d1_40 : decode prog_52_method_1_code 40 = .ok (.arraylength, 1) := by decide +kernel
theorem d1_41 : decode prog_52_method_1_code 41 = .ok (.if_icmp .ge 24, 3) := by decide +kernel
theorem d1_65 : decode prog_52_method_1_code 65 = .ok (.return_, 1) := by decide +kernel
def Q1n0 (Z : State) (o0 : Addr) (o1 : Addr) (fF : Nat → Int32) (aD : Addr) (h0 : Heap) (n0 : Nat) (v : Option Value) (h : Heap) (L : List Loc) : Prop := v = none ∧ Fr n0 L ∧ ∃ b8 : Addr, h0.size ≤ b8 ∧ Keep h0 h [o0] ∧ Exa Z h o0 "com/example/ltlconv/ltlconv/dra/RabinDraft" ∧ Fld Z h o0 "com/example/ltlconv/ltlconv/dra/RabinDraft" "infiniteCounts" "[I" (.ref b8) ∧ AV Z h o1 .int 0 (fun k => .int (fF k)) ∧ Exa Z h o1 "[I" ∧ Sta Z h "java/util/ArrayList" "DEFAULTCAPACITY_EMPTY_ELEMENTDATA" "[Ljava/lang/Object;" (.ref aD) ∧ AV Z h b8 .int 0 (fun k => .int (fF k)) ∧ Exa Z h b8 "[I"
theorem pn_3 : plainName "com/example/ltlconv/ltlconv/dra/RabinDraft" = true := by first | (simp [plainName, overriddenIn]; done) | decide +kernel
theorem ef_1_aa (m : MethodId) (x0 : Addr) (x1 : Addr) : entryFrame m #[(.ref x0), (.ref x1)] 4 = mkF m 0 #[.val (.ref x0), .val (.ref x1), .unset, .unset] [] := by first | (simp [entryFrame, mkF, argsToLocals, Value.category]; done) | rfl
set_option maxRecDepth 65536 in
set_option maxHeartbeats 40000000 in
theorem rm1n0 (l : Launch) (Z : State) (a0 : Array Value) (hw : ∀ d ∈ tables_1, d.before a0 Z = true) (ws : List Jvm.Cond) (o0 : Addr) (o1 : Addr) (fF : Nat → Int32) (aD : Addr) (h0 : Heap) (n0 : Nat) (Z0 : n0 ≤ h0.size) (ha0 : Exa Z h0 o0 "com/example/ltlconv/ltlconv/dra/RabinDraft") (ha1 : Fld Z h0 o0 "com/example/ltlconv/ltlconv/dra/RabinDraft" "transitions" "Ljava/util/List;" .null) (ha2 : Fld Z h0 o0 "com/example/ltlconv/ltlconv/dra/RabinDraft" "infiniteCounts" "[I" .null) (ha3 : Fld Z h0 o0 "com/example/ltlconv/ltlconv/dra/RabinDraft" "finiteSets" "[I" .null) (ha4 : n0 ≤ o0) (ha5 : AV Z h0 o1 .int 0 (fun k => .int (fF k))) (ha6 : Exa Z h0 o1 "[I") (ha7 : Sta Z h0 "java/util/ArrayList" "DEFAULTCAPACITY_EMPTY_ELEMENTDATA" "[Ljava/lang/Object;" (.ref aD)) (hne_o0_o1 : o0 ≠ o1) :
    MetFree l (⟨"com/example/ltlconv/ltlconv/dra/RabinDraft", "<init>", "([I)V"⟩ : MethodName) (head1 (Jvm.Cond.code (⟨"com/example/ltlconv/ltlconv/dra/RabinDraft", "<init>", "([I)V"⟩ : MethodName) prog_52_method_1_code 4 none :: ws) ({ frames := 4, cells := 3, slots := 3, locals := 50 } : Room)) (fun a U => a = #[(.ref o0), (.ref o1)] ∧ Z.Warmed39 U.vm ∧ U.heap = h0) (fun _ _ _ _ _ => True) (fun _ U o U' => ∃ v L, o = .returned v ∧ Q1n0 Z o0 o1 fF aD h0 n0 v U'.heap L ∧ FrameEnd U o U' L ({ frames := 4, cells := 3, slots := 3, locals := 50 } : Room).cells ({ frames := 4, cells := 3, slots := 3, locals := 50 } : Room).slots) := by
  refine MetFree.of_bodySF (plainFor_of_name pn_3) hisR ?_
  intro p e s m args below meth c s₁ Bd hml0 hP hK
  obtain ⟨rfl, hZ, hh⟩ := hP
  have hx := Bd.exec
  have hby := Bd.bytes
  have hml : c.maxLocals = 4 := hml0
  have hown : s.vm.findClass "com/example/ltlconv/ltlconv/dra/RabinDraft" = some m.cls := findClass_of_methodNamed Bd.named
  have hnm := (name_of_methodNamed Bd.named Bd.method).1
  have X0 : Stand p l e ({ frames := 4, cells := 3, slots := 3, locals := 50 } : Room) s m #[(.ref o0), (.ref o1)] below meth c s₁ [] 0 0 := Stand.of_body Bd
  have e0 : s₁.heap = h0 := by rw [← hh, Bd.state]; rfl
  have N0 := Fr.nil n0
  refine Go.into (P := fun oo uu => ∃ v L, oo = .returned v ∧ Q1n0 Z o0 o1 fF aD h0 n0 v uu.heap L ∧ FrameEnd s oo uu L ({ frames := 4, cells := 3, slots := 3, locals := 50 } : Room).cells ({ frames := 4, cells := 3, slots := 3, locals := 50 } : Room).slots) (ef_1_aa m o0 o1) ?_
  show Go p e below _ (s₁.setTop (mkF m 0 #[.val (.ref o0), .val (.ref o1), .unset, .unset] []))
  refine Go.via (T' := s₁.setTop (mkF m 1 #[.val (.ref o0), .val (.ref o1), .unset, .unset] [(.ref o0)])) (fun tZ kZ => ?_) ?_
  · show Steps p.tables e below (s₁.setTop (mkF m 0 #[.val (.ref o0), .val (.ref o1), .unset, .unset] [])) _
    refine XS.aloadN X0.here hx rfl (hb hby d1_0) rfl rfl ?_
    show Steps p.tables e below (s₁.setTop (mkF m 1 #[.val (.ref o0), .val (.ref o1), .unset, .unset] [(.ref o0)])) _
    exact kZ
  obtain ⟨T1, X1, e1, st1⟩ := initO X0 hx hZ hown (hw _ (List.mem_of_getElem? (i := 7) rfl)) (hw _ (List.mem_of_getElem? (i := 8) rfl)) (hw _ (List.mem_of_getElem? (i := 9) rfl)) e0 (g := (mkF m 1 #[.val (.ref o0), .val (.ref o1), .unset, .unset] [(.ref o0)])) rfl (by rw [hml]; rfl) rfl (hb hby d1_1) (by decide) (W := 0) (by show 2 * 0 + _ ≤ _; exact Nat.le_of_eq rfl) (by decide)
  refine Go.via st1 ?_
  show Go p e below _ (T1.setTop (mkF m 4 #[.val (.ref o0), .val (.ref o1), .unset, .unset] []))
  refine Go.via (T' := T1.setTop (mkF m 5 #[.val (.ref o0), .val (.ref o1), .unset, .unset] [(.ref o0)])) (fun tZ kZ => ?_) ?_
  · show Steps p.tables e below (T1.setTop (mkF m 4 #[.val (.ref o0), .val (.ref o1), .unset, .unset] [])) _
    refine XS.aloadN X1.here hx rfl (hb hby d1_4) rfl rfl ?_
    show Steps p.tables e below (T1.setTop (mkF m 5 #[.val (.ref o0), .val (.ref o1), .unset, .unset] [(.ref o0)])) _
    exact kZ
  obtain ⟨T2, h2, X2, e2, E2, A2, D2, -, st2⟩ := newO X1 hx hZ hown (hw _ (List.mem_of_getElem? (i := 10) rfl)) (hw _ (List.mem_of_getElem? (i := 11) rfl)) (hw _ (List.mem_of_getElem? (i := 12) rfl)) e1 (g := (mkF m 5 #[.val (.ref o0), .val (.ref o1), .unset, .unset] [(.ref o0)])) rfl (hb hby d1_5) (by decide) (by decide)
  obtain ⟨b2, g2⟩ : ∃ z, z = h0.size := ⟨_, rfl⟩
  rw [← g2] at A2 D2 st2
  have g_b2 : n0 ≤ b2 := Nat.le_trans Z0 (Nat.le_of_eq g2.symm)
  have sz_b2 : h0.size ≤ b2 := Nat.le_trans ((Keep.refl h0 [o0])).1 (Nat.le_of_eq g2.symm)
  have ne_o0_b2 : o0 ≠ b2 := Nat.ne_of_lt (Nat.lt_of_lt_of_le ha0.lt (Nat.le_of_eq g2.symm))
  have ne_o1_b2 : o1 ≠ b2 := Nat.ne_of_lt (Nat.lt_of_lt_of_le ha5.lt (Nat.le_of_eq g2.symm))
  have c3_0 := ha0.ext E2
  have c3_1 := ha1.ext E2
  have c3_2 := ha2.ext E2
  have c3_3 := ha3.ext E2
  have c3_5 := ha5.ext E2
  have c3_6 := ha6.ext E2
  have c3_7 := ha7.ext E2
  have K2 : Keep h0 h2 [o0] := (Keep.refl h0 [o0]).ext E2
  have Z2 : n0 ≤ h2.size := Nat.le_trans Z0 E2.1
  have F2_modCount : Fld Z h2 b2 "java/util/AbstractList" "modCount" "I" (.int (0 : Int32)) := D2 (Or.inl (hw _ (List.mem_of_getElem? (i := 30) rfl))) (ty := .int) (by decide)
  have F2_elementData : Fld Z h2 b2 "java/util/ArrayList" "elementData" "[Ljava/lang/Object;" .null := D2 (Or.inl (hw _ (List.mem_of_getElem? (i := 33) rfl))) (ty := (.array (.object "java/lang/Object"))) (by decide)
  refine Go.via st2 ?_
  show Go p e below _ (T2.setTop (mkF m 8 #[.val (.ref o0), .val (.ref o1), .unset, .unset] [(.ref b2), (.ref o0)]))
  refine Go.via (T' := T2.setTop (mkF m 9 #[.val (.ref o0), .val (.ref o1), .unset, .unset] [(.ref b2), (.ref b2), (.ref o0)])) (fun tZ kZ => ?_) ?_
  · show Steps p.tables e below (T2.setTop (mkF m 8 #[.val (.ref o0), .val (.ref o1), .unset, .unset] [(.ref b2), (.ref o0)])) _
    refine XS.dup X2.here hx rfl (hb hby d1_8) rfl rfl ?_
    show Steps p.tables e below (T2.setTop (mkF m 9 #[.val (.ref o0), .val (.ref o1), .unset, .unset] [(.ref b2), (.ref b2), (.ref o0)])) _
    exact kZ
  obtain ⟨_, _, ⟨T4, L4, k4, n4⟩, -, X4, ⟨Lc4, hQ4, l4, y4, z4⟩, st4⟩ := X2.specialBack hx (y := (⟨"java/util/ArrayList", "<init>", "()V"⟩ : MethodName)) rfl hown (mvT hZ (hw _ (List.mem_of_getElem? (i := 13) rfl))) (mvT hZ (hw _ (List.mem_of_getElem? (i := 14) rfl))) (mvT hZ (hw _ (List.mem_of_getElem? (i := 15) rfl))) (by decide) (backOf (W := 2) (rm3 l Z a0 hw [] b2 aD h2 n0 Z2 A2 F2_modCount F2_elementData g_b2 c3_7) hZ (hw _ (List.mem_of_getElem? (i := 15) rfl)) (hw _ (List.mem_of_getElem? (i := 12) rfl)) (by decide) (by decide)) (g := (mkF m 9 #[.val (.ref o0), .val (.ref o1), .unset, .unset] [(.ref b2), (.ref b2), (.ref o0)])) rfl (by rw [hml]; rfl) (Steps.refl _) (a := b2) (argsL := []) (rest := [(.ref b2), (.ref o0)]) (lenOf pd_1 rfl) rfl (by show 2 * 0 + _ ≤ _; exact Nat.le_of_eq rfl) (hb hby d1_9) (fun _ _ => ⟨rfl, e2, (by decide : 0 + 1 + 0 ≤ _), (by decide : 0 + 3 + 0 ≤ _)⟩)
  dsimp only [Pt.U, Pt.locs, Pt.cells, Pt.slots] at X4 l4 y4 z4 st4 hQ4
  subst l4 y4 z4
  obtain ⟨rfl, N4q, Kq4, f4_0, f4_1, f4_2, f4_3⟩ := hQ4
  have c5_0 := c3_0.keep Kq4
  have c5_1 := c3_1.keep Kq4 (ninS ne_o0_b2 nin0)
  have c5_2 := c3_2.keep Kq4 (ninS ne_o0_b2 nin0)
  have c5_3 := c3_3.keep Kq4 (ninS ne_o0_b2 nin0)
  have c5_5 := c3_5.keep Kq4 (ninS ne_o1_b2 nin0)
  have c5_6 := c3_6.keep Kq4
  have K4 : Keep h0 T4.heap [o0] := K2.trans Kq4 (allS (Or.inr sz_b2) all0)
  have Z4 : n0 ≤ T4.heap.size := Nat.le_trans Z2 Kq4.1
  have N4 := Fr.app N0 N4q
  refine Go.via (fun t k => st4.trans k) ?_
  show Go p e below _ (T4.setTop (mkF m 12 #[.val (.ref o0), .val (.ref o1), .unset, .unset] [(.ref b2), (.ref o0)]))
  obtain ⟨T6, h6, X6, e6, W6, st6⟩ := putF X4 hx hZ hown (host := "") (Or.inl (hw _ (List.mem_of_getElem? (i := 34) rfl))) Via.refl rfl c5_1 c5_0 (Or.inr ⟨(hw _ (List.mem_of_getElem? (i := 35) rfl)), rfl, hnm⟩) (hw _ (List.mem_of_getElem? (i := 2) rfl)) (ty := (.object "java/util/List")) (by decide) rfl rfl (g := (mkF m 12 #[.val (.ref o0), .val (.ref o1), .unset, .unset] [(.ref b2), (.ref o0)])) rfl rfl (hb hby d1_12)
  have N6 := Fr.snoc X6 N4 ha4
  have c7_0 := c5_0.wr W6
  have c7_2 := c5_2.other W6 (Or.inr (slot_ne (Or.inr (hw _ (List.mem_of_getElem? (i := 46) rfl))) (Or.inr (hw _ (List.mem_of_getElem? (i := 35) rfl))) (by decide) (t := (.array .int)) (t' := (.object "java/util/List")) (by decide) (by decide)))
  have c7_3 := c5_3.other W6 (Or.inr (slot_ne (Or.inr (hw _ (List.mem_of_getElem? (i := 48) rfl))) (Or.inr (hw _ (List.mem_of_getElem? (i := 35) rfl))) (by decide) (t := (.array .int)) (t' := (.object "java/util/List")) (by decide) (by decide)))
  have c7_5 := c5_5.other W6 (Ne.symm hne_o0_o1)
  have c7_6 := c5_6.wr W6
  have c7_7 := f4_3.wr W6
  have c7_9 := f4_0.wr W6
  have c7_10 := f4_1.other W6 (Or.inl (Ne.symm ne_o0_b2))
  have c7_11 := f4_2.other W6 (Or.inl (Ne.symm ne_o0_b2))
  have K6 : Keep h0 h6 [o0] := K4.wr W6 (Or.inl (by simp))
  have Z6 : n0 ≤ h6.size := Nat.le_trans Z4 (Keep.of_wr W6).1
  have Fw6 := c5_1.same W6
  refine Go.via st6 ?_
  show Go p e below _ (T6.setTop (mkF m 15 #[.val (.ref o0), .val (.ref o1), .unset, .unset] []))
  refine Go.via (T' := T6.setTop (mkF m 17 #[.val (.ref o0), .val (.ref o1), .unset, .unset] [(.ref o1), (.ref o0)])) (fun tZ kZ => ?_) ?_
  · show Steps p.tables e below (T6.setTop (mkF m 15 #[.val (.ref o0), .val (.ref o1), .unset, .unset] [])) _
    refine XS.aloadN X6.here hx rfl (hb hby d1_15) rfl rfl ?_
    show Steps p.tables e below (T6.setTop (mkF m 16 #[.val (.ref o0), .val (.ref o1), .unset, .unset] [(.ref o0)])) _
    refine XS.aloadN X6.here hx rfl (hb hby d1_16) rfl rfl ?_
    show Steps p.tables e below (T6.setTop (mkF m 17 #[.val (.ref o0), .val (.ref o1), .unset, .unset] [(.ref o1), (.ref o0)])) _
    exact kZ
  obtain ⟨T8, h8, X8, e8, E8, V8, B8, st8⟩ := AV.clone c7_5 (fun _ _ => rfl) X6 hx hZ hown (hw _ (List.mem_of_getElem? (i := 36) rfl)) (hw _ (List.mem_of_getElem? (i := 37) rfl)) (hw _ (List.mem_of_getElem? (i := 41) rfl)) (hw _ (List.mem_of_getElem? (i := 39) rfl)) (hw _ (List.mem_of_getElem? (i := 40) rfl)) (hw _ (List.mem_of_getElem? (i := 42) rfl)) e6 c7_6 (g := (mkF m 17 #[.val (.ref o0), .val (.ref o1), .unset, .unset] [(.ref o1), (.ref o0)])) rfl (by rw [hml]; rfl) (rest := [(.ref o0)]) rfl (hb hby d1_17) (by decide) (W := 1) (cap := 0) (by show 2 * 0 + _ ≤ _; exact Nat.le_of_eq rfl) (by decide) (by decide) (by decide) (by decide)
  obtain ⟨b8, g8⟩ : ∃ z, z = h6.size := ⟨_, rfl⟩
  rw [← g8] at V8 B8 st8
  have g_b8 : n0 ≤ b8 := Nat.le_trans Z6 (Nat.le_of_eq g8.symm)
  have sz_b8 : h0.size ≤ b8 := Nat.le_trans (K6).1 (Nat.le_of_eq g8.symm)
  have ne_o0_b8 : o0 ≠ b8 := Nat.ne_of_lt (Nat.lt_of_lt_of_le c7_0.lt (Nat.le_of_eq g8.symm))
  have ne_o1_b8 : o1 ≠ b8 := Nat.ne_of_lt (Nat.lt_of_lt_of_le c7_5.lt (Nat.le_of_eq g8.symm))
  have ne_b2_b8 : b2 ≠ b8 := Nat.ne_of_lt (Nat.lt_of_lt_of_le c7_9.lt (Nat.le_of_eq g8.symm))
  have c9_0 := c7_0.ext E8
  have c9_1 := Fw6.ext E8
  have c9_2 := c7_2.ext E8
  have c9_3 := c7_3.ext E8
  have c9_5 := c7_5.ext E8
  have c9_6 := c7_6.ext E8
  have c9_7 := c7_7.ext E8
  have c9_9 := c7_9.ext E8
  have c9_10 := c7_10.ext E8
  have c9_11 := c7_11.ext E8
  have K8 : Keep h0 h8 [o0] := K6.ext E8
  have Z8 : n0 ≤ h8.size := Nat.le_trans Z6 E8.1
  refine Go.via st8 ?_
  show Go p e below _ (T8.setTop (mkF m 20 #[.val (.ref o0), .val (.ref o1), .unset, .unset] [(.ref b8), (.ref o0)]))
  obtain ⟨T10, X10, e10, st10⟩ := castY X8 hx hZ hown (hw _ (List.mem_of_getElem? (i := 43) rfl)) e8 (Ins.self B8) (g := (mkF m 20 #[.val (.ref o0), .val (.ref o1), .unset, .unset] [(.ref b8), (.ref o0)])) rfl rfl (hb hby d1_20)
  refine Go.via st10 ?_
  show Go p e below _ (T10.setTop (mkF m 23 #[.val (.ref o0), .val (.ref o1), .unset, .unset] [(.ref b8), (.ref o0)]))
  obtain ⟨T11, h11, X11, e11, W11, st11⟩ := putF X10 hx hZ hown (host := "") (Or.inl (hw _ (List.mem_of_getElem? (i := 45) rfl))) Via.refl e10 c9_2 c9_0 (Or.inr ⟨(hw _ (List.mem_of_getElem? (i := 46) rfl)), rfl, hnm⟩) (hw _ (List.mem_of_getElem? (i := 2) rfl)) (ty := (.array .int)) (by decide) rfl rfl (g := (mkF m 23 #[.val (.ref o0), .val (.ref o1), .unset, .unset] [(.ref b8), (.ref o0)])) rfl rfl (hb hby d1_23)
  have N11 := Fr.snoc X11 N6 ha4
  have c12_0 := c9_0.wr W11
  have c12_1 := c9_1.other W11 (Or.inr (slot_ne (Or.inr (hw _ (List.mem_of_getElem? (i := 35) rfl))) (Or.inr (hw _ (List.mem_of_getElem? (i := 46) rfl))) (by decide) (t := (.object "java/util/List")) (t' := (.array .int)) (by decide) (by decide)))
  have c12_3 := c9_3.other W11 (Or.inr (slot_ne (Or.inr (hw _ (List.mem_of_getElem? (i := 48) rfl))) (Or.inr (hw _ (List.mem_of_getElem? (i := 46) rfl))) (by decide) (t := (.array .int)) (t' := (.array .int)) (by decide) (by decide)))
  have c12_5 := c9_5.other W11 (Ne.symm hne_o0_o1)
  have c12_6 := c9_6.wr W11
  have c12_7 := c9_7.wr W11
  have c12_9 := c9_9.wr W11
  have c12_10 := c9_10.other W11 (Or.inl (Ne.symm ne_o0_b2))
  have c12_11 := c9_11.other W11 (Or.inl (Ne.symm ne_o0_b2))
  have c12_13 := V8.other W11 (Ne.symm ne_o0_b8)
  have c12_14 := B8.wr W11
  have K11 : Keep h0 h11 [o0] := K8.wr W11 (Or.inl (by simp))
  have Z11 : n0 ≤ h11.size := Nat.le_trans Z8 (Keep.of_wr W11).1
  have Fw11 := c9_2.same W11
  refine Go.via st11 ?_
  show Go p e below _ (T11.setTop (mkF m 26 #[.val (.ref o0), .val (.ref o1), .unset, .unset] []))
  refine Go.via (T' := T11.setTop (mkF m 29 #[.val (.ref o0), .val (.ref o1), .unset, .unset] [(.int (0 : Int32)), (.ref o0)])) (fun tZ kZ => ?_) ?_
  · show Steps p.tables e below (T11.setTop (mkF m 26 #[.val (.ref o0), .val (.ref o1), .unset, .unset] [])) _
    refine XS.aloadN X11.here hx rfl (hb hby d1_26) rfl rfl ?_
    show Steps p.tables e below (T11.setTop (mkF m 27 #[.val (.ref o0), .val (.ref o1), .unset, .unset] [(.ref o0)])) _
    refine XS.aloadN X11.here hx rfl (hb hby d1_27) rfl rfl ?_
    show Steps p.tables e below (T11.setTop (mkF m 28 #[.val (.ref o0), .val (.ref o1), .unset, .unset] [(.ref o1), (.ref o0)])) _
    refine AV.len c12_5 X11 hx hZ e11 (hb hby d1_28) ?_
    show Steps p.tables e below (T11.setTop (mkF m 29 #[.val (.ref o0), .val (.ref o1), .unset, .unset] [(.int (0 : Int32)), (.ref o0)])) _
    exact kZ
  obtain ⟨T13, h13, k13, X13, e13, E13, A13, B13, st13⟩ := newPE X11 hx hZ (hw _ (List.mem_of_getElem? (i := 0) rfl)) e11 (g := (mkF m 29 #[.val (.ref o0), .val (.ref o1), .unset, .unset] [(.int (0 : Int32)), (.ref o0)])) rfl (hb hby d1_29) rfl (by decide) (cap := 0) (by decide) (by decide) (by decide) (by decide) (ad := "[I") rfl
  obtain ⟨b13, g13⟩ : ∃ z, z = h11.size := ⟨_, rfl⟩
  rw [← g13] at A13 B13 st13
  have g_b13 : n0 ≤ b13 := Nat.le_trans Z11 (Nat.le_of_eq g13.symm)
  have sz_b13 : h0.size ≤ b13 := Nat.le_trans (K11).1 (Nat.le_of_eq g13.symm)
  have ne_o0_b13 : o0 ≠ b13 := Nat.ne_of_lt (Nat.lt_of_lt_of_le c12_0.lt (Nat.le_of_eq g13.symm))
  have ne_o1_b13 : o1 ≠ b13 := Nat.ne_of_lt (Nat.lt_of_lt_of_le c12_5.lt (Nat.le_of_eq g13.symm))
  have ne_b2_b13 : b2 ≠ b13 := Nat.ne_of_lt (Nat.lt_of_lt_of_le c12_9.lt (Nat.le_of_eq g13.symm))
  have ne_b8_b13 : b8 ≠ b13 := Nat.ne_of_lt (Nat.lt_of_lt_of_le c12_13.lt (Nat.le_of_eq g13.symm))
  have c14_0 := c12_0.ext E13
  have c14_1 := c12_1.ext E13
  have c14_2 := Fw11.ext E13
  have c14_3 := c12_3.ext E13
  have c14_5 := c12_5.ext E13
  have c14_6 := c12_6.ext E13
  have c14_7 := c12_7.ext E13
  have c14_9 := c12_9.ext E13
  have c14_10 := c12_10.ext E13
  have c14_11 := c12_11.ext E13
  have c14_13 := c12_13.ext E13
  have c14_14 := c12_14.ext E13
  have K13 : Keep h0 h13 [o0] := K11.ext E13
  have Z13 : n0 ≤ h13.size := Nat.le_trans Z11 E13.1
  have V13 : AV Z h13 b13 .int 0 (fun k => .int ((fun _ => (0 : Int32)) k)) := by have q := AV.new A13; exact q
  refine Go.via st13 ?_
  show Go p e below _ (T13.setTop (mkF m 31 #[.val (.ref o0), .val (.ref o1), .unset, .unset] [(.ref b13), (.ref o0)]))
  obtain ⟨T15, h15, X15, e15, W15, st15⟩ := putF X13 hx hZ hown (host := "") (Or.inl (hw _ (List.mem_of_getElem? (i := 47) rfl))) Via.refl e13 c14_3 c14_0 (Or.inr ⟨(hw _ (List.mem_of_getElem? (i := 48) rfl)), rfl, hnm⟩) (hw _ (List.mem_of_getElem? (i := 2) rfl)) (ty := (.array .int)) (by decide) rfl rfl (g := (mkF m 31 #[.val (.ref o0), .val (.ref o1), .unset, .unset] [(.ref b13), (.ref o0)])) rfl rfl (hb hby d1_31)
  have N15 := Fr.snoc X15 N11 ha4
  have c16_0 := c14_0.wr W15
  have c16_1 := c14_1.other W15 (Or.inr (slot_ne (Or.inr (hw _ (List.mem_of_getElem? (i := 35) rfl))) (Or.inr (hw _ (List.mem_of_getElem? (i := 48) rfl))) (by decide) (t := (.object "java/util/List")) (t' := (.array .int)) (by decide) (by decide)))
  have c16_2 := c14_2.other W15 (Or.inr (slot_ne (Or.inr (hw _ (List.mem_of_getElem? (i := 46) rfl))) (Or.inr (hw _ (List.mem_of_getElem? (i := 48) rfl))) (by decide) (t := (.array .int)) (t' := (.array .int)) (by decide) (by decide)))
  have c16_5 := c14_5.other W15 (Ne.symm hne_o0_o1)
  have c16_6 := c14_6.wr W15
  have c16_7 := c14_7.wr W15
  have c16_9 := c14_9.wr W15
  have c16_10 := c14_10.other W15 (Or.inl (Ne.symm ne_o0_b2))
  have c16_11 := c14_11.other W15 (Or.inl (Ne.symm ne_o0_b2))
  have c16_13 := c14_13.other W15 (Ne.symm ne_o0_b8)
  have c16_14 := c14_14.wr W15
  have c16_16 := B13.wr W15
  have c16_17 := V13.other W15 (Ne.symm ne_o0_b13)
  have K15 : Keep h0 h15 [o0] := K13.wr W15 (Or.inl (by simp))
  have Z15 : n0 ≤ h15.size := Nat.le_trans Z13 (Keep.of_wr W15).1
  have Fw15 := c14_3.same W15
  refine Go.via st15 ?_
  show Go p e below _ (T15.setTop (mkF m 34 #[.val (.ref o0), .val (.ref o1), .unset, .unset] []))
  refine Go.via (T' := T15.setTop (mkF m 65 #[.val (.ref o0), .val (.ref o1), .val (.int (0 : Int32)), .val (.int (0 : Int32))] [])) (fun tZ kZ => ?_) ?_
  · show Steps p.tables e below (T15.setTop (mkF m 34 #[.val (.ref o0), .val (.ref o1), .unset, .unset] [])) _
    refine XS.iconst X15.here hx rfl (hb hby d1_34) ?_
    show Steps p.tables e below (T15.setTop (mkF m 35 #[.val (.ref o0), .val (.ref o1), .unset, .unset] [(.int (0 : Int32))])) _
    refine XS.istoreN X15.here hx rfl (hb hby d1_35) rfl (l' := #[.val (.ref o0), .val (.ref o1), .val (.int (0 : Int32)), .unset]) rfl ?_
    show Steps p.tables e below (T15.setTop (mkF m 36 #[.val (.ref o0), .val (.ref o1), .val (.int (0 : Int32)), .unset] [])) _
    refine XS.iconst X15.here hx rfl (hb hby d1_36) ?_
    show Steps p.tables e below (T15.setTop (mkF m 37 #[.val (.ref o0), .val (.ref o1), .val (.int (0 : Int32)), .unset] [(.int (0 : Int32))])) _
    refine XS.istoreN X15.here hx rfl (hb hby d1_37) rfl (l' := #[.val (.ref o0), .val (.ref o1), .val (.int (0 : Int32)), .val (.int (0 : Int32))]) rfl ?_
    show Steps p.tables e below (T15.setTop (mkF m 38 #[.val (.ref o0), .val (.ref o1), .val (.int (0 : Int32)), .val (.int (0 : Int32))] [])) _
    refine XS.iloadN X15.here hx rfl (hb hby d1_38) rfl ?_
    show Steps p.tables e below (T15.setTop (mkF m 39 #[.val (.ref o0), .val (.ref o1), .val (.int (0 : Int32)), .val (.int (0 : Int32))] [(.int (0 : Int32))])) _
    refine XS.aloadN X15.here hx rfl (hb hby d1_39) rfl rfl ?_
    show Steps p.tables e below (T15.setTop (mkF m 40 #[.val (.ref o0), .val (.ref o1), .val (.int (0 : Int32)), .val (.int (0 : Int32))] [(.ref o1), (.int (0 : Int32))])) _
    refine AV.len c16_5 X15 hx hZ e15 (hb hby d1_40) ?_
    show Steps p.tables e below (T15.setTop (mkF m 41 #[.val (.ref o0), .val (.ref o1), .val (.int (0 : Int32)), .val (.int (0 : Int32))] [(.int (0 : Int32)), (.int (0 : Int32))])) _
    refine XS.icmpYes X15.here hx rfl (pc0 := 41) (pc' := 65) rfl (hb hby d1_41) rfl (flt (by decide)).2.1 (by decide) (by decide) ?_
    show Steps p.tables e below (T15.setTop (mkF m 65 #[.val (.ref o0), .val (.ref o1), .val (.int (0 : Int32)), .val (.int (0 : Int32))] [])) _
    exact kZ
  refine Go.retV X15 hx Bd.notSynchronized Bd.returns (hb hby d1_65) (by decide) (by decide) ?_
  rw [e15]
  exact ⟨rfl, N15, b8, sz_b8, K15, c16_0, c16_2, c16_5, c16_6, c16_7, c16_13, c16_14⟩
theorem d6_0 : decode prog_52_method_14_code 0 = .ok (.aload_n 0, 1) := by decide +kernel
theorem d6_1 : decode prog_52_method_14_code 1 = .ok (.getfield 22, 3) := by decide +kernel
theorem d6_4 : decode prog_52_method_14_code 4 = .ok (.astore_n 1, 1) := by decide +kernel
theorem d6_5 : decode prog_52_method_14_code 5 = .ok (.aload_n 1, 1) := by decide +kernel
theorem d6_6 : decode prog_52_method_14_code 6 = .ok (.arraylength, 1) := by decide +kernel
theorem d6_7 : decode prog_52_method_14_code 7 = .ok (.istore_n 2, 1) := by decide +kernel
theorem d6_8 : decode prog_52_method_14_code 8 = .ok (.iconst 0, 1) := by decide +kernel
theorem d6_9 : decode prog_52_method_14_code 9 = .ok (.istore_n 3, 1) := by decide +kernel
theorem d6_10 : decode prog_52_method_14_code 10 = .ok (.iload_n 3, 1) := by decide +kernel
theorem d6_11 : decode prog_52_method_14_code 11 = .ok (.iload_n 2, 1) := by decide +kernel
theorem d6_12 : decode prog_52_method_14_code 12 = .ok (.if_icmp .ge 22, 3) := by decide +kernel
theorem d6_34 : decode prog_52_method_14_code 34 = .ok (.iconst 1, 1) := by decide +kernel
theorem d6_35 : decode prog_52_method_14_code 35 = .ok (.ireturn, 1) := by decide +kernel
def f6n0 (o0 : Addr) (cA : Addr) (fF : Nat → Int32) : Int32 := (1 : Int32)
def Q6n0 (o0 : Addr) (cA : Addr) (fF : Nat → Int32) (h0 : Heap) (n0 : Nat) (v : Option Value) (h : Heap) (L : List Loc) : Prop := v = some (.int (f6n0 o0 cA fF)) ∧ Fr n0 L ∧ h = h0
theorem ef_6_a (m : MethodId) (x0 : Addr) : entryFrame m #[(.ref x0)] 5 = mkF m 0 #[.val (.ref x0), .unset, .unset, .unset, .unset] [] := by first | (simp [entryFrame, mkF, argsToLocals, Value.category]; done) | rfl
set_option maxRecDepth 65536 in
set_option maxHeartbeats 40000000 in
theorem rm6n0 (l : Launch) (Z : State) (a0 : Array Value) (hw : ∀ d ∈ tables_1, d.before a0 Z = true) (ws : List Jvm.Cond) (o0 : Addr) (cA : Addr) (fF : Nat → Int32) (h0 : Heap) (n0 : Nat) (Z0 : n0 ≤ h0.size) (ha0 : Fld Z h0 o0 "com/example/ltlconv/ltlconv/dra/RabinDraft" "infiniteCounts" "[I" (.ref cA)) (ha1 : AV Z h0 cA .int 0 (fun k => .int (fF k))) :
    MetFree l (⟨"com/example/ltlconv/ltlconv/dra/RabinDraft", "isRabin", "()Z"⟩ : MethodName) (head1 (Jvm.Cond.code (⟨"com/example/ltlconv/ltlconv/dra/RabinDraft", "isRabin", "()Z"⟩ : MethodName) prog_52_method_14_code 5 (some .boolean) :: ws) ({ frames := 0, cells := 0, slots := 0, locals := 0 } : Room)) (fun a U => a = #[(.ref o0)] ∧ Z.Warmed39 U.vm ∧ U.heap = h0) (fun _ _ _ _ _ => True) (fun _ U o U' => ∃ v L, o = .returned v ∧ Q6n0 o0 cA fF h0 n0 v U'.heap L ∧ FrameEnd U o U' L ({ frames := 0, cells := 0, slots := 0, locals := 0 } : Room).cells ({ frames := 0, cells := 0, slots := 0, locals := 0 } : Room).slots) := by
  refine MetFree.of_bodySF (plainFor_of_name pn_3) hisR ?_
  intro p e s m args below meth c s₁ Bd hml0 hP hK
  obtain ⟨rfl, hZ, hh⟩ := hP
  have hx := Bd.exec
  have hby := Bd.bytes
  have hml : c.maxLocals = 5 := hml0
  have hown : s.vm.findClass "com/example/ltlconv/ltlconv/dra/RabinDraft" = some m.cls := findClass_of_methodNamed Bd.named
  have hnm := (name_of_methodNamed Bd.named Bd.method).1
  have X0 : Stand p l e ({ frames := 0, cells := 0, slots := 0, locals := 0 } : Room) s m #[(.ref o0)] below meth c s₁ [] 0 0 := Stand.of_body Bd
  have e0 : s₁.heap = h0 := by rw [← hh, Bd.state]; rfl
  have N0 := Fr.nil n0
  refine Go.into (P := fun oo uu => ∃ v L, oo = .returned v ∧ Q6n0 o0 cA fF h0 n0 v uu.heap L ∧ FrameEnd s oo uu L ({ frames := 0, cells := 0, slots := 0, locals := 0 } : Room).cells ({ frames := 0, cells := 0, slots := 0, locals := 0 } : Room).slots) (ef_6_a m o0) ?_
  show Go p e below _ (s₁.setTop (mkF m 0 #[.val (.ref o0), .unset, .unset, .unset, .unset] []))
  refine Go.via (T' := s₁.setTop (mkF m 1 #[.val (.ref o0), .unset, .unset, .unset, .unset] [(.ref o0)])) (fun tZ kZ => ?_) ?_
  · show Steps p.tables e below (s₁.setTop (mkF m 0 #[.val (.ref o0), .unset, .unset, .unset, .unset] [])) _
    refine XS.aloadN X0.here hx rfl (hb hby d6_0) rfl rfl ?_
    show Steps p.tables e below (s₁.setTop (mkF m 1 #[.val (.ref o0), .unset, .unset, .unset, .unset] [(.ref o0)])) _
    exact kZ
  obtain ⟨T1, X1, e1, st1⟩ := getF X0 hx hZ hown (host := "") (Or.inl (hw _ (List.mem_of_getElem? (i := 45) rfl))) Via.refl e0 ha0 (g := (mkF m 1 #[.val (.ref o0), .unset, .unset, .unset, .unset] [(.ref o0)])) rfl rfl (hb hby d6_1)
  refine Go.via st1 ?_
  show Go p e below _ (T1.setTop (mkF m 4 #[.val (.ref o0), .unset, .unset, .unset, .unset] [(.ref cA)]))
  refine Go.via (T' := T1.setTop (mkF m 35 #[.val (.ref o0), .val (.ref cA), .val (.int (0 : Int32)), .val (.int (0 : Int32)), .unset] [(.int (1 : Int32))])) (fun tZ kZ => ?_) ?_
  · show Steps p.tables e below (T1.setTop (mkF m 4 #[.val (.ref o0), .unset, .unset, .unset, .unset] [(.ref cA)])) _
    refine XS.astoreN X1.here hx rfl (hb hby d6_4) rfl rfl (l' := #[.val (.ref o0), .val (.ref cA), .unset, .unset, .unset]) rfl ?_
    show Steps p.tables e below (T1.setTop (mkF m 5 #[.val (.ref o0), .val (.ref cA), .unset, .unset, .unset] [])) _
    refine XS.aloadN X1.here hx rfl (hb hby d6_5) rfl rfl ?_
    show Steps p.tables e below (T1.setTop (mkF m 6 #[.val (.ref o0), .val (.ref cA), .unset, .unset, .unset] [(.ref cA)])) _
    refine AV.len ha1 X1 hx hZ e1 (hb hby d6_6) ?_
    show Steps p.tables e below (T1.setTop (mkF m 7 #[.val (.ref o0), .val (.ref cA), .unset, .unset, .unset] [(.int (0 : Int32))])) _
    refine XS.istoreN X1.here hx rfl (hb hby d6_7) rfl (l' := #[.val (.ref o0), .val (.ref cA), .val (.int (0 : Int32)), .unset, .unset]) rfl ?_
    show Steps p.tables e below (T1.setTop (mkF m 8 #[.val (.ref o0), .val (.ref cA), .val (.int (0 : Int32)), .unset, .unset] [])) _
    refine XS.iconst X1.here hx rfl (hb hby d6_8) ?_
    show Steps p.tables e below (T1.setTop (mkF m 9 #[.val (.ref o0), .val (.ref cA), .val (.int (0 : Int32)), .unset, .unset] [(.int (0 : Int32))])) _
    refine XS.istoreN X1.here hx rfl (hb hby d6_9) rfl (l' := #[.val (.ref o0), .val (.ref cA), .val (.int (0 : Int32)), .val (.int (0 : Int32)), .unset]) rfl ?_
    show Steps p.tables e below (T1.setTop (mkF m 10 #[.val (.ref o0), .val (.ref cA), .val (.int (0 : Int32)), .val (.int (0 : Int32)), .unset] [])) _
    refine XS.iloadN X1.here hx rfl (hb hby d6_10) rfl ?_
    show Steps p.tables e below (T1.setTop (mkF m 11 #[.val (.ref o0), .val (.ref cA), .val (.int (0 : Int32)), .val (.int (0 : Int32)), .unset] [(.int (0 : Int32))])) _
    refine XS.iloadN X1.here hx rfl (hb hby d6_11) rfl ?_
    show Steps p.tables e below (T1.setTop (mkF m 12 #[.val (.ref o0), .val (.ref cA), .val (.int (0 : Int32)), .val (.int (0 : Int32)), .unset] [(.int (0 : Int32)), (.int (0 : Int32))])) _
    refine XS.icmpYes X1.here hx rfl (pc0 := 12) (pc' := 34) rfl (hb hby d6_12) rfl (flt (by decide)).2.1 (by decide) (by decide) ?_
    show Steps p.tables e below (T1.setTop (mkF m 34 #[.val (.ref o0), .val (.ref cA), .val (.int (0 : Int32)), .val (.int (0 : Int32)), .unset] [])) _
    refine XS.iconst X1.here hx rfl (hb hby d6_34) ?_
    show Steps p.tables e below (T1.setTop (mkF m 35 #[.val (.ref o0), .val (.ref cA), .val (.int (0 : Int32)), .val (.int (0 : Int32)), .unset] [(.int (1 : Int32))])) _
    exact kZ
  refine Go.retN X1 hx Bd.notSynchronized (t := .boolean) Bd.returns (by simp) (hb hby d6_35) (by decide) (by decide) ?_
  refine ⟨?_, N0, e1⟩
  show some ((Value.int (nar .boolean (1 : Int32))) : Value) = some (.int (f6n0 o0 cA fF))
  rfl
theorem d1_44 : decode prog_52_method_1_code 44 = .ok (.aload_n 0, 1) := by decide +kernel
theorem d1_45 : decode prog_52_method_1_code 45 = .ok (.getfield 25, 3) := by decide +kernel
theorem d1_48 : decode prog_52_method_1_code 48 = .ok (.iload_n 3, 1) := by decide +kernel
theorem d1_49 : decode prog_52_method_1_code 49 = .ok (.iload_n 2, 1) := by decide +kernel
theorem d1_50 : decode prog_52_method_1_code 50 = .ok (.iastore, 1) := by decide +kernel
theorem d1_51 : decode prog_52_method_1_code 51 = .ok (.iload_n 2, 1) := by decide +kernel
theorem d1_52 : decode prog_52_method_1_code 52 = .ok (.iconst 1, 1) := by decide +kernel
theorem d1_53 : decode prog_52_method_1_code 53 = .ok (.aload_n 1, 1) := by decide +kernel
theorem d1_54 : decode prog_52_method_1_code 54 = .ok (.iload_n 3, 1) := by decide +kernel
theorem d1_55 : decode prog_52_method_1_code 55 = .ok (.iaload, 1) := by decide +kernel
theorem d1_56 : decode prog_52_method_1_code 56 = .ok (.iadd, 1) := by decide +kernel
theorem d1_57 : decode prog_52_method_1_code 57 = .ok (.iadd, 1) := by decide +kernel
theorem d1_58 : decode prog_52_method_1_code 58 = .ok (.istore_n 2, 1) := by decide +kernel
theorem d1_59 : decode prog_52_method_1_code 59 = .ok (.iinc 3 1, 3) := by decide +kernel
theorem d1_62 : decode prog_52_method_1_code 62 = .ok (.goto (-24), 3) := by decide +kernel
def Q1n1 (Z : State) (o0 : Addr) (o1 : Addr) (fF : Nat → Int32) (aD : Addr) (h0 : Heap) (n0 : Nat) (v : Option Value) (h : Heap) (L : List Loc) : Prop := v = none ∧ Fr n0 L ∧ ∃ b8 : Addr, h0.size ≤ b8 ∧ Keep h0 h [o0] ∧ Exa Z h o0 "com/example/ltlconv/ltlconv/dra/RabinDraft" ∧ Fld Z h o0 "com/example/ltlconv/ltlconv/dra/RabinDraft" "infiniteCounts" "[I" (.ref b8) ∧ AV Z h o1 .int 1 (fun k => .int (fF k)) ∧ Exa Z h o1 "[I" ∧ Sta Z h "java/util/ArrayList" "DEFAULTCAPACITY_EMPTY_ELEMENTDATA" "[Ljava/lang/Object;" (.ref aD) ∧ AV Z h b8 .int 1 (fun k => .int (fF k)) ∧ Exa Z h b8 "[I"
set_option maxRecDepth 65536 in
set_option maxHeartbeats 40000000 in
theorem rm1n1 (l : Launch) (Z : State) (a0 : Array Value) (hw : ∀ d ∈ tables_1, d.before a0 Z = true) (ws : List Jvm.Cond) (o0 : Addr) (o1 : Addr) (fF : Nat → Int32) (aD : Addr) (h0 : Heap) (n0 : Nat) (Z0 : n0 ≤ h0.size) (ha0 : Exa Z h0 o0 "com/example/ltlconv/ltlconv/dra/RabinDraft") (ha1 : Fld Z h0 o0 "com/example/ltlconv/ltlconv/dra/RabinDraft" "transitions" "Ljava/util/List;" .null) (ha2 : Fld Z h0 o0 "com/example/ltlconv/ltlconv/dra/RabinDraft" "infiniteCounts" "[I" .null) (ha3 : Fld Z h0 o0 "com/example/ltlconv/ltlconv/dra/RabinDraft" "finiteSets" "[I" .null) (ha4 : n0 ≤ o0) (ha5 : AV Z h0 o1 .int 1 (fun k => .int (fF k))) (ha6 : Exa Z h0 o1 "[I") (ha7 : Sta Z h0 "java/util/ArrayList" "DEFAULTCAPACITY_EMPTY_ELEMENTDATA" "[Ljava/lang/Object;" (.ref aD)) (hne_o0_o1 : o0 ≠ o1) :
    MetFree l (⟨"com/example/ltlconv/ltlconv/dra/RabinDraft", "<init>", "([I)V"⟩ : MethodName) (head1 (Jvm.Cond.code (⟨"com/example/ltlconv/ltlconv/dra/RabinDraft", "<init>", "([I)V"⟩ : MethodName) prog_52_method_1_code 4 none :: ws) ({ frames := 4, cells := 3, slots := 5, locals := 50 } : Room)) (fun a U => a = #[(.ref o0), (.ref o1)] ∧ Z.Warmed39 U.vm ∧ U.heap = h0) (fun _ _ _ _ _ => True) (fun _ U o U' => ∃ v L, o = .returned v ∧ Q1n1 Z o0 o1 fF aD h0 n0 v U'.heap L ∧ FrameEnd U o U' L ({ frames := 4, cells := 3, slots := 5, locals := 50 } : Room).cells ({ frames := 4, cells := 3, slots := 5, locals := 50 } : Room).slots) := by
  refine MetFree.of_bodySF (plainFor_of_name pn_3) hisR ?_
  intro p e s m args below meth c s₁ Bd hml0 hP hK
  obtain ⟨rfl, hZ, hh⟩ := hP
  have hx := Bd.exec
  have hby := Bd.bytes
  have hml : c.maxLocals = 4 := hml0
  have hown : s.vm.findClass "com/example/ltlconv/ltlconv/dra/RabinDraft" = some m.cls := findClass_of_methodNamed Bd.named
  have hnm := (name_of_methodNamed Bd.named Bd.method).1
  have X0 : Stand p l e ({ frames := 4, cells := 3, slots := 5, locals := 50 } : Room) s m #[(.ref o0), (.ref o1)] below meth c s₁ [] 0 0 := Stand.of_body Bd
  have e0 : s₁.heap = h0 := by rw [← hh, Bd.state]; rfl
  have N0 := Fr.nil n0
  refine Go.into (P := fun oo uu => ∃ v L, oo = .returned v ∧ Q1n1 Z o0 o1 fF aD h0 n0 v uu.heap L ∧ FrameEnd s oo uu L ({ frames := 4, cells := 3, slots := 5, locals := 50 } : Room).cells ({ frames := 4, cells := 3, slots := 5, locals := 50 } : Room).slots) (ef_1_aa m o0 o1) ?_
  show Go p e below _ (s₁.setTop (mkF m 0 #[.val (.ref o0), .val (.ref o1), .unset, .unset] []))
  refine Go.via (T' := s₁.setTop (mkF m 1 #[.val (.ref o0), .val (.ref o1), .unset, .unset] [(.ref o0)])) (fun tZ kZ => ?_) ?_
  · show Steps p.tables e below (s₁.setTop (mkF m 0 #[.val (.ref o0), .val (.ref o1), .unset, .unset] [])) _
    refine XS.aloadN X0.here hx rfl (hb hby d1_0) rfl rfl ?_
    show Steps p.tables e below (s₁.setTop (mkF m 1 #[.val (.ref o0), .val (.ref o1), .unset, .unset] [(.ref o0)])) _
    exact kZ
  obtain ⟨T1, X1, e1, st1⟩ := initO X0 hx hZ hown (hw _ (List.mem_of_getElem? (i := 7) rfl)) (hw _ (List.mem_of_getElem? (i := 8) rfl)) (hw _ (List.mem_of_getElem? (i := 9) rfl)) e0 (g := (mkF m 1 #[.val (.ref o0), .val (.ref o1), .unset, .unset] [(.ref o0)])) rfl (by rw [hml]; rfl) rfl (hb hby d1_1) (by decide) (W := 0) (by show 2 * 0 + _ ≤ _; exact Nat.le_of_eq rfl) (by decide)
  refine Go.via st1 ?_
  show Go p e below _ (T1.setTop (mkF m 4 #[.val (.ref o0), .val (.ref o1), .unset, .unset] []))
  refine Go.via (T' := T1.setTop (mkF m 5 #[.val (.ref o0), .val (.ref o1), .unset, .unset] [(.ref o0)])) (fun tZ kZ => ?_) ?_
  · show Steps p.tables e below (T1.setTop (mkF m 4 #[.val (.ref o0), .val (.ref o1), .unset, .unset] [])) _
    refine XS.aloadN X1.here hx rfl (hb hby d1_4) rfl rfl ?_
    show Steps p.tables e below (T1.setTop (mkF m 5 #[.val (.ref o0), .val (.ref o1), .unset, .unset] [(.ref o0)])) _
    exact kZ
  obtain ⟨T2, h2, X2, e2, E2, A2, D2, -, st2⟩ := newO X1 hx hZ hown (hw _ (List.mem_of_getElem? (i := 10) rfl)) (hw _ (List.mem_of_getElem? (i := 11) rfl)) (hw _ (List.mem_of_getElem? (i := 12) rfl)) e1 (g := (mkF m 5 #[.val (.ref o0), .val (.ref o1), .unset, .unset] [(.ref o0)])) rfl (hb hby d1_5) (by decide) (by decide)
  obtain ⟨b2, g2⟩ : ∃ z, z = h0.size := ⟨_, rfl⟩
  rw [← g2] at A2 D2 st2
  have g_b2 : n0 ≤ b2 := Nat.le_trans Z0 (Nat.le_of_eq g2.symm)
  have sz_b2 : h0.size ≤ b2 := Nat.le_trans ((Keep.refl h0 [o0])).1 (Nat.le_of_eq g2.symm)
  have ne_o0_b2 : o0 ≠ b2 := Nat.ne_of_lt (Nat.lt_of_lt_of_le ha0.lt (Nat.le_of_eq g2.symm))
  have ne_o1_b2 : o1 ≠ b2 := Nat.ne_of_lt (Nat.lt_of_lt_of_le ha5.lt (Nat.le_of_eq g2.symm))
  have c3_0 := ha0.ext E2
  have c3_1 := ha1.ext E2
  have c3_2 := ha2.ext E2
  have c3_3 := ha3.ext E2
  have c3_5 := ha5.ext E2
  have c3_6 := ha6.ext E2
  have c3_7 := ha7.ext E2
  have K2 : Keep h0 h2 [o0] := (Keep.refl h0 [o0]).ext E2
  have Z2 : n0 ≤ h2.size := Nat.le_trans Z0 E2.1
  have F2_modCount : Fld Z h2 b2 "java/util/AbstractList" "modCount" "I" (.int (0 : Int32)) := D2 (Or.inl (hw _ (List.mem_of_getElem? (i := 30) rfl))) (ty := .int) (by decide)
  have F2_elementData : Fld Z h2 b2 "java/util/ArrayList" "elementData" "[Ljava/lang/Object;" .null := D2 (Or.inl (hw _ (List.mem_of_getElem? (i := 33) rfl))) (ty := (.array (.object "java/lang/Object"))) (by decide)
  refine Go.via st2 ?_
  show Go p e below _ (T2.setTop (mkF m 8 #[.val (.ref o0), .val (.ref o1), .unset, .unset] [(.ref b2), (.ref o0)]))
  refine Go.via (T' := T2.setTop (mkF m 9 #[.val (.ref o0), .val (.ref o1), .unset, .unset] [(.ref b2), (.ref b2), (.ref o0)])) (fun tZ kZ => ?_) ?_
  · show Steps p.tables e below (T2.setTop (mkF m 8 #[.val (.ref o0), .val (.ref o1), .unset, .unset] [(.ref b2), (.ref o0)])) _
    refine XS.dup X2.here hx rfl (hb hby d1_8) rfl rfl ?_
    show Steps p.tables e below (T2.setTop (mkF m 9 #[.val (.ref o0), .val (.ref o1), .unset, .unset] [(.ref b2), (.ref b2), (.ref o0)])) _
    exact kZ
  obtain ⟨_, _, ⟨T4, L4, k4, n4⟩, -, X4, ⟨Lc4, hQ4, l4, y4, z4⟩, st4⟩ := X2.specialBack hx (y := (⟨"java/util/ArrayList", "<init>", "()V"⟩ : MethodName)) rfl hown (mvT hZ (hw _ (List.mem_of_getElem? (i := 13) rfl))) (mvT hZ (hw _ (List.mem_of_getElem? (i := 14) rfl))) (mvT hZ (hw _ (List.mem_of_getElem? (i := 15) rfl))) (by decide) (backOf (W := 2) (rm3 l Z a0 hw [] b2 aD h2 n0 Z2 A2 F2_modCount F2_elementData g_b2 c3_7) hZ (hw _ (List.mem_of_getElem? (i := 15) rfl)) (hw _ (List.mem_of_getElem? (i := 12) rfl)) (by decide) (by decide)) (g := (mkF m 9 #[.val (.ref o0), .val (.ref o1), .unset, .unset] [(.ref b2), (.ref b2), (.ref o0)])) rfl (by rw [hml]; rfl) (Steps.refl _) (a := b2) (argsL := []) (rest := [(.ref b2), (.ref o0)]) (lenOf pd_1 rfl) rfl (by show 2 * 0 + _ ≤ _; exact Nat.le_of_eq rfl) (hb hby d1_9) (fun _ _ => ⟨rfl, e2, (by decide : 0 + 1 + 0 ≤ _), (by decide : 0 + 3 + 0 ≤ _)⟩)
  dsimp only [Pt.U, Pt.locs, Pt.cells, Pt.slots] at X4 l4 y4 z4 st4 hQ4
  subst l4 y4 z4
  obtain ⟨rfl, N4q, Kq4, f4_0, f4_1, f4_2, f4_3⟩ := hQ4
  have c5_0 := c3_0.keep Kq4
  have c5_1 := c3_1.keep Kq4 (ninS ne_o0_b2 nin0)
  have c5_2 := c3_2.keep Kq4 (ninS ne_o0_b2 nin0)
  have c5_3 := c3_3.keep Kq4 (ninS ne_o0_b2 nin0)
  have c5_5 := c3_5.keep Kq4 (ninS ne_o1_b2 nin0)
  have c5_6 := c3_6.keep Kq4
  have K4 : Keep h0 T4.heap [o0] := K2.trans Kq4 (allS (Or.inr sz_b2) all0)
  have Z4 : n0 ≤ T4.heap.size := Nat.le_trans Z2 Kq4.1
  have N4 := Fr.app N0 N4q
  refine Go.via (fun t k => st4.trans k) ?_
  show Go p e below _ (T4.setTop (mkF m 12 #[.val (.ref o0), .val (.ref o1), .unset, .unset] [(.ref b2), (.ref o0)]))
  obtain ⟨T6, h6, X6, e6, W6, st6⟩ := putF X4 hx hZ hown (host := "") (Or.inl (hw _ (List.mem_of_getElem? (i := 34) rfl))) Via.refl rfl c5_1 c5_0 (Or.inr ⟨(hw _ (List.mem_of_getElem? (i := 35) rfl)), rfl, hnm⟩) (hw _ (List.mem_of_getElem? (i := 2) rfl)) (ty := (.object "java/util/List")) (by decide) rfl rfl (g := (mkF m 12 #[.val (.ref o0), .val (.ref o1), .unset, .unset] [(.ref b2), (.ref o0)])) rfl rfl (hb hby d1_12)
  have N6 := Fr.snoc X6 N4 ha4
  have c7_0 := c5_0.wr W6
  have c7_2 := c5_2.other W6 (Or.inr (slot_ne (Or.inr (hw _ (List.mem_of_getElem? (i := 46) rfl))) (Or.inr (hw _ (List.mem_of_getElem? (i := 35) rfl))) (by decide) (t := (.array .int)) (t' := (.object "java/util/List")) (by decide) (by decide)))
  have c7_3 := c5_3.other W6 (Or.inr (slot_ne (Or.inr (hw _ (List.mem_of_getElem? (i := 48) rfl))) (Or.inr (hw _ (List.mem_of_getElem? (i := 35) rfl))) (by decide) (t := (.array .int)) (t' := (.object "java/util/List")) (by decide) (by decide)))
  have c7_5 := c5_5.other W6 (Ne.symm hne_o0_o1)
  have c7_6 := c5_6.wr W6
  have c7_7 := f4_3.wr W6
  have c7_9 := f4_0.wr W6
  have c7_10 := f4_1.other W6 (Or.inl (Ne.symm ne_o0_b2))
  have c7_11 := f4_2.other W6 (Or.inl (Ne.symm ne_o0_b2))
  have K6 : Keep h0 h6 [o0] := K4.wr W6 (Or.inl (by simp))
  have Z6 : n0 ≤ h6.size := Nat.le_trans Z4 (Keep.of_wr W6).1
  have Fw6 := c5_1.same W6
  refine Go.via st6 ?_
  show Go p e below _ (T6.setTop (mkF m 15 #[.val (.ref o0), .val (.ref o1), .unset, .unset] []))
  refine Go.via (T' := T6.setTop (mkF m 17 #[.val (.ref o0), .val (.ref o1), .unset, .unset] [(.ref o1), (.ref o0)])) (fun tZ kZ => ?_) ?_
  · show Steps p.tables e below (T6.setTop (mkF m 15 #[.val (.ref o0), .val (.ref o1), .unset, .unset] [])) _
    refine XS.aloadN X6.here hx rfl (hb hby d1_15) rfl rfl ?_
    show Steps p.tables e below (T6.setTop (mkF m 16 #[.val (.ref o0), .val (.ref o1), .unset, .unset] [(.ref o0)])) _
    refine XS.aloadN X6.here hx rfl (hb hby d1_16) rfl rfl ?_
    show Steps p.tables e below (T6.setTop (mkF m 17 #[.val (.ref o0), .val (.ref o1), .unset, .unset] [(.ref o1), (.ref o0)])) _
    exact kZ
  obtain ⟨T8, h8, X8, e8, E8, V8, B8, st8⟩ := AV.clone c7_5 (fun _ _ => rfl) X6 hx hZ hown (hw _ (List.mem_of_getElem? (i := 36) rfl)) (hw _ (List.mem_of_getElem? (i := 37) rfl)) (hw _ (List.mem_of_getElem? (i := 41) rfl)) (hw _ (List.mem_of_getElem? (i := 39) rfl)) (hw _ (List.mem_of_getElem? (i := 40) rfl)) (hw _ (List.mem_of_getElem? (i := 42) rfl)) e6 c7_6 (g := (mkF m 17 #[.val (.ref o0), .val (.ref o1), .unset, .unset] [(.ref o1), (.ref o0)])) rfl (by rw [hml]; rfl) (rest := [(.ref o0)]) rfl (hb hby d1_17) (by decide) (W := 1) (cap := 1) (by show 2 * 0 + _ ≤ _; exact Nat.le_of_eq rfl) (by decide) (by decide) (by decide) (by decide)
  obtain ⟨b8, g8⟩ : ∃ z, z = h6.size := ⟨_, rfl⟩
  rw [← g8] at V8 B8 st8
  have g_b8 : n0 ≤ b8 := Nat.le_trans Z6 (Nat.le_of_eq g8.symm)
  have sz_b8 : h0.size ≤ b8 := Nat.le_trans (K6).1 (Nat.le_of_eq g8.symm)
  have ne_o0_b8 : o0 ≠ b8 := Nat.ne_of_lt (Nat.lt_of_lt_of_le c7_0.lt (Nat.le_of_eq g8.symm))
  have ne_o1_b8 : o1 ≠ b8 := Nat.ne_of_lt (Nat.lt_of_lt_of_le c7_5.lt (Nat.le_of_eq g8.symm))
  have ne_b2_b8 : b2 ≠ b8 := Nat.ne_of_lt (Nat.lt_of_lt_of_le c7_9.lt (Nat.le_of_eq g8.symm))
  have c9_0 := c7_0.ext E8
  have c9_1 := Fw6.ext E8
  have c9_2 := c7_2.ext E8
  have c9_3 := c7_3.ext E8
  have c9_5 := c7_5.ext E8
  have c9_6 := c7_6.ext E8
  have c9_7 := c7_7.ext E8
  have c9_9 := c7_9.ext E8
  have c9_10 := c7_10.ext E8
  have c9_11 := c7_11.ext E8
  have K8 : Keep h0 h8 [o0] := K6.ext E8
  have Z8 : n0 ≤ h8.size := Nat.le_trans Z6 E8.1
  refine Go.via st8 ?_
  show Go p e below _ (T8.setTop (mkF m 20 #[.val (.ref o0), .val (.ref o1), .unset, .unset] [(.ref b8), (.ref o0)]))
  obtain ⟨T10, X10, e10, st10⟩ := castY X8 hx hZ hown (hw _ (List.mem_of_getElem? (i := 43) rfl)) e8 (Ins.self B8) (g := (mkF m 20 #[.val (.ref o0), .val (.ref o1), .unset, .unset] [(.ref b8), (.ref o0)])) rfl rfl (hb hby d1_20)
  refine Go.via st10 ?_
  show Go p e below _ (T10.setTop (mkF m 23 #[.val (.ref o0), .val (.ref o1), .unset, .unset] [(.ref b8), (.ref o0)]))
  obtain ⟨T11, h11, X11, e11, W11, st11⟩ := putF X10 hx hZ hown (host := "") (Or.inl (hw _ (List.mem_of_getElem? (i := 45) rfl))) Via.refl e10 c9_2 c9_0 (Or.inr ⟨(hw _ (List.mem_of_getElem? (i := 46) rfl)), rfl, hnm⟩) (hw _ (List.mem_of_getElem? (i := 2) rfl)) (ty := (.array .int)) (by decide) rfl rfl (g := (mkF m 23 #[.val (.ref o0), .val (.ref o1), .unset, .unset] [(.ref b8), (.ref o0)])) rfl rfl (hb hby d1_23)
  have N11 := Fr.snoc X11 N6 ha4
  have c12_0 := c9_0.wr W11
  have c12_1 := c9_1.other W11 (Or.inr (slot_ne (Or.inr (hw _ (List.mem_of_getElem? (i := 35) rfl))) (Or.inr (hw _ (List.mem_of_getElem? (i := 46) rfl))) (by decide) (t := (.object "java/util/List")) (t' := (.array .int)) (by decide) (by decide)))
  have c12_3 := c9_3.other W11 (Or.inr (slot_ne (Or.inr (hw _ (List.mem_of_getElem? (i := 48) rfl))) (Or.inr (hw _ (List.mem_of_getElem? (i := 46) rfl))) (by decide) (t := (.array .int)) (t' := (.array .int)) (by decide) (by decide)))
  have c12_5 := c9_5.other W11 (Ne.symm hne_o0_o1)
  have c12_6 := c9_6.wr W11
  have c12_7 := c9_7.wr W11
  have c12_9 := c9_9.wr W11
  have c12_10 := c9_10.other W11 (Or.inl (Ne.symm ne_o0_b2))
  have c12_11 := c9_11.other W11 (Or.inl (Ne.symm ne_o0_b2))
  have c12_13 := V8.other W11 (Ne.symm ne_o0_b8)
  have c12_14 := B8.wr W11
  have K11 : Keep h0 h11 [o0] := K8.wr W11 (Or.inl (by simp))
  have Z11 : n0 ≤ h11.size := Nat.le_trans Z8 (Keep.of_wr W11).1
  have Fw11 := c9_2.same W11
  refine Go.via st11 ?_
  show Go p e below _ (T11.setTop (mkF m 26 #[.val (.ref o0), .val (.ref o1), .unset, .unset] []))
  refine Go.via (T' := T11.setTop (mkF m 29 #[.val (.ref o0), .val (.ref o1), .unset, .unset] [(.int (1 : Int32)), (.ref o0)])) (fun tZ kZ => ?_) ?_
  · show Steps p.tables e below (T11.setTop (mkF m 26 #[.val (.ref o0), .val (.ref o1), .unset, .unset] [])) _
    refine XS.aloadN X11.here hx rfl (hb hby d1_26) rfl rfl ?_
    show Steps p.tables e below (T11.setTop (mkF m 27 #[.val (.ref o0), .val (.ref o1), .unset, .unset] [(.ref o0)])) _
    refine XS.aloadN X11.here hx rfl (hb hby d1_27) rfl rfl ?_
    show Steps p.tables e below (T11.setTop (mkF m 28 #[.val (.ref o0), .val (.ref o1), .unset, .unset] [(.ref o1), (.ref o0)])) _
    refine AV.len c12_5 X11 hx hZ e11 (hb hby d1_28) ?_
    show Steps p.tables e below (T11.setTop (mkF m 29 #[.val (.ref o0), .val (.ref o1), .unset, .unset] [(.int (1 : Int32)), (.ref o0)])) _
    exact kZ
  obtain ⟨T13, h13, k13, X13, e13, E13, A13, B13, st13⟩ := newPE X11 hx hZ (hw _ (List.mem_of_getElem? (i := 0) rfl)) e11 (g := (mkF m 29 #[.val (.ref o0), .val (.ref o1), .unset, .unset] [(.int (1 : Int32)), (.ref o0)])) rfl (hb hby d1_29) rfl (by decide) (cap := 1) (by decide) (by decide) (by decide) (by decide) (ad := "[I") rfl
  obtain ⟨b13, g13⟩ : ∃ z, z = h11.size := ⟨_, rfl⟩
  rw [← g13] at A13 B13 st13
  have g_b13 : n0 ≤ b13 := Nat.le_trans Z11 (Nat.le_of_eq g13.symm)
  have sz_b13 : h0.size ≤ b13 := Nat.le_trans (K11).1 (Nat.le_of_eq g13.symm)
  have ne_o0_b13 : o0 ≠ b13 := Nat.ne_of_lt (Nat.lt_of_lt_of_le c12_0.lt (Nat.le_of_eq g13.symm))
  have ne_o1_b13 : o1 ≠ b13 := Nat.ne_of_lt (Nat.lt_of_lt_of_le c12_5.lt (Nat.le_of_eq g13.symm))
  have ne_b2_b13 : b2 ≠ b13 := Nat.ne_of_lt (Nat.lt_of_lt_of_le c12_9.lt (Nat.le_of_eq g13.symm))
  have ne_b8_b13 : b8 ≠ b13 := Nat.ne_of_lt (Nat.lt_of_lt_of_le c12_13.lt (Nat.le_of_eq g13.symm))
  have c14_0 := c12_0.ext E13
  have c14_1 := c12_1.ext E13
  have c14_2 := Fw11.ext E13
  have c14_3 := c12_3.ext E13
  have c14_5 := c12_5.ext E13
  have c14_6 := c12_6.ext E13
  have c14_7 := c12_7.ext E13
  have c14_9 := c12_9.ext E13
  have c14_10 := c12_10.ext E13
  have c14_11 := c12_11.ext E13
  have c14_13 := c12_13.ext E13
  have c14_14 := c12_14.ext E13
  have K13 : Keep h0 h13 [o0] := K11.ext E13
  have Z13 : n0 ≤ h13.size := Nat.le_trans Z11 E13.1
  have V13 : AV Z h13 b13 .int 1 (fun k => .int ((fun _ => (0 : Int32)) k)) := by have q := AV.new A13; exact q
  refine Go.via st13 ?_
  show Go p e below _ (T13.setTop (mkF m 31 #[.val (.ref o0), .val (.ref o1), .unset, .unset] [(.ref b13), (.ref o0)]))
  obtain ⟨T15, h15, X15, e15, W15, st15⟩ := putF X13 hx hZ hown (host := "") (Or.inl (hw _ (List.mem_of_getElem? (i := 47) rfl))) Via.refl e13 c14_3 c14_0 (Or.inr ⟨(hw _ (List.mem_of_getElem? (i := 48) rfl)), rfl, hnm⟩) (hw _ (List.mem_of_getElem? (i := 2) rfl)) (ty := (.array .int)) (by decide) rfl rfl (g := (mkF m 31 #[.val (.ref o0), .val (.ref o1), .unset, .unset] [(.ref b13), (.ref o0)])) rfl rfl (hb hby d1_31)
  have N15 := Fr.snoc X15 N11 ha4
  have c16_0 := c14_0.wr W15
  have c16_1 := c14_1.other W15 (Or.inr (slot_ne (Or.inr (hw _ (List.mem_of_getElem? (i := 35) rfl))) (Or.inr (hw _ (List.mem_of_getElem? (i := 48) rfl))) (by decide) (t := (.object "java/util/List")) (t' := (.array .int)) (by decide) (by decide)))
  have c16_2 := c14_2.other W15 (Or.inr (slot_ne (Or.inr (hw _ (List.mem_of_getElem? (i := 46) rfl))) (Or.inr (hw _ (List.mem_of_getElem? (i := 48) rfl))) (by decide) (t := (.array .int)) (t' := (.array .int)) (by decide) (by decide)))
  have c16_5 := c14_5.other W15 (Ne.symm hne_o0_o1)
  have c16_6 := c14_6.wr W15
  have c16_7 := c14_7.wr W15
  have c16_9 := c14_9.wr W15
  have c16_10 := c14_10.other W15 (Or.inl (Ne.symm ne_o0_b2))
  have c16_11 := c14_11.other W15 (Or.inl (Ne.symm ne_o0_b2))
  have c16_13 := c14_13.other W15 (Ne.symm ne_o0_b8)
  have c16_14 := c14_14.wr W15
  have c16_16 := B13.wr W15
  have c16_17 := V13.other W15 (Ne.symm ne_o0_b13)
  have K15 : Keep h0 h15 [o0] := K13.wr W15 (Or.inl (by simp))
  have Z15 : n0 ≤ h15.size := Nat.le_trans Z13 (Keep.of_wr W15).1
  have Fw15 := c14_3.same W15
  refine Go.via st15 ?_
  show Go p e below _ (T15.setTop (mkF m 34 #[.val (.ref o0), .val (.ref o1), .unset, .unset] []))
  refine Go.via (T' := T15.setTop (mkF m 45 #[.val (.ref o0), .val (.ref o1), .val (.int (0 : Int32)), .val (.int (0 : Int32))] [(.ref o0)])) (fun tZ kZ => ?_) ?_
  · show Steps p.tables e below (T15.setTop (mkF m 34 #[.val (.ref o0), .val (.ref o1), .unset, .unset] [])) _
    refine XS.iconst X15.here hx rfl (hb hby d1_34) ?_
    show Steps p.tables e below (T15.setTop (mkF m 35 #[.val (.ref o0), .val (.ref o1), .unset, .unset] [(.int (0 : Int32))])) _
    refine XS.istoreN X15.here hx rfl (hb hby d1_35) rfl (l' := #[.val (.ref o0), .val (.ref o1), .val (.int (0 : Int32)), .unset]) rfl ?_
    show Steps p.tables e below (T15.setTop (mkF m 36 #[.val (.ref o0), .val (.ref o1), .val (.int (0 : Int32)), .unset] [])) _
    refine XS.iconst X15.here hx rfl (hb hby d1_36) ?_
    show Steps p.tables e below (T15.setTop (mkF m 37 #[.val (.ref o0), .val (.ref o1), .val (.int (0 : Int32)), .unset] [(.int (0 : Int32))])) _
    refine XS.istoreN X15.here hx rfl (hb hby d1_37) rfl (l' := #[.val (.ref o0), .val (.ref o1), .val (.int (0 : Int32)), .val (.int (0 : Int32))]) rfl ?_
    show Steps p.tables e below (T15.setTop (mkF m 38 #[.val (.ref o0), .val (.ref o1), .val (.int (0 : Int32)), .val (.int (0 : Int32))] [])) _
    refine XS.iloadN X15.here hx rfl (hb hby d1_38) rfl ?_
    show Steps p.tables e below (T15.setTop (mkF m 39 #[.val (.ref o0), .val (.ref o1), .val (.int (0 : Int32)), .val (.int (0 : Int32))] [(.int (0 : Int32))])) _
    refine XS.aloadN X15.here hx rfl (hb hby d1_39) rfl rfl ?_
    show Steps p.tables e below (T15.setTop (mkF m 40 #[.val (.ref o0), .val (.ref o1), .val (.int (0 : Int32)), .val (.int (0 : Int32))] [(.ref o1), (.int (0 : Int32))])) _
    refine AV.len c16_5 X15 hx hZ e15 (hb hby d1_40) ?_
    show Steps p.tables e below (T15.setTop (mkF m 41 #[.val (.ref o0), .val (.ref o1), .val (.int (0 : Int32)), .val (.int (0 : Int32))] [(.int (1 : Int32)), (.int (0 : Int32))])) _
    refine XS.icmpNo X15.here hx rfl (hb hby d1_41) rfl (tlt (by decide)).2.1 ?_
    show Steps p.tables e below (T15.setTop (mkF m 44 #[.val (.ref o0), .val (.ref o1), .val (.int (0 : Int32)), .val (.int (0 : Int32))] [])) _
    refine XS.aloadN X15.here hx rfl (hb hby d1_44) rfl rfl ?_
    show Steps p.tables e below (T15.setTop (mkF m 45 #[.val (.ref o0), .val (.ref o1), .val (.int (0 : Int32)), .val (.int (0 : Int32))] [(.ref o0)])) _
    exact kZ
  obtain ⟨T17, X17, e17, st17⟩ := getF X15 hx hZ hown (host := "") (Or.inl (hw _ (List.mem_of_getElem? (i := 47) rfl))) Via.refl e15 Fw15 (g := (mkF m 45 #[.val (.ref o0), .val (.ref o1), .val (.int (0 : Int32)), .val (.int (0 : Int32))] [(.ref o0)])) rfl rfl (hb hby d1_45)
  refine Go.via st17 ?_
  show Go p e below _ (T17.setTop (mkF m 48 #[.val (.ref o0), .val (.ref o1), .val (.int (0 : Int32)), .val (.int (0 : Int32))] [(.ref b13)]))
  refine Go.via (T' := T17.setTop (mkF m 50 #[.val (.ref o0), .val (.ref o1), .val (.int (0 : Int32)), .val (.int (0 : Int32))] [(.int (0 : Int32)), (.int (0 : Int32)), (.ref b13)])) (fun tZ kZ => ?_) ?_
  · show Steps p.tables e below (T17.setTop (mkF m 48 #[.val (.ref o0), .val (.ref o1), .val (.int (0 : Int32)), .val (.int (0 : Int32))] [(.ref b13)])) _
    refine XS.iloadN X17.here hx rfl (hb hby d1_48) rfl ?_
    show Steps p.tables e below (T17.setTop (mkF m 49 #[.val (.ref o0), .val (.ref o1), .val (.int (0 : Int32)), .val (.int (0 : Int32))] [(.int (0 : Int32)), (.ref b13)])) _
    refine XS.iloadN X17.here hx rfl (hb hby d1_49) rfl ?_
    show Steps p.tables e below (T17.setTop (mkF m 50 #[.val (.ref o0), .val (.ref o1), .val (.int (0 : Int32)), .val (.int (0 : Int32))] [(.int (0 : Int32)), (.int (0 : Int32)), (.ref b13)])) _
    exact kZ
  obtain ⟨T18, h18, X18, e18, W18, V18, st18⟩ := AV.iastore c16_17 X17 hx hZ e17 (j := (0 : Int32)) (by decide) (Ls := #[.val (.ref o0), .val (.ref o1), .val (.int (0 : Int32)), .val (.int (0 : Int32))]) (rest := []) (hb hby d1_50) (x := (0 : Int32))
  have N18 := Fr.snoc X18 N15 g_b13
  have c19_0 := c16_0.wr W18
  have c19_1 := c16_1.other W18 (Or.inl ne_o0_b13)
  have c19_2 := c16_2.other W18 (Or.inl ne_o0_b13)
  have c19_3 := Fw15.other W18 (Or.inl ne_o0_b13)
  have c19_5 := c16_5.other W18 ne_o1_b13
  have c19_6 := c16_6.wr W18
  have c19_7 := c16_7.wr W18
  have c19_9 := c16_9.wr W18
  have c19_10 := c16_10.other W18 (Or.inl ne_b2_b13)
  have c19_11 := c16_11.other W18 (Or.inl ne_b2_b13)
  have c19_13 := c16_13.other W18 ne_b8_b13
  have c19_14 := c16_14.wr W18
  have c19_16 := c16_16.wr W18
  have K18 : Keep h0 h18 [o0] := K15.wr W18 (Or.inr sz_b13)
  have Z18 : n0 ≤ h18.size := Nat.le_trans Z15 (Keep.of_wr W18).1
  refine Go.via st18 ?_
  show Go p e below _ (T18.setTop (mkF m 51 #[.val (.ref o0), .val (.ref o1), .val (.int (0 : Int32)), .val (.int (0 : Int32))] []))
  refine Go.via (T' := T18.setTop (mkF m 65 #[.val (.ref o0), .val (.ref o1), .val (.int ((0 : Int32) + ((1 : Int32) + (fF (0 : Int32).toNatClampNeg)))), .val (.int (1 : Int32))] [])) (fun tZ kZ => ?_) ?_
  · show Steps p.tables e below (T18.setTop (mkF m 51 #[.val (.ref o0), .val (.ref o1), .val (.int (0 : Int32)), .val (.int (0 : Int32))] [])) _
    refine XS.iloadN X18.here hx rfl (hb hby d1_51) rfl ?_
    show Steps p.tables e below (T18.setTop (mkF m 52 #[.val (.ref o0), .val (.ref o1), .val (.int (0 : Int32)), .val (.int (0 : Int32))] [(.int (0 : Int32))])) _
    refine XS.iconst X18.here hx rfl (hb hby d1_52) ?_
    show Steps p.tables e below (T18.setTop (mkF m 53 #[.val (.ref o0), .val (.ref o1), .val (.int (0 : Int32)), .val (.int (0 : Int32))] [(.int (1 : Int32)), (.int (0 : Int32))])) _
    refine XS.aloadN X18.here hx rfl (hb hby d1_53) rfl rfl ?_
    show Steps p.tables e below (T18.setTop (mkF m 54 #[.val (.ref o0), .val (.ref o1), .val (.int (0 : Int32)), .val (.int (0 : Int32))] [(.ref o1), (.int (1 : Int32)), (.int (0 : Int32))])) _
    refine XS.iloadN X18.here hx rfl (hb hby d1_54) rfl ?_
    show Steps p.tables e below (T18.setTop (mkF m 55 #[.val (.ref o0), .val (.ref o1), .val (.int (0 : Int32)), .val (.int (0 : Int32))] [(.int (0 : Int32)), (.ref o1), (.int (1 : Int32)), (.int (0 : Int32))])) _
    refine AV.iaload c19_5 X18 hx hZ e18 (j := (0 : Int32)) (by decide) (hb hby d1_55) ?_
    show Steps p.tables e below (T18.setTop (mkF m 56 #[.val (.ref o0), .val (.ref o1), .val (.int (0 : Int32)), .val (.int (0 : Int32))] [(.int (fF (0 : Int32).toNatClampNeg)), (.int (1 : Int32)), (.int (0 : Int32))])) _
    refine XS.iadd X18.here hx rfl (hb hby d1_56) rfl ?_
    show Steps p.tables e below (T18.setTop (mkF m 57 #[.val (.ref o0), .val (.ref o1), .val (.int (0 : Int32)), .val (.int (0 : Int32))] [(.int ((1 : Int32) + (fF (0 : Int32).toNatClampNeg))), (.int (0 : Int32))])) _
    refine XS.iadd X18.here hx rfl (hb hby d1_57) rfl ?_
    show Steps p.tables e below (T18.setTop (mkF m 58 #[.val (.ref o0), .val (.ref o1), .val (.int (0 : Int32)), .val (.int (0 : Int32))] [(.int ((0 : Int32) + ((1 : Int32) + (fF (0 : Int32).toNatClampNeg))))])) _
    refine XS.istoreN X18.here hx rfl (hb hby d1_58) rfl (l' := #[.val (.ref o0), .val (.ref o1), .val (.int ((0 : Int32) + ((1 : Int32) + (fF (0 : Int32).toNatClampNeg)))), .val (.int (0 : Int32))]) rfl ?_
    show Steps p.tables e below (T18.setTop (mkF m 59 #[.val (.ref o0), .val (.ref o1), .val (.int ((0 : Int32) + ((1 : Int32) + (fF (0 : Int32).toNatClampNeg)))), .val (.int (0 : Int32))] [])) _
    refine XS.iinc X18.here hx rfl (hb hby d1_59) rfl (l' := #[.val (.ref o0), .val (.ref o1), .val (.int ((0 : Int32) + ((1 : Int32) + (fF (0 : Int32).toNatClampNeg)))), .val (.int (1 : Int32))]) rfl ?_
    show Steps p.tables e below (T18.setTop (mkF m 62 #[.val (.ref o0), .val (.ref o1), .val (.int ((0 : Int32) + ((1 : Int32) + (fF (0 : Int32).toNatClampNeg)))), .val (.int (1 : Int32))] [])) _
    refine XS.goto X18.here hx rfl (pc0 := 62) (pc' := 38) rfl (hb hby d1_62) (by decide) (by decide) ?_
    show Steps p.tables e below (T18.setTop (mkF m 38 #[.val (.ref o0), .val (.ref o1), .val (.int ((0 : Int32) + ((1 : Int32) + (fF (0 : Int32).toNatClampNeg)))), .val (.int (1 : Int32))] [])) _
    refine XS.iloadN X18.here hx rfl (hb hby d1_38) rfl ?_
    show Steps p.tables e below (T18.setTop (mkF m 39 #[.val (.ref o0), .val (.ref o1), .val (.int ((0 : Int32) + ((1 : Int32) + (fF (0 : Int32).toNatClampNeg)))), .val (.int (1 : Int32))] [(.int (1 : Int32))])) _
    refine XS.aloadN X18.here hx rfl (hb hby d1_39) rfl rfl ?_
    show Steps p.tables e below (T18.setTop (mkF m 40 #[.val (.ref o0), .val (.ref o1), .val (.int ((0 : Int32) + ((1 : Int32) + (fF (0 : Int32).toNatClampNeg)))), .val (.int (1 : Int32))] [(.ref o1), (.int (1 : Int32))])) _
    refine AV.len c19_5 X18 hx hZ e18 (hb hby d1_40) ?_
    show Steps p.tables e below (T18.setTop (mkF m 41 #[.val (.ref o0), .val (.ref o1), .val (.int ((0 : Int32) + ((1 : Int32) + (fF (0 : Int32).toNatClampNeg)))), .val (.int (1 : Int32))] [(.int (1 : Int32)), (.int (1 : Int32))])) _
    refine XS.icmpYes X18.here hx rfl (pc0 := 41) (pc' := 65) rfl (hb hby d1_41) rfl (flt (by decide)).2.1 (by decide) (by decide) ?_
    show Steps p.tables e below (T18.setTop (mkF m 65 #[.val (.ref o0), .val (.ref o1), .val (.int ((0 : Int32) + ((1 : Int32) + (fF (0 : Int32).toNatClampNeg)))), .val (.int (1 : Int32))] [])) _
    exact kZ
  refine Go.retV X18 hx Bd.notSynchronized Bd.returns (hb hby d1_65) (by decide) (by decide) ?_
  rw [e18]
  exact ⟨rfl, N18, b8, sz_b8, K18, c19_0, c19_2, c19_5, c19_6, c19_7, c19_13, c19_14⟩
theorem d6_15 : decode prog_52_method_14_code 15 = .ok (.aload_n 1, 1) := by decide +kernel
theorem d6_16 : decode prog_52_method_14_code 16 = .ok (.iload_n 3, 1) := by decide +kernel
theorem d6_17 : decode prog_52_method_14_code 17 = .ok (.iaload, 1) := by decide +kernel
theorem d6_18 : decode prog_52_method_14_code 18 = .ok (.istore 4, 2) := by decide +kernel
theorem d6_20 : decode prog_52_method_14_code 20 = .ok (.iload 4, 2) := by decide +kernel
theorem d6_22 : decode prog_52_method_14_code 22 = .ok (.iconst 1, 1) := by decide +kernel
theorem d6_23 : decode prog_52_method_14_code 23 = .ok (.if_icmp .eq 5, 3) := by decide +kernel
theorem d6_28 : decode prog_52_method_14_code 28 = .ok (.iinc 3 1, 3) := by decide +kernel
theorem d6_31 : decode prog_52_method_14_code 31 = .ok (.goto (-21), 3) := by decide +kernel
theorem d6_26 : decode prog_52_method_14_code 26 = .ok (.iconst 0, 1) := by decide +kernel
theorem d6_27 : decode prog_52_method_14_code 27 = .ok (.ireturn, 1) := by decide +kernel
def f6n1 (o0 : Addr) (cA : Addr) (fF : Nat → Int32) : Int32 := (if (fF (0 : Int32).toNatClampNeg) = (1 : Int32) then (1 : Int32) else (0 : Int32))
def Q6n1 (o0 : Addr) (cA : Addr) (fF : Nat → Int32) (h0 : Heap) (n0 : Nat) (v : Option Value) (h : Heap) (L : List Loc) : Prop := v = some (.int (f6n1 o0 cA fF)) ∧ Fr n0 L ∧ h = h0
set_option maxRecDepth 65536 in
set_option maxHeartbeats 40000000 in
theorem rm6n1 (l : Launch) (Z : State) (a0 : Array Value) (hw : ∀ d ∈ tables_1, d.before a0 Z = true) (ws : List Jvm.Cond) (o0 : Addr) (cA : Addr) (fF : Nat → Int32) (h0 : Heap) (n0 : Nat) (Z0 : n0 ≤ h0.size) (ha0 : Fld Z h0 o0 "com/example/ltlconv/ltlconv/dra/RabinDraft" "infiniteCounts" "[I" (.ref cA)) (ha1 : AV Z h0 cA .int 1 (fun k => .int (fF k))) :
    MetFree l (⟨"com/example/ltlconv/ltlconv/dra/RabinDraft", "isRabin", "()Z"⟩ : MethodName) (head1 (Jvm.Cond.code (⟨"com/example/ltlconv/ltlconv/dra/RabinDraft", "isRabin", "()Z"⟩ : MethodName) prog_52_method_14_code 5 (some .boolean) :: ws) ({ frames := 0, cells := 0, slots := 0, locals := 0 } : Room)) (fun a U => a = #[(.ref o0)] ∧ Z.Warmed39 U.vm ∧ U.heap = h0) (fun _ _ _ _ _ => True) (fun _ U o U' => ∃ v L, o = .returned v ∧ Q6n1 o0 cA fF h0 n0 v U'.heap L ∧ FrameEnd U o U' L ({ frames := 0, cells := 0, slots := 0, locals := 0 } : Room).cells ({ frames := 0, cells := 0, slots := 0, locals := 0 } : Room).slots) := by
  refine MetFree.of_bodySF (plainFor_of_name pn_3) hisR ?_
  intro p e s m args below meth c s₁ Bd hml0 hP hK
  obtain ⟨rfl, hZ, hh⟩ := hP
  have hx := Bd.exec
  have hby := Bd.bytes
  have hml : c.maxLocals = 5 := hml0
  have hown : s.vm.findClass "com/example/ltlconv/ltlconv/dra/RabinDraft" = some m.cls := findClass_of_methodNamed Bd.named
  have hnm := (name_of_methodNamed Bd.named Bd.method).1
  have X0 : Stand p l e ({ frames := 0, cells := 0, slots := 0, locals := 0 } : Room) s m #[(.ref o0)] below meth c s₁ [] 0 0 := Stand.of_body Bd
  have e0 : s₁.heap = h0 := by rw [← hh, Bd.state]; rfl
  have N0 := Fr.nil n0
  refine Go.into (P := fun oo uu => ∃ v L, oo = .returned v ∧ Q6n1 o0 cA fF h0 n0 v uu.heap L ∧ FrameEnd s oo uu L ({ frames := 0, cells := 0, slots := 0, locals := 0 } : Room).cells ({ frames := 0, cells := 0, slots := 0, locals := 0 } : Room).slots) (ef_6_a m o0) ?_
  show Go p e below _ (s₁.setTop (mkF m 0 #[.val (.ref o0), .unset, .unset, .unset, .unset] []))
  refine Go.via (T' := s₁.setTop (mkF m 1 #[.val (.ref o0), .unset, .unset, .unset, .unset] [(.ref o0)])) (fun tZ kZ => ?_) ?_
  · show Steps p.tables e below (s₁.setTop (mkF m 0 #[.val (.ref o0), .unset, .unset, .unset, .unset] [])) _
    refine XS.aloadN X0.here hx rfl (hb hby d6_0) rfl rfl ?_
    show Steps p.tables e below (s₁.setTop (mkF m 1 #[.val (.ref o0), .unset, .unset, .unset, .unset] [(.ref o0)])) _
    exact kZ
  obtain ⟨T1, X1, e1, st1⟩ := getF X0 hx hZ hown (host := "") (Or.inl (hw _ (List.mem_of_getElem? (i := 45) rfl))) Via.refl e0 ha0 (g := (mkF m 1 #[.val (.ref o0), .unset, .unset, .unset, .unset] [(.ref o0)])) rfl rfl (hb hby d6_1)
  refine Go.via st1 ?_
  show Go p e below _ (T1.setTop (mkF m 4 #[.val (.ref o0), .unset, .unset, .unset, .unset] [(.ref cA)]))
  refine Go.via (T' := T1.setTop (mkF m 23 #[.val (.ref o0), .val (.ref cA), .val (.int (1 : Int32)), .val (.int (0 : Int32)), .val (.int (fF (0 : Int32).toNatClampNeg))] [(.int (1 : Int32)), (.int (fF (0 : Int32).toNatClampNeg))])) (fun tZ kZ => ?_) ?_
  · show Steps p.tables e below (T1.setTop (mkF m 4 #[.val (.ref o0), .unset, .unset, .unset, .unset] [(.ref cA)])) _
    refine XS.astoreN X1.here hx rfl (hb hby d6_4) rfl rfl (l' := #[.val (.ref o0), .val (.ref cA), .unset, .unset, .unset]) rfl ?_
    show Steps p.tables e below (T1.setTop (mkF m 5 #[.val (.ref o0), .val (.ref cA), .unset, .unset, .unset] [])) _
    refine XS.aloadN X1.here hx rfl (hb hby d6_5) rfl rfl ?_
    show Steps p.tables e below (T1.setTop (mkF m 6 #[.val (.ref o0), .val (.ref cA), .unset, .unset, .unset] [(.ref cA)])) _
    refine AV.len ha1 X1 hx hZ e1 (hb hby d6_6) ?_
    show Steps p.tables e below (T1.setTop (mkF m 7 #[.val (.ref o0), .val (.ref cA), .unset, .unset, .unset] [(.int (1 : Int32))])) _
    refine XS.istoreN X1.here hx rfl (hb hby d6_7) rfl (l' := #[.val (.ref o0), .val (.ref cA), .val (.int (1 : Int32)), .unset, .unset]) rfl ?_
    show Steps p.tables e below (T1.setTop (mkF m 8 #[.val (.ref o0), .val (.ref cA), .val (.int (1 : Int32)), .unset, .unset] [])) _
    refine XS.iconst X1.here hx rfl (hb hby d6_8) ?_
    show Steps p.tables e below (T1.setTop (mkF m 9 #[.val (.ref o0), .val (.ref cA), .val (.int (1 : Int32)), .unset, .unset] [(.int (0 : Int32))])) _
    refine XS.istoreN X1.here hx rfl (hb hby d6_9) rfl (l' := #[.val (.ref o0), .val (.ref cA), .val (.int (1 : Int32)), .val (.int (0 : Int32)), .unset]) rfl ?_
    show Steps p.tables e below (T1.setTop (mkF m 10 #[.val (.ref o0), .val (.ref cA), .val (.int (1 : Int32)), .val (.int (0 : Int32)), .unset] [])) _
    refine XS.iloadN X1.here hx rfl (hb hby d6_10) rfl ?_
    show Steps p.tables e below (T1.setTop (mkF m 11 #[.val (.ref o0), .val (.ref cA), .val (.int (1 : Int32)), .val (.int (0 : Int32)), .unset] [(.int (0 : Int32))])) _
    refine XS.iloadN X1.here hx rfl (hb hby d6_11) rfl ?_
    show Steps p.tables e below (T1.setTop (mkF m 12 #[.val (.ref o0), .val (.ref cA), .val (.int (1 : Int32)), .val (.int (0 : Int32)), .unset] [(.int (1 : Int32)), (.int (0 : Int32))])) _
    refine XS.icmpNo X1.here hx rfl (hb hby d6_12) rfl (tlt (by decide)).2.1 ?_
    show Steps p.tables e below (T1.setTop (mkF m 15 #[.val (.ref o0), .val (.ref cA), .val (.int (1 : Int32)), .val (.int (0 : Int32)), .unset] [])) _
    refine XS.aloadN X1.here hx rfl (hb hby d6_15) rfl rfl ?_
    show Steps p.tables e below (T1.setTop (mkF m 16 #[.val (.ref o0), .val (.ref cA), .val (.int (1 : Int32)), .val (.int (0 : Int32)), .unset] [(.ref cA)])) _
    refine XS.iloadN X1.here hx rfl (hb hby d6_16) rfl ?_
    show Steps p.tables e below (T1.setTop (mkF m 17 #[.val (.ref o0), .val (.ref cA), .val (.int (1 : Int32)), .val (.int (0 : Int32)), .unset] [(.int (0 : Int32)), (.ref cA)])) _
    refine AV.iaload ha1 X1 hx hZ e1 (j := (0 : Int32)) (by decide) (hb hby d6_17) ?_
    show Steps p.tables e below (T1.setTop (mkF m 18 #[.val (.ref o0), .val (.ref cA), .val (.int (1 : Int32)), .val (.int (0 : Int32)), .unset] [(.int (fF (0 : Int32).toNatClampNeg))])) _
    refine XS.istore X1.here hx rfl (hb hby d6_18) rfl (l' := #[.val (.ref o0), .val (.ref cA), .val (.int (1 : Int32)), .val (.int (0 : Int32)), .val (.int (fF (0 : Int32).toNatClampNeg))]) rfl ?_
    show Steps p.tables e below (T1.setTop (mkF m 20 #[.val (.ref o0), .val (.ref cA), .val (.int (1 : Int32)), .val (.int (0 : Int32)), .val (.int (fF (0 : Int32).toNatClampNeg))] [])) _
    refine XS.iload X1.here hx rfl (hb hby d6_20) rfl ?_
    show Steps p.tables e below (T1.setTop (mkF m 22 #[.val (.ref o0), .val (.ref cA), .val (.int (1 : Int32)), .val (.int (0 : Int32)), .val (.int (fF (0 : Int32).toNatClampNeg))] [(.int (fF (0 : Int32).toNatClampNeg))])) _
    refine XS.iconst X1.here hx rfl (hb hby d6_22) ?_
    show Steps p.tables e below (T1.setTop (mkF m 23 #[.val (.ref o0), .val (.ref cA), .val (.int (1 : Int32)), .val (.int (0 : Int32)), .val (.int (fF (0 : Int32).toNatClampNeg))] [(.int (1 : Int32)), (.int (fF (0 : Int32).toNatClampNeg))])) _
    exact kZ
  by_cases hc23 : (fF (0 : Int32).toNatClampNeg) = (1 : Int32)
  · refine Go.via (T' := T1.setTop (mkF m 28 #[.val (.ref o0), .val (.ref cA), .val (.int (1 : Int32)), .val (.int (0 : Int32)), .val (.int (fF (0 : Int32).toNatClampNeg))] [])) (fun tZ kZ => ?_) ?_
    · show Steps p.tables e below (T1.setTop (mkF m 23 #[.val (.ref o0), .val (.ref cA), .val (.int (1 : Int32)), .val (.int (0 : Int32)), .val (.int (fF (0 : Int32).toNatClampNeg))] [(.int (1 : Int32)), (.int (fF (0 : Int32).toNatClampNeg))])) _
      refine XS.icmpYes X1.here hx rfl (pc0 := 23) (pc' := 28) rfl (hb hby d6_23) rfl (teq hc23).1 (by decide) (by decide) ?_
      exact kZ
    refine Go.via (T' := T1.setTop (mkF m 35 #[.val (.ref o0), .val (.ref cA), .val (.int (1 : Int32)), .val (.int (1 : Int32)), .val (.int (fF (0 : Int32).toNatClampNeg))] [(.int (1 : Int32))])) (fun tZ kZ => ?_) ?_
    · show Steps p.tables e below (T1.setTop (mkF m 28 #[.val (.ref o0), .val (.ref cA), .val (.int (1 : Int32)), .val (.int (0 : Int32)), .val (.int (fF (0 : Int32).toNatClampNeg))] [])) _
      refine XS.iinc X1.here hx rfl (hb hby d6_28) rfl (l' := #[.val (.ref o0), .val (.ref cA), .val (.int (1 : Int32)), .val (.int (1 : Int32)), .val (.int (fF (0 : Int32).toNatClampNeg))]) rfl ?_
      show Steps p.tables e below (T1.setTop (mkF m 31 #[.val (.ref o0), .val (.ref cA), .val (.int (1 : Int32)), .val (.int (1 : Int32)), .val (.int (fF (0 : Int32).toNatClampNeg))] [])) _
      refine XS.goto X1.here hx rfl (pc0 := 31) (pc' := 10) rfl (hb hby d6_31) (by decide) (by decide) ?_
      show Steps p.tables e below (T1.setTop (mkF m 10 #[.val (.ref o0), .val (.ref cA), .val (.int (1 : Int32)), .val (.int (1 : Int32)), .val (.int (fF (0 : Int32).toNatClampNeg))] [])) _
      refine XS.iloadN X1.here hx rfl (hb hby d6_10) rfl ?_
      show Steps p.tables e below (T1.setTop (mkF m 11 #[.val (.ref o0), .val (.ref cA), .val (.int (1 : Int32)), .val (.int (1 : Int32)), .val (.int (fF (0 : Int32).toNatClampNeg))] [(.int (1 : Int32))])) _
      refine XS.iloadN X1.here hx rfl (hb hby d6_11) rfl ?_
      show Steps p.tables e below (T1.setTop (mkF m 12 #[.val (.ref o0), .val (.ref cA), .val (.int (1 : Int32)), .val (.int (1 : Int32)), .val (.int (fF (0 : Int32).toNatClampNeg))] [(.int (1 : Int32)), (.int (1 : Int32))])) _
      refine XS.icmpYes X1.here hx rfl (pc0 := 12) (pc' := 34) rfl (hb hby d6_12) rfl (flt (by decide)).2.1 (by decide) (by decide) ?_
      show Steps p.tables e below (T1.setTop (mkF m 34 #[.val (.ref o0), .val (.ref cA), .val (.int (1 : Int32)), .val (.int (1 : Int32)), .val (.int (fF (0 : Int32).toNatClampNeg))] [])) _
      refine XS.iconst X1.here hx rfl (hb hby d6_34) ?_
      show Steps p.tables e below (T1.setTop (mkF m 35 #[.val (.ref o0), .val (.ref cA), .val (.int (1 : Int32)), .val (.int (1 : Int32)), .val (.int (fF (0 : Int32).toNatClampNeg))] [(.int (1 : Int32))])) _
      exact kZ
    refine Go.retN X1 hx Bd.notSynchronized (t := .boolean) Bd.returns (by simp) (hb hby d6_35) (by decide) (by decide) ?_
    refine ⟨?_, N0, e1⟩
    show some ((Value.int (nar .boolean (1 : Int32))) : Value) = some (.int (f6n1 o0 cA fF))
    unfold f6n1; rw [if_pos hc23] <;> rfl
  · refine Go.via (T' := T1.setTop (mkF m 26 #[.val (.ref o0), .val (.ref cA), .val (.int (1 : Int32)), .val (.int (0 : Int32)), .val (.int (fF (0 : Int32).toNatClampNeg))] [])) (fun tZ kZ => ?_) ?_
    · show Steps p.tables e below (T1.setTop (mkF m 23 #[.val (.ref o0), .val (.ref cA), .val (.int (1 : Int32)), .val (.int (0 : Int32)), .val (.int (fF (0 : Int32).toNatClampNeg))] [(.int (1 : Int32)), (.int (fF (0 : Int32).toNatClampNeg))])) _
      refine XS.icmpNo X1.here hx rfl (hb hby d6_23) rfl (feq hc23).1 ?_
      exact kZ
    refine Go.via (T' := T1.setTop (mkF m 27 #[.val (.ref o0), .val (.ref cA), .val (.int (1 : Int32)), .val (.int (0 : Int32)), .val (.int (fF (0 : Int32).toNatClampNeg))] [(.int (0 : Int32))])) (fun tZ kZ => ?_) ?_
    · show Steps p.tables e below (T1.setTop (mkF m 26 #[.val (.ref o0), .val (.ref cA), .val (.int (1 : Int32)), .val (.int (0 : Int32)), .val (.int (fF (0 : Int32).toNatClampNeg))] [])) _
      refine XS.iconst X1.here hx rfl (hb hby d6_26) ?_
      show Steps p.tables e below (T1.setTop (mkF m 27 #[.val (.ref o0), .val (.ref cA), .val (.int (1 : Int32)), .val (.int (0 : Int32)), .val (.int (fF (0 : Int32).toNatClampNeg))] [(.int (0 : Int32))])) _
      exact kZ
    refine Go.retN X1 hx Bd.notSynchronized (t := .boolean) Bd.returns (by simp) (hb hby d6_27) (by decide) (by decide) ?_
    refine ⟨?_, N0, e1⟩
    show some ((Value.int (nar .boolean (0 : Int32))) : Value) = some (.int (f6n1 o0 cA fF))
    unfold f6n1; rw [if_neg hc23] <;> rfl
def w1n2_0 (fF : Nat → Int32) : Int32 := (((0 : Int32) + ((1 : Int32) + (fF (0 : Int32).toNatClampNeg))) + ((1 : Int32) + (fF (1 : Int32).toNatClampNeg)))
def Q1n2 (Z : State) (o0 : Addr) (o1 : Addr) (fF : Nat → Int32) (aD : Addr) (h0 : Heap) (n0 : Nat) (v : Option Value) (h : Heap) (L : List Loc) : Prop := v = none ∧ Fr n0 L ∧ ∃ b8 : Addr, h0.size ≤ b8 ∧ Keep h0 h [o0] ∧ Exa Z h o0 "com/example/ltlconv/ltlconv/dra/RabinDraft" ∧ Fld Z h o0 "com/example/ltlconv/ltlconv/dra/RabinDraft" "infiniteCounts" "[I" (.ref b8) ∧ AV Z h o1 .int 2 (fun k => .int (fF k)) ∧ Exa Z h o1 "[I" ∧ Sta Z h "java/util/ArrayList" "DEFAULTCAPACITY_EMPTY_ELEMENTDATA" "[Ljava/lang/Object;" (.ref aD) ∧ AV Z h b8 .int 2 (fun k => .int (fF k)) ∧ Exa Z h b8 "[I"
set_option maxRecDepth 65536 in
set_option maxHeartbeats 40000000 in
theorem rm1n2 (l : Launch) (Z : State) (a0 : Array Value) (hw : ∀ d ∈ tables_1, d.before a0 Z = true) (ws : List Jvm.Cond) (o0 : Addr) (o1 : Addr) (fF : Nat → Int32) (aD : Addr) (h0 : Heap) (n0 : Nat) (Z0 : n0 ≤ h0.size) (ha0 : Exa Z h0 o0 "com/example/ltlconv/ltlconv/dra/RabinDraft") (ha1 : Fld Z h0 o0 "com/example/ltlconv/ltlconv/dra/RabinDraft" "transitions" "Ljava/util/List;" .null) (ha2 : Fld Z h0 o0 "com/example/ltlconv/ltlconv/dra/RabinDraft" "infiniteCounts" "[I" .null) (ha3 : Fld Z h0 o0 "com/example/ltlconv/ltlconv/dra/RabinDraft" "finiteSets" "[I" .null) (ha4 : n0 ≤ o0) (ha5 : AV Z h0 o1 .int 2 (fun k => .int (fF k))) (ha6 : Exa Z h0 o1 "[I") (ha7 : Sta Z h0 "java/util/ArrayList" "DEFAULTCAPACITY_EMPTY_ELEMENTDATA" "[Ljava/lang/Object;" (.ref aD)) (hne_o0_o1 : o0 ≠ o1) :
    MetFree l (⟨"com/example/ltlconv/ltlconv/dra/RabinDraft", "<init>", "([I)V"⟩ : MethodName) (head1 (Jvm.Cond.code (⟨"com/example/ltlconv/ltlconv/dra/RabinDraft", "<init>", "([I)V"⟩ : MethodName) prog_52_method_1_code 4 none :: ws) ({ frames := 4, cells := 3, slots := 7, locals := 50 } : Room)) (fun a U => a = #[(.ref o0), (.ref o1)] ∧ Z.Warmed39 U.vm ∧ U.heap = h0) (fun _ _ _ _ _ => True) (fun _ U o U' => ∃ v L, o = .returned v ∧ Q1n2 Z o0 o1 fF aD h0 n0 v U'.heap L ∧ FrameEnd U o U' L ({ frames := 4, cells := 3, slots := 7, locals := 50 } : Room).cells ({ frames := 4, cells := 3, slots := 7, locals := 50 } : Room).slots) := by
  refine MetFree.of_bodySF (plainFor_of_name pn_3) hisR ?_
  intro p e s m args below meth c s₁ Bd hml0 hP hK
  obtain ⟨rfl, hZ, hh⟩ := hP
  have hx := Bd.exec
  have hby := Bd.bytes
  have hml : c.maxLocals = 4 := hml0
  have hown : s.vm.findClass "com/example/ltlconv/ltlconv/dra/RabinDraft" = some m.cls := findClass_of_methodNamed Bd.named
  have hnm := (name_of_methodNamed Bd.named Bd.method).1
  have X0 : Stand p l e ({ frames := 4, cells := 3, slots := 7, locals := 50 } : Room) s m #[(.ref o0), (.ref o1)] below meth c s₁ [] 0 0 := Stand.of_body Bd
  have e0 : s₁.heap = h0 := by rw [← hh, Bd.state]; rfl
  have N0 := Fr.nil n0
  refine Go.into (P := fun oo uu => ∃ v L, oo = .returned v ∧ Q1n2 Z o0 o1 fF aD h0 n0 v uu.heap L ∧ FrameEnd s oo uu L ({ frames := 4, cells := 3, slots := 7, locals := 50 } : Room).cells ({ frames := 4, cells := 3, slots := 7, locals := 50 } : Room).slots) (ef_1_aa m o0 o1) ?_
  show Go p e below _ (s₁.setTop (mkF m 0 #[.val (.ref o0), .val (.ref o1), .unset, .unset] []))
  refine Go.via (T' := s₁.setTop (mkF m 1 #[.val (.ref o0), .val (.ref o1), .unset, .unset] [(.ref o0)])) (fun tZ kZ => ?_) ?_
  · show Steps p.tables e below (s₁.setTop (mkF m 0 #[.val (.ref o0), .val (.ref o1), .unset, .unset] [])) _
    refine XS.aloadN X0.here hx rfl (hb hby d1_0) rfl rfl ?_
    show Steps p.tables e below (s₁.setTop (mkF m 1 #[.val (.ref o0), .val (.ref o1), .unset, .unset] [(.ref o0)])) _
    exact kZ
  obtain ⟨T1, X1, e1, st1⟩ := initO X0 hx hZ hown (hw _ (List.mem_of_getElem? (i := 7) rfl)) (hw _ (List.mem_of_getElem? (i := 8) rfl)) (hw _ (List.mem_of_getElem? (i := 9) rfl)) e0 (g := (mkF m 1 #[.val (.ref o0), .val (.ref o1), .unset, .unset] [(.ref o0)])) rfl (by rw [hml]; rfl) rfl (hb hby d1_1) (by decide) (W := 0) (by show 2 * 0 + _ ≤ _; exact Nat.le_of_eq rfl) (by decide)
  refine Go.via st1 ?_
  show Go p e below _ (T1.setTop (mkF m 4 #[.val (.ref o0), .val (.ref o1), .unset, .unset] []))
  refine Go.via (T' := T1.setTop (mkF m 5 #[.val (.ref o0), .val (.ref o1), .unset, .unset] [(.ref o0)])) (fun tZ kZ => ?_) ?_
  · show Steps p.tables e below (T1.setTop (mkF m 4 #[.val (.ref o0), .val (.ref o1), .unset, .unset] [])) _
    refine XS.aloadN X1.here hx rfl (hb hby d1_4) rfl rfl ?_
    show Steps p.tables e below (T1.setTop (mkF m 5 #[.val (.ref o0), .val (.ref o1), .unset, .unset] [(.ref o0)])) _
    exact kZ
  obtain ⟨T2, h2, X2, e2, E2, A2, D2, -, st2⟩ := newO X1 hx hZ hown (hw _ (List.mem_of_getElem? (i := 10) rfl)) (hw _ (List.mem_of_getElem? (i := 11) rfl)) (hw _ (List.mem_of_getElem? (i := 12) rfl)) e1 (g := (mkF m 5 #[.val (.ref o0), .val (.ref o1), .unset, .unset] [(.ref o0)])) rfl (hb hby d1_5) (by decide) (by decide)
  obtain ⟨b2, g2⟩ : ∃ z, z = h0.size := ⟨_, rfl⟩
  rw [← g2] at A2 D2 st2
  have g_b2 : n0 ≤ b2 := Nat.le_trans Z0 (Nat.le_of_eq g2.symm)
  have sz_b2 : h0.size ≤ b2 := Nat.le_trans ((Keep.refl h0 [o0])).1 (Nat.le_of_eq g2.symm)
  have ne_o0_b2 : o0 ≠ b2 := Nat.ne_of_lt (Nat.lt_of_lt_of_le ha0.lt (Nat.le_of_eq g2.symm))
  have ne_o1_b2 : o1 ≠ b2 := Nat.ne_of_lt (Nat.lt_of_lt_of_le ha5.lt (Nat.le_of_eq g2.symm))
  have c3_0 := ha0.ext E2
  have c3_1 := ha1.ext E2
  have c3_2 := ha2.ext E2
  have c3_3 := ha3.ext E2
  have c3_5 := ha5.ext E2
  have c3_6 := ha6.ext E2
  have c3_7 := ha7.ext E2
  have K2 : Keep h0 h2 [o0] := (Keep.refl h0 [o0]).ext E2
  have Z2 : n0 ≤ h2.size := Nat.le_trans Z0 E2.1
  have F2_modCount : Fld Z h2 b2 "java/util/AbstractList" "modCount" "I" (.int (0 : Int32)) := D2 (Or.inl (hw _ (List.mem_of_getElem? (i := 30) rfl))) (ty := .int) (by decide)
  have F2_elementData : Fld Z h2 b2 "java/util/ArrayList" "elementData" "[Ljava/lang/Object;" .null := D2 (Or.inl (hw _ (List.mem_of_getElem? (i := 33) rfl))) (ty := (.array (.object "java/lang/Object"))) (by decide)
  refine Go.via st2 ?_
  show Go p e below _ (T2.setTop (mkF m 8 #[.val (.ref o0), .val (.ref o1), .unset, .unset] [(.ref b2), (.ref o0)]))
  refine Go.via (T' := T2.setTop (mkF m 9 #[.val (.ref o0), .val (.ref o1), .unset, .unset] [(.ref b2), (.ref b2), (.ref o0)])) (fun tZ kZ => ?_) ?_
  · show Steps p.tables e below (T2.setTop (mkF m 8 #[.val (.ref o0), .val (.ref o1), .unset, .unset] [(.ref b2), (.ref o0)])) _
    refine XS.dup X2.here hx rfl (hb hby d1_8) rfl rfl ?_
    show Steps p.tables e below (T2.setTop (mkF m 9 #[.val (.ref o0), .val (.ref o1), .unset, .unset] [(.ref b2), (.ref b2), (.ref o0)])) _
    exact kZ
  obtain ⟨_, _, ⟨T4, L4, k4, n4⟩, -, X4, ⟨Lc4, hQ4, l4, y4, z4⟩, st4⟩ := X2.specialBack hx (y := (⟨"java/util/ArrayList", "<init>", "()V"⟩ : MethodName)) rfl hown (mvT hZ (hw _ (List.mem_of_getElem? (i := 13) rfl))) (mvT hZ (hw _ (List.mem_of_getElem? (i := 14) rfl))) (mvT hZ (hw _ (List.mem_of_getElem? (i := 15) rfl))) (by decide) (backOf (W := 2) (rm3 l Z a0 hw [] b2 aD h2 n0 Z2 A2 F2_modCount F2_elementData g_b2 c3_7) hZ (hw _ (List.mem_of_getElem? (i := 15) rfl)) (hw _ (List.mem_of_getElem? (i := 12) rfl)) (by decide) (by decide)) (g := (mkF m 9 #[.val (.ref o0), .val (.ref o1), .unset, .unset] [(.ref b2), (.ref b2), (.ref o0)])) rfl (by rw [hml]; rfl) (Steps.refl _) (a := b2) (argsL := []) (rest := [(.ref b2), (.ref o0)]) (lenOf pd_1 rfl) rfl (by show 2 * 0 + _ ≤ _; exact Nat.le_of_eq rfl) (hb hby d1_9) (fun _ _ => ⟨rfl, e2, (by decide : 0 + 1 + 0 ≤ _), (by decide : 0 + 3 + 0 ≤ _)⟩)
  dsimp only [Pt.U, Pt.locs, Pt.cells, Pt.slots] at X4 l4 y4 z4 st4 hQ4
  subst l4 y4 z4
  obtain ⟨rfl, N4q, Kq4, f4_0, f4_1, f4_2, f4_3⟩ := hQ4
  have c5_0 := c3_0.keep Kq4
  have c5_1 := c3_1.keep Kq4 (ninS ne_o0_b2 nin0)
  have c5_2 := c3_2.keep Kq4 (ninS ne_o0_b2 nin0)
  have c5_3 := c3_3.keep Kq4 (ninS ne_o0_b2 nin0)
  have c5_5 := c3_5.keep Kq4 (ninS ne_o1_b2 nin0)
  have c5_6 := c3_6.keep Kq4
  have K4 : Keep h0 T4.heap [o0] := K2.trans Kq4 (allS (Or.inr sz_b2) all0)
  have Z4 : n0 ≤ T4.heap.size := Nat.le_trans Z2 Kq4.1
  have N4 := Fr.app N0 N4q
  refine Go.via (fun t k => st4.trans k) ?_
  show Go p e below _ (T4.setTop (mkF m 12 #[.val (.ref o0), .val (.ref o1), .unset, .unset] [(.ref b2), (.ref o0)]))
  obtain ⟨T6, h6, X6, e6, W6, st6⟩ := putF X4 hx hZ hown (host := "") (Or.inl (hw _ (List.mem_of_getElem? (i := 34) rfl))) Via.refl rfl c5_1 c5_0 (Or.inr ⟨(hw _ (List.mem_of_getElem? (i := 35) rfl)), rfl, hnm⟩) (hw _ (List.mem_of_getElem? (i := 2) rfl)) (ty := (.object "java/util/List")) (by decide) rfl rfl (g := (mkF m 12 #[.val (.ref o0), .val (.ref o1), .unset, .unset] [(.ref b2), (.ref o0)])) rfl rfl (hb hby d1_12)
  have N6 := Fr.snoc X6 N4 ha4
  have c7_0 := c5_0.wr W6
  have c7_2 := c5_2.other W6 (Or.inr (slot_ne (Or.inr (hw _ (List.mem_of_getElem? (i := 46) rfl))) (Or.inr (hw _ (List.mem_of_getElem? (i := 35) rfl))) (by decide) (t := (.array .int)) (t' := (.object "java/util/List")) (by decide) (by decide)))
  have c7_3 := c5_3.other W6 (Or.inr (slot_ne (Or.inr (hw _ (List.mem_of_getElem? (i := 48) rfl))) (Or.inr (hw _ (List.mem_of_getElem? (i := 35) rfl))) (by decide) (t := (.array .int)) (t' := (.object "java/util/List")) (by decide) (by decide)))
  have c7_5 := c5_5.other W6 (Ne.symm hne_o0_o1)
  have c7_6 := c5_6.wr W6
  have c7_7 := f4_3.wr W6
  have c7_9 := f4_0.wr W6
  have c7_10 := f4_1.other W6 (Or.inl (Ne.symm ne_o0_b2))
  have c7_11 := f4_2.other W6 (Or.inl (Ne.symm ne_o0_b2))
  have K6 : Keep h0 h6 [o0] := K4.wr W6 (Or.inl (by simp))
  have Z6 : n0 ≤ h6.size := Nat.le_trans Z4 (Keep.of_wr W6).1
  have Fw6 := c5_1.same W6
  refine Go.via st6 ?_
  show Go p e below _ (T6.setTop (mkF m 15 #[.val (.ref o0), .val (.ref o1), .unset, .unset] []))
  refine Go.via (T' := T6.setTop (mkF m 17 #[.val (.ref o0), .val (.ref o1), .unset, .unset] [(.ref o1), (.ref o0)])) (fun tZ kZ => ?_) ?_
  · show Steps p.tables e below (T6.setTop (mkF m 15 #[.val (.ref o0), .val (.ref o1), .unset, .unset] [])) _
    refine XS.aloadN X6.here hx rfl (hb hby d1_15) rfl rfl ?_
    show Steps p.tables e below (T6.setTop (mkF m 16 #[.val (.ref o0), .val (.ref o1), .unset, .unset] [(.ref o0)])) _
    refine XS.aloadN X6.here hx rfl (hb hby d1_16) rfl rfl ?_
    show Steps p.tables e below (T6.setTop (mkF m 17 #[.val (.ref o0), .val (.ref o1), .unset, .unset] [(.ref o1), (.ref o0)])) _
    exact kZ
  obtain ⟨T8, h8, X8, e8, E8, V8, B8, st8⟩ := AV.clone c7_5 (fun _ _ => rfl) X6 hx hZ hown (hw _ (List.mem_of_getElem? (i := 36) rfl)) (hw _ (List.mem_of_getElem? (i := 37) rfl)) (hw _ (List.mem_of_getElem? (i := 41) rfl)) (hw _ (List.mem_of_getElem? (i := 39) rfl)) (hw _ (List.mem_of_getElem? (i := 40) rfl)) (hw _ (List.mem_of_getElem? (i := 42) rfl)) e6 c7_6 (g := (mkF m 17 #[.val (.ref o0), .val (.ref o1), .unset, .unset] [(.ref o1), (.ref o0)])) rfl (by rw [hml]; rfl) (rest := [(.ref o0)]) rfl (hb hby d1_17) (by decide) (W := 1) (cap := 2) (by show 2 * 0 + _ ≤ _; exact Nat.le_of_eq rfl) (by decide) (by decide) (by decide) (by decide)
  obtain ⟨b8, g8⟩ : ∃ z, z = h6.size := ⟨_, rfl⟩
  rw [← g8] at V8 B8 st8
  have g_b8 : n0 ≤ b8 := Nat.le_trans Z6 (Nat.le_of_eq g8.symm)
  have sz_b8 : h0.size ≤ b8 := Nat.le_trans (K6).1 (Nat.le_of_eq g8.symm)
  have ne_o0_b8 : o0 ≠ b8 := Nat.ne_of_lt (Nat.lt_of_lt_of_le c7_0.lt (Nat.le_of_eq g8.symm))
  have ne_o1_b8 : o1 ≠ b8 := Nat.ne_of_lt (Nat.lt_of_lt_of_le c7_5.lt (Nat.le_of_eq g8.symm))
  have ne_b2_b8 : b2 ≠ b8 := Nat.ne_of_lt (Nat.lt_of_lt_of_le c7_9.lt (Nat.le_of_eq g8.symm))
  have c9_0 := c7_0.ext E8
  have c9_1 := Fw6.ext E8
  have c9_2 := c7_2.ext E8
  have c9_3 := c7_3.ext E8
  have c9_5 := c7_5.ext E8
  have c9_6 := c7_6.ext E8
  have c9_7 := c7_7.ext E8
  have c9_9 := c7_9.ext E8
  have c9_10 := c7_10.ext E8
  have c9_11 := c7_11.ext E8
  have K8 : Keep h0 h8 [o0] := K6.ext E8
  have Z8 : n0 ≤ h8.size := Nat.le_trans Z6 E8.1
  refine Go.via st8 ?_
  show Go p e below _ (T8.setTop (mkF m 20 #[.val (.ref o0), .val (.ref o1), .unset, .unset] [(.ref b8), (.ref o0)]))
  obtain ⟨T10, X10, e10, st10⟩ := castY X8 hx hZ hown (hw _ (List.mem_of_getElem? (i := 43) rfl)) e8 (Ins.self B8) (g := (mkF m 20 #[.val (.ref o0), .val (.ref o1), .unset, .unset] [(.ref b8), (.ref o0)])) rfl rfl (hb hby d1_20)
  refine Go.via st10 ?_
  show Go p e below _ (T10.setTop (mkF m 23 #[.val (.ref o0), .val (.ref o1), .unset, .unset] [(.ref b8), (.ref o0)]))
  obtain ⟨T11, h11, X11, e11, W11, st11⟩ := putF X10 hx hZ hown (host := "") (Or.inl (hw _ (List.mem_of_getElem? (i := 45) rfl))) Via.refl e10 c9_2 c9_0 (Or.inr ⟨(hw _ (List.mem_of_getElem? (i := 46) rfl)), rfl, hnm⟩) (hw _ (List.mem_of_getElem? (i := 2) rfl)) (ty := (.array .int)) (by decide) rfl rfl (g := (mkF m 23 #[.val (.ref o0), .val (.ref o1), .unset, .unset] [(.ref b8), (.ref o0)])) rfl rfl (hb hby d1_23)
  have N11 := Fr.snoc X11 N6 ha4
  have c12_0 := c9_0.wr W11
  have c12_1 := c9_1.other W11 (Or.inr (slot_ne (Or.inr (hw _ (List.mem_of_getElem? (i := 35) rfl))) (Or.inr (hw _ (List.mem_of_getElem? (i := 46) rfl))) (by decide) (t := (.object "java/util/List")) (t' := (.array .int)) (by decide) (by decide)))
  have c12_3 := c9_3.other W11 (Or.inr (slot_ne (Or.inr (hw _ (List.mem_of_getElem? (i := 48) rfl))) (Or.inr (hw _ (List.mem_of_getElem? (i := 46) rfl))) (by decide) (t := (.array .int)) (t' := (.array .int)) (by decide) (by decide)))
  have c12_5 := c9_5.other W11 (Ne.symm hne_o0_o1)
  have c12_6 := c9_6.wr W11
  have c12_7 := c9_7.wr W11
  have c12_9 := c9_9.wr W11
  have c12_10 := c9_10.other W11 (Or.inl (Ne.symm ne_o0_b2))
  have c12_11 := c9_11.other W11 (Or.inl (Ne.symm ne_o0_b2))
  have c12_13 := V8.other W11 (Ne.symm ne_o0_b8)
  have c12_14 := B8.wr W11
  have K11 : Keep h0 h11 [o0] := K8.wr W11 (Or.inl (by simp))
  have Z11 : n0 ≤ h11.size := Nat.le_trans Z8 (Keep.of_wr W11).1
  have Fw11 := c9_2.same W11
  refine Go.via st11 ?_
  show Go p e below _ (T11.setTop (mkF m 26 #[.val (.ref o0), .val (.ref o1), .unset, .unset] []))
  refine Go.via (T' := T11.setTop (mkF m 29 #[.val (.ref o0), .val (.ref o1), .unset, .unset] [(.int (2 : Int32)), (.ref o0)])) (fun tZ kZ => ?_) ?_
  · show Steps p.tables e below (T11.setTop (mkF m 26 #[.val (.ref o0), .val (.ref o1), .unset, .unset] [])) _
    refine XS.aloadN X11.here hx rfl (hb hby d1_26) rfl rfl ?_
    show Steps p.tables e below (T11.setTop (mkF m 27 #[.val (.ref o0), .val (.ref o1), .unset, .unset] [(.ref o0)])) _
    refine XS.aloadN X11.here hx rfl (hb hby d1_27) rfl rfl ?_
    show Steps p.tables e below (T11.setTop (mkF m 28 #[.val (.ref o0), .val (.ref o1), .unset, .unset] [(.ref o1), (.ref o0)])) _
    refine AV.len c12_5 X11 hx hZ e11 (hb hby d1_28) ?_
    show Steps p.tables e below (T11.setTop (mkF m 29 #[.val (.ref o0), .val (.ref o1), .unset, .unset] [(.int (2 : Int32)), (.ref o0)])) _
    exact kZ
  obtain ⟨T13, h13, k13, X13, e13, E13, A13, B13, st13⟩ := newPE X11 hx hZ (hw _ (List.mem_of_getElem? (i := 0) rfl)) e11 (g := (mkF m 29 #[.val (.ref o0), .val (.ref o1), .unset, .unset] [(.int (2 : Int32)), (.ref o0)])) rfl (hb hby d1_29) rfl (by decide) (cap := 2) (by decide) (by decide) (by decide) (by decide) (ad := "[I") rfl
  obtain ⟨b13, g13⟩ : ∃ z, z = h11.size := ⟨_, rfl⟩
  rw [← g13] at A13 B13 st13
  have g_b13 : n0 ≤ b13 := Nat.le_trans Z11 (Nat.le_of_eq g13.symm)
  have sz_b13 : h0.size ≤ b13 := Nat.le_trans (K11).1 (Nat.le_of_eq g13.symm)
  have ne_o0_b13 : o0 ≠ b13 := Nat.ne_of_lt (Nat.lt_of_lt_of_le c12_0.lt (Nat.le_of_eq g13.symm))
  have ne_o1_b13 : o1 ≠ b13 := Nat.ne_of_lt (Nat.lt_of_lt_of_le c12_5.lt (Nat.le_of_eq g13.symm))
  have ne_b2_b13 : b2 ≠ b13 := Nat.ne_of_lt (Nat.lt_of_lt_of_le c12_9.lt (Nat.le_of_eq g13.symm))
  have ne_b8_b13 : b8 ≠ b13 := Nat.ne_of_lt (Nat.lt_of_lt_of_le c12_13.lt (Nat.le_of_eq g13.symm))
  have c14_0 := c12_0.ext E13
  have c14_1 := c12_1.ext E13
  have c14_2 := Fw11.ext E13
  have c14_3 := c12_3.ext E13
  have c14_5 := c12_5.ext E13
  have c14_6 := c12_6.ext E13
  have c14_7 := c12_7.ext E13
  have c14_9 := c12_9.ext E13
  have c14_10 := c12_10.ext E13
  have c14_11 := c12_11.ext E13
  have c14_13 := c12_13.ext E13
  have c14_14 := c12_14.ext E13
  have K13 : Keep h0 h13 [o0] := K11.ext E13
  have Z13 : n0 ≤ h13.size := Nat.le_trans Z11 E13.1
  have V13 : AV Z h13 b13 .int 2 (fun k => .int ((fun _ => (0 : Int32)) k)) := by have q := AV.new A13; exact q
  refine Go.via st13 ?_
  show Go p e below _ (T13.setTop (mkF m 31 #[.val (.ref o0), .val (.ref o1), .unset, .unset] [(.ref b13), (.ref o0)]))
  obtain ⟨T15, h15, X15, e15, W15, st15⟩ := putF X13 hx hZ hown (host := "") (Or.inl (hw _ (List.mem_of_getElem? (i := 47) rfl))) Via.refl e13 c14_3 c14_0 (Or.inr ⟨(hw _ (List.mem_of_getElem? (i := 48) rfl)), rfl, hnm⟩) (hw _ (List.mem_of_getElem? (i := 2) rfl)) (ty := (.array .int)) (by decide) rfl rfl (g := (mkF m 31 #[.val (.ref o0), .val (.ref o1), .unset, .unset] [(.ref b13), (.ref o0)])) rfl rfl (hb hby d1_31)
  have N15 := Fr.snoc X15 N11 ha4
  have c16_0 := c14_0.wr W15
  have c16_1 := c14_1.other W15 (Or.inr (slot_ne (Or.inr (hw _ (List.mem_of_getElem? (i := 35) rfl))) (Or.inr (hw _ (List.mem_of_getElem? (i := 48) rfl))) (by decide) (t := (.object "java/util/List")) (t' := (.array .int)) (by decide) (by decide)))
  have c16_2 := c14_2.other W15 (Or.inr (slot_ne (Or.inr (hw _ (List.mem_of_getElem? (i := 46) rfl))) (Or.inr (hw _ (List.mem_of_getElem? (i := 48) rfl))) (by decide) (t := (.array .int)) (t' := (.array .int)) (by decide) (by decide)))
  have c16_5 := c14_5.other W15 (Ne.symm hne_o0_o1)
  have c16_6 := c14_6.wr W15
  have c16_7 := c14_7.wr W15
  have c16_9 := c14_9.wr W15
  have c16_10 := c14_10.other W15 (Or.inl (Ne.symm ne_o0_b2))
  have c16_11 := c14_11.other W15 (Or.inl (Ne.symm ne_o0_b2))
  have c16_13 := c14_13.other W15 (Ne.symm ne_o0_b8)
  have c16_14 := c14_14.wr W15
  have c16_16 := B13.wr W15
  have c16_17 := V13.other W15 (Ne.symm ne_o0_b13)
  have K15 : Keep h0 h15 [o0] := K13.wr W15 (Or.inl (by simp))
  have Z15 : n0 ≤ h15.size := Nat.le_trans Z13 (Keep.of_wr W15).1
  have Fw15 := c14_3.same W15
  refine Go.via st15 ?_
  show Go p e below _ (T15.setTop (mkF m 34 #[.val (.ref o0), .val (.ref o1), .unset, .unset] []))
  refine Go.via (T' := T15.setTop (mkF m 45 #[.val (.ref o0), .val (.ref o1), .val (.int (0 : Int32)), .val (.int (0 : Int32))] [(.ref o0)])) (fun tZ kZ => ?_) ?_
  · show Steps p.tables e below (T15.setTop (mkF m 34 #[.val (.ref o0), .val (.ref o1), .unset, .unset] [])) _
    refine XS.iconst X15.here hx rfl (hb hby d1_34) ?_
    show Steps p.tables e below (T15.setTop (mkF m 35 #[.val (.ref o0), .val (.ref o1), .unset, .unset] [(.int (0 : Int32))])) _
    refine XS.istoreN X15.here hx rfl (hb hby d1_35) rfl (l' := #[.val (.ref o0), .val (.ref o1), .val (.int (0 : Int32)), .unset]) rfl ?_
    show Steps p.tables e below (T15.setTop (mkF m 36 #[.val (.ref o0), .val (.ref o1), .val (.int (0 : Int32)), .unset] [])) _
    refine XS.iconst X15.here hx rfl (hb hby d1_36) ?_
    show Steps p.tables e below (T15.setTop (mkF m 37 #[.val (.ref o0), .val (.ref o1), .val (.int (0 : Int32)), .unset] [(.int (0 : Int32))])) _
    refine XS.istoreN X15.here hx rfl (hb hby d1_37) rfl (l' := #[.val (.ref o0), .val (.ref o1), .val (.int (0 : Int32)), .val (.int (0 : Int32))]) rfl ?_
    show Steps p.tables e below (T15.setTop (mkF m 38 #[.val (.ref o0), .val (.ref o1), .val (.int (0 : Int32)), .val (.int (0 : Int32))] [])) _
    refine XS.iloadN X15.here hx rfl (hb hby d1_38) rfl ?_
    show Steps p.tables e below (T15.setTop (mkF m 39 #[.val (.ref o0), .val (.ref o1), .val (.int (0 : Int32)), .val (.int (0 : Int32))] [(.int (0 : Int32))])) _
    refine XS.aloadN X15.here hx rfl (hb hby d1_39) rfl rfl ?_
    show Steps p.tables e below (T15.setTop (mkF m 40 #[.val (.ref o0), .val (.ref o1), .val (.int (0 : Int32)), .val (.int (0 : Int32))] [(.ref o1), (.int (0 : Int32))])) _
    refine AV.len c16_5 X15 hx hZ e15 (hb hby d1_40) ?_
    show Steps p.tables e below (T15.setTop (mkF m 41 #[.val (.ref o0), .val (.ref o1), .val (.int (0 : Int32)), .val (.int (0 : Int32))] [(.int (2 : Int32)), (.int (0 : Int32))])) _
    refine XS.icmpNo X15.here hx rfl (hb hby d1_41) rfl (tlt (by decide)).2.1 ?_
    show Steps p.tables e below (T15.setTop (mkF m 44 #[.val (.ref o0), .val (.ref o1), .val (.int (0 : Int32)), .val (.int (0 : Int32))] [])) _
    refine XS.aloadN X15.here hx rfl (hb hby d1_44) rfl rfl ?_
    show Steps p.tables e below (T15.setTop (mkF m 45 #[.val (.ref o0), .val (.ref o1), .val (.int (0 : Int32)), .val (.int (0 : Int32))] [(.ref o0)])) _
    exact kZ
  obtain ⟨T17, X17, e17, st17⟩ := getF X15 hx hZ hown (host := "") (Or.inl (hw _ (List.mem_of_getElem? (i := 47) rfl))) Via.refl e15 Fw15 (g := (mkF m 45 #[.val (.ref o0), .val (.ref o1), .val (.int (0 : Int32)), .val (.int (0 : Int32))] [(.ref o0)])) rfl rfl (hb hby d1_45)
  refine Go.via st17 ?_
  show Go p e below _ (T17.setTop (mkF m 48 #[.val (.ref o0), .val (.ref o1), .val (.int (0 : Int32)), .val (.int (0 : Int32))] [(.ref b13)]))
  refine Go.via (T' := T17.setTop (mkF m 50 #[.val (.ref o0), .val (.ref o1), .val (.int (0 : Int32)), .val (.int (0 : Int32))] [(.int (0 : Int32)), (.int (0 : Int32)), (.ref b13)])) (fun tZ kZ => ?_) ?_
  · show Steps p.tables e below (T17.setTop (mkF m 48 #[.val (.ref o0), .val (.ref o1), .val (.int (0 : Int32)), .val (.int (0 : Int32))] [(.ref b13)])) _
    refine XS.iloadN X17.here hx rfl (hb hby d1_48) rfl ?_
    show Steps p.tables e below (T17.setTop (mkF m 49 #[.val (.ref o0), .val (.ref o1), .val (.int (0 : Int32)), .val (.int (0 : Int32))] [(.int (0 : Int32)), (.ref b13)])) _
    refine XS.iloadN X17.here hx rfl (hb hby d1_49) rfl ?_
    show Steps p.tables e below (T17.setTop (mkF m 50 #[.val (.ref o0), .val (.ref o1), .val (.int (0 : Int32)), .val (.int (0 : Int32))] [(.int (0 : Int32)), (.int (0 : Int32)), (.ref b13)])) _
    exact kZ
  obtain ⟨T18, h18, X18, e18, W18, V18, st18⟩ := AV.iastore c16_17 X17 hx hZ e17 (j := (0 : Int32)) (by decide) (Ls := #[.val (.ref o0), .val (.ref o1), .val (.int (0 : Int32)), .val (.int (0 : Int32))]) (rest := []) (hb hby d1_50) (x := (0 : Int32))
  have N18 := Fr.snoc X18 N15 g_b13
  have c19_0 := c16_0.wr W18
  have c19_1 := c16_1.other W18 (Or.inl ne_o0_b13)
  have c19_2 := c16_2.other W18 (Or.inl ne_o0_b13)
  have c19_3 := Fw15.other W18 (Or.inl ne_o0_b13)
  have c19_5 := c16_5.other W18 ne_o1_b13
  have c19_6 := c16_6.wr W18
  have c19_7 := c16_7.wr W18
  have c19_9 := c16_9.wr W18
  have c19_10 := c16_10.other W18 (Or.inl ne_b2_b13)
  have c19_11 := c16_11.other W18 (Or.inl ne_b2_b13)
  have c19_13 := c16_13.other W18 ne_b8_b13
  have c19_14 := c16_14.wr W18
  have c19_16 := c16_16.wr W18
  have K18 : Keep h0 h18 [o0] := K15.wr W18 (Or.inr sz_b13)
  have Z18 : n0 ≤ h18.size := Nat.le_trans Z15 (Keep.of_wr W18).1
  refine Go.via st18 ?_
  show Go p e below _ (T18.setTop (mkF m 51 #[.val (.ref o0), .val (.ref o1), .val (.int (0 : Int32)), .val (.int (0 : Int32))] []))
  refine Go.via (T' := T18.setTop (mkF m 45 #[.val (.ref o0), .val (.ref o1), .val (.int ((0 : Int32) + ((1 : Int32) + (fF (0 : Int32).toNatClampNeg)))), .val (.int (1 : Int32))] [(.ref o0)])) (fun tZ kZ => ?_) ?_
  · show Steps p.tables e below (T18.setTop (mkF m 51 #[.val (.ref o0), .val (.ref o1), .val (.int (0 : Int32)), .val (.int (0 : Int32))] [])) _
    refine XS.iloadN X18.here hx rfl (hb hby d1_51) rfl ?_
    show Steps p.tables e below (T18.setTop (mkF m 52 #[.val (.ref o0), .val (.ref o1), .val (.int (0 : Int32)), .val (.int (0 : Int32))] [(.int (0 : Int32))])) _
    refine XS.iconst X18.here hx rfl (hb hby d1_52) ?_
    show Steps p.tables e below (T18.setTop (mkF m 53 #[.val (.ref o0), .val (.ref o1), .val (.int (0 : Int32)), .val (.int (0 : Int32))] [(.int (1 : Int32)), (.int (0 : Int32))])) _
    refine XS.aloadN X18.here hx rfl (hb hby d1_53) rfl rfl ?_
    show Steps p.tables e below (T18.setTop (mkF m 54 #[.val (.ref o0), .val (.ref o1), .val (.int (0 : Int32)), .val (.int (0 : Int32))] [(.ref o1), (.int (1 : Int32)), (.int (0 : Int32))])) _
    refine XS.iloadN X18.here hx rfl (hb hby d1_54) rfl ?_
    show Steps p.tables e below (T18.setTop (mkF m 55 #[.val (.ref o0), .val (.ref o1), .val (.int (0 : Int32)), .val (.int (0 : Int32))] [(.int (0 : Int32)), (.ref o1), (.int (1 : Int32)), (.int (0 : Int32))])) _
    refine AV.iaload c19_5 X18 hx hZ e18 (j := (0 : Int32)) (by decide) (hb hby d1_55) ?_
    show Steps p.tables e below (T18.setTop (mkF m 56 #[.val (.ref o0), .val (.ref o1), .val (.int (0 : Int32)), .val (.int (0 : Int32))] [(.int (fF (0 : Int32).toNatClampNeg)), (.int (1 : Int32)), (.int (0 : Int32))])) _
    refine XS.iadd X18.here hx rfl (hb hby d1_56) rfl ?_
    show Steps p.tables e below (T18.setTop (mkF m 57 #[.val (.ref o0), .val (.ref o1), .val (.int (0 : Int32)), .val (.int (0 : Int32))] [(.int ((1 : Int32) + (fF (0 : Int32).toNatClampNeg))), (.int (0 : Int32))])) _
    refine XS.iadd X18.here hx rfl (hb hby d1_57) rfl ?_
    show Steps p.tables e below (T18.setTop (mkF m 58 #[.val (.ref o0), .val (.ref o1), .val (.int (0 : Int32)), .val (.int (0 : Int32))] [(.int ((0 : Int32) + ((1 : Int32) + (fF (0 : Int32).toNatClampNeg))))])) _
    refine XS.istoreN X18.here hx rfl (hb hby d1_58) rfl (l' := #[.val (.ref o0), .val (.ref o1), .val (.int ((0 : Int32) + ((1 : Int32) + (fF (0 : Int32).toNatClampNeg)))), .val (.int (0 : Int32))]) rfl ?_
    show Steps p.tables e below (T18.setTop (mkF m 59 #[.val (.ref o0), .val (.ref o1), .val (.int ((0 : Int32) + ((1 : Int32) + (fF (0 : Int32).toNatClampNeg)))), .val (.int (0 : Int32))] [])) _
    refine XS.iinc X18.here hx rfl (hb hby d1_59) rfl (l' := #[.val (.ref o0), .val (.ref o1), .val (.int ((0 : Int32) + ((1 : Int32) + (fF (0 : Int32).toNatClampNeg)))), .val (.int (1 : Int32))]) rfl ?_
    show Steps p.tables e below (T18.setTop (mkF m 62 #[.val (.ref o0), .val (.ref o1), .val (.int ((0 : Int32) + ((1 : Int32) + (fF (0 : Int32).toNatClampNeg)))), .val (.int (1 : Int32))] [])) _
    refine XS.goto X18.here hx rfl (pc0 := 62) (pc' := 38) rfl (hb hby d1_62) (by decide) (by decide) ?_
    show Steps p.tables e below (T18.setTop (mkF m 38 #[.val (.ref o0), .val (.ref o1), .val (.int ((0 : Int32) + ((1 : Int32) + (fF (0 : Int32).toNatClampNeg)))), .val (.int (1 : Int32))] [])) _
    refine XS.iloadN X18.here hx rfl (hb hby d1_38) rfl ?_
    show Steps p.tables e below (T18.setTop (mkF m 39 #[.val (.ref o0), .val (.ref o1), .val (.int ((0 : Int32) + ((1 : Int32) + (fF (0 : Int32).toNatClampNeg)))), .val (.int (1 : Int32))] [(.int (1 : Int32))])) _
    refine XS.aloadN X18.here hx rfl (hb hby d1_39) rfl rfl ?_
    show Steps p.tables e below (T18.setTop (mkF m 40 #[.val (.ref o0), .val (.ref o1), .val (.int ((0 : Int32) + ((1 : Int32) + (fF (0 : Int32).toNatClampNeg)))), .val (.int (1 : Int32))] [(.ref o1), (.int (1 : Int32))])) _
    refine AV.len c19_5 X18 hx hZ e18 (hb hby d1_40) ?_
    show Steps p.tables e below (T18.setTop (mkF m 41 #[.val (.ref o0), .val (.ref o1), .val (.int ((0 : Int32) + ((1 : Int32) + (fF (0 : Int32).toNatClampNeg)))), .val (.int (1 : Int32))] [(.int (2 : Int32)), (.int (1 : Int32))])) _
    refine XS.icmpNo X18.here hx rfl (hb hby d1_41) rfl (tlt (by decide)).2.1 ?_
    show Steps p.tables e below (T18.setTop (mkF m 44 #[.val (.ref o0), .val (.ref o1), .val (.int ((0 : Int32) + ((1 : Int32) + (fF (0 : Int32).toNatClampNeg)))), .val (.int (1 : Int32))] [])) _
    refine XS.aloadN X18.here hx rfl (hb hby d1_44) rfl rfl ?_
    show Steps p.tables e below (T18.setTop (mkF m 45 #[.val (.ref o0), .val (.ref o1), .val (.int ((0 : Int32) + ((1 : Int32) + (fF (0 : Int32).toNatClampNeg)))), .val (.int (1 : Int32))] [(.ref o0)])) _
    exact kZ
  obtain ⟨T20, X20, e20, st20⟩ := getF X18 hx hZ hown (host := "") (Or.inl (hw _ (List.mem_of_getElem? (i := 47) rfl))) Via.refl e18 c19_3 (g := (mkF m 45 #[.val (.ref o0), .val (.ref o1), .val (.int ((0 : Int32) + ((1 : Int32) + (fF (0 : Int32).toNatClampNeg)))), .val (.int (1 : Int32))] [(.ref o0)])) rfl rfl (hb hby d1_45)
  refine Go.via st20 ?_
  show Go p e below _ (T20.setTop (mkF m 48 #[.val (.ref o0), .val (.ref o1), .val (.int ((0 : Int32) + ((1 : Int32) + (fF (0 : Int32).toNatClampNeg)))), .val (.int (1 : Int32))] [(.ref b13)]))
  refine Go.via (T' := T20.setTop (mkF m 50 #[.val (.ref o0), .val (.ref o1), .val (.int ((0 : Int32) + ((1 : Int32) + (fF (0 : Int32).toNatClampNeg)))), .val (.int (1 : Int32))] [(.int ((0 : Int32) + ((1 : Int32) + (fF (0 : Int32).toNatClampNeg)))), (.int (1 : Int32)), (.ref b13)])) (fun tZ kZ => ?_) ?_
  · show Steps p.tables e below (T20.setTop (mkF m 48 #[.val (.ref o0), .val (.ref o1), .val (.int ((0 : Int32) + ((1 : Int32) + (fF (0 : Int32).toNatClampNeg)))), .val (.int (1 : Int32))] [(.ref b13)])) _
    refine XS.iloadN X20.here hx rfl (hb hby d1_48) rfl ?_
    show Steps p.tables e below (T20.setTop (mkF m 49 #[.val (.ref o0), .val (.ref o1), .val (.int ((0 : Int32) + ((1 : Int32) + (fF (0 : Int32).toNatClampNeg)))), .val (.int (1 : Int32))] [(.int (1 : Int32)), (.ref b13)])) _
    refine XS.iloadN X20.here hx rfl (hb hby d1_49) rfl ?_
    show Steps p.tables e below (T20.setTop (mkF m 50 #[.val (.ref o0), .val (.ref o1), .val (.int ((0 : Int32) + ((1 : Int32) + (fF (0 : Int32).toNatClampNeg)))), .val (.int (1 : Int32))] [(.int ((0 : Int32) + ((1 : Int32) + (fF (0 : Int32).toNatClampNeg)))), (.int (1 : Int32)), (.ref b13)])) _
    exact kZ
  obtain ⟨T21, h21, X21, e21, W21, V21, st21⟩ := AV.iastore V18 X20 hx hZ e20 (j := (1 : Int32)) (by decide) (Ls := #[.val (.ref o0), .val (.ref o1), .val (.int ((0 : Int32) + ((1 : Int32) + (fF (0 : Int32).toNatClampNeg)))), .val (.int (1 : Int32))]) (rest := []) (hb hby d1_50) (x := ((0 : Int32) + ((1 : Int32) + (fF (0 : Int32).toNatClampNeg))))
  have N21 := Fr.snoc X21 N18 g_b13
  have c22_0 := c19_0.wr W21
  have c22_1 := c19_1.other W21 (Or.inl ne_o0_b13)
  have c22_2 := c19_2.other W21 (Or.inl ne_o0_b13)
  have c22_3 := c19_3.other W21 (Or.inl ne_o0_b13)
  have c22_5 := c19_5.other W21 ne_o1_b13
  have c22_6 := c19_6.wr W21
  have c22_7 := c19_7.wr W21
  have c22_9 := c19_9.wr W21
  have c22_10 := c19_10.other W21 (Or.inl ne_b2_b13)
  have c22_11 := c19_11.other W21 (Or.inl ne_b2_b13)
  have c22_13 := c19_13.other W21 ne_b8_b13
  have c22_14 := c19_14.wr W21
  have c22_16 := c19_16.wr W21
  have K21 : Keep h0 h21 [o0] := K18.wr W21 (Or.inr sz_b13)
  have Z21 : n0 ≤ h21.size := Nat.le_trans Z18 (Keep.of_wr W21).1
  refine Go.via st21 ?_
  show Go p e below _ (T21.setTop (mkF m 51 #[.val (.ref o0), .val (.ref o1), .val (.int ((0 : Int32) + ((1 : Int32) + (fF (0 : Int32).toNatClampNeg)))), .val (.int (1 : Int32))] []))
  refine Go.via (T' := T21.setTop (mkF m 65 #[.val (.ref o0), .val (.ref o1), .val (.int (w1n2_0 fF)), .val (.int (2 : Int32))] [])) (fun tZ kZ => ?_) ?_
  · show Steps p.tables e below (T21.setTop (mkF m 51 #[.val (.ref o0), .val (.ref o1), .val (.int ((0 : Int32) + ((1 : Int32) + (fF (0 : Int32).toNatClampNeg)))), .val (.int (1 : Int32))] [])) _
    refine XS.iloadN X21.here hx rfl (hb hby d1_51) rfl ?_
    show Steps p.tables e below (T21.setTop (mkF m 52 #[.val (.ref o0), .val (.ref o1), .val (.int ((0 : Int32) + ((1 : Int32) + (fF (0 : Int32).toNatClampNeg)))), .val (.int (1 : Int32))] [(.int ((0 : Int32) + ((1 : Int32) + (fF (0 : Int32).toNatClampNeg))))])) _
    refine XS.iconst X21.here hx rfl (hb hby d1_52) ?_
    show Steps p.tables e below (T21.setTop (mkF m 53 #[.val (.ref o0), .val (.ref o1), .val (.int ((0 : Int32) + ((1 : Int32) + (fF (0 : Int32).toNatClampNeg)))), .val (.int (1 : Int32))] [(.int (1 : Int32)), (.int ((0 : Int32) + ((1 : Int32) + (fF (0 : Int32).toNatClampNeg))))])) _
    refine XS.aloadN X21.here hx rfl (hb hby d1_53) rfl rfl ?_
    show Steps p.tables e below (T21.setTop (mkF m 54 #[.val (.ref o0), .val (.ref o1), .val (.int ((0 : Int32) + ((1 : Int32) + (fF (0 : Int32).toNatClampNeg)))), .val (.int (1 : Int32))] [(.ref o1), (.int (1 : Int32)), (.int ((0 : Int32) + ((1 : Int32) + (fF (0 : Int32).toNatClampNeg))))])) _
    refine XS.iloadN X21.here hx rfl (hb hby d1_54) rfl ?_
    show Steps p.tables e below (T21.setTop (mkF m 55 #[.val (.ref o0), .val (.ref o1), .val (.int ((0 : Int32) + ((1 : Int32) + (fF (0 : Int32).toNatClampNeg)))), .val (.int (1 : Int32))] [(.int (1 : Int32)), (.ref o1), (.int (1 : Int32)), (.int ((0 : Int32) + ((1 : Int32) + (fF (0 : Int32).toNatClampNeg))))])) _
    refine AV.iaload c22_5 X21 hx hZ e21 (j := (1 : Int32)) (by decide) (hb hby d1_55) ?_
    show Steps p.tables e below (T21.setTop (mkF m 56 #[.val (.ref o0), .val (.ref o1), .val (.int ((0 : Int32) + ((1 : Int32) + (fF (0 : Int32).toNatClampNeg)))), .val (.int (1 : Int32))] [(.int (fF (1 : Int32).toNatClampNeg)), (.int (1 : Int32)), (.int ((0 : Int32) + ((1 : Int32) + (fF (0 : Int32).toNatClampNeg))))])) _
    refine XS.iadd X21.here hx rfl (hb hby d1_56) rfl ?_
    show Steps p.tables e below (T21.setTop (mkF m 57 #[.val (.ref o0), .val (.ref o1), .val (.int ((0 : Int32) + ((1 : Int32) + (fF (0 : Int32).toNatClampNeg)))), .val (.int (1 : Int32))] [(.int ((1 : Int32) + (fF (1 : Int32).toNatClampNeg))), (.int ((0 : Int32) + ((1 : Int32) + (fF (0 : Int32).toNatClampNeg))))])) _
    refine XS.iadd X21.here hx rfl (hb hby d1_57) rfl ?_
    show Steps p.tables e below (T21.setTop (mkF m 58 #[.val (.ref o0), .val (.ref o1), .val (.int ((0 : Int32) + ((1 : Int32) + (fF (0 : Int32).toNatClampNeg)))), .val (.int (1 : Int32))] [(.int (((0 : Int32) + ((1 : Int32) + (fF (0 : Int32).toNatClampNeg))) + ((1 : Int32) + (fF (1 : Int32).toNatClampNeg))))])) _
    refine XS.istoreN X21.here hx rfl (hb hby d1_58) rfl (l' := #[.val (.ref o0), .val (.ref o1), .val (.int (w1n2_0 fF)), .val (.int (1 : Int32))]) rfl ?_
    show Steps p.tables e below (T21.setTop (mkF m 59 #[.val (.ref o0), .val (.ref o1), .val (.int (w1n2_0 fF)), .val (.int (1 : Int32))] [])) _
    refine XS.iinc X21.here hx rfl (hb hby d1_59) rfl (l' := #[.val (.ref o0), .val (.ref o1), .val (.int (w1n2_0 fF)), .val (.int (2 : Int32))]) rfl ?_
    show Steps p.tables e below (T21.setTop (mkF m 62 #[.val (.ref o0), .val (.ref o1), .val (.int (w1n2_0 fF)), .val (.int (2 : Int32))] [])) _
    refine XS.goto X21.here hx rfl (pc0 := 62) (pc' := 38) rfl (hb hby d1_62) (by decide) (by decide) ?_
    show Steps p.tables e below (T21.setTop (mkF m 38 #[.val (.ref o0), .val (.ref o1), .val (.int (w1n2_0 fF)), .val (.int (2 : Int32))] [])) _
    refine XS.iloadN X21.here hx rfl (hb hby d1_38) rfl ?_
    show Steps p.tables e below (T21.setTop (mkF m 39 #[.val (.ref o0), .val (.ref o1), .val (.int (w1n2_0 fF)), .val (.int (2 : Int32))] [(.int (2 : Int32))])) _
    refine XS.aloadN X21.here hx rfl (hb hby d1_39) rfl rfl ?_
    show Steps p.tables e below (T21.setTop (mkF m 40 #[.val (.ref o0), .val (.ref o1), .val (.int (w1n2_0 fF)), .val (.int (2 : Int32))] [(.ref o1), (.int (2 : Int32))])) _
    refine AV.len c22_5 X21 hx hZ e21 (hb hby d1_40) ?_
    show Steps p.tables e below (T21.setTop (mkF m 41 #[.val (.ref o0), .val (.ref o1), .val (.int (w1n2_0 fF)), .val (.int (2 : Int32))] [(.int (2 : Int32)), (.int (2 : Int32))])) _
    refine XS.icmpYes X21.here hx rfl (pc0 := 41) (pc' := 65) rfl (hb hby d1_41) rfl (flt (by decide)).2.1 (by decide) (by decide) ?_
    show Steps p.tables e below (T21.setTop (mkF m 65 #[.val (.ref o0), .val (.ref o1), .val (.int (w1n2_0 fF)), .val (.int (2 : Int32))] [])) _
    exact kZ
  refine Go.retV X21 hx Bd.notSynchronized Bd.returns (hb hby d1_65) (by decide) (by decide) ?_
  rw [e21]
  exact ⟨rfl, N21, b8, sz_b8, K21, c22_0, c22_2, c22_5, c22_6, c22_7, c22_13, c22_14⟩
def f6n2 (o0 : Addr) (cA : Addr) (fF : Nat → Int32) : Int32 := (if (fF (0 : Int32).toNatClampNeg) = (1 : Int32) then (if (fF (1 : Int32).toNatClampNeg) = (1 : Int32) then (1 : Int32) else (0 : Int32)) else (0 : Int32))
def Q6n2 (o0 : Addr) (cA : Addr) (fF : Nat → Int32) (h0 : Heap) (n0 : Nat) (v : Option Value) (h : Heap) (L : List Loc) : Prop := v = some (.int (f6n2 o0 cA fF)) ∧ Fr n0 L ∧ h = h0
set_option maxRecDepth 65536 in
set_option maxHeartbeats 40000000 in
theorem rm6n2 (l : Launch) (Z : State) (a0 : Array Value) (hw : ∀ d ∈ tables_1, d.before a0 Z = true) (ws : List Jvm.Cond) (o0 : Addr) (cA : Addr) (fF : Nat → Int32) (h0 : Heap) (n0 : Nat) (Z0 : n0 ≤ h0.size) (ha0 : Fld Z h0 o0 "com/example/ltlconv/ltlconv/dra/RabinDraft" "infiniteCounts" "[I" (.ref cA)) (ha1 : AV Z h0 cA .int 2 (fun k => .int (fF k))) :
    MetFree l (⟨"com/example/ltlconv/ltlconv/dra/RabinDraft", "isRabin", "()Z"⟩ : MethodName) (head1 (Jvm.Cond.code (⟨"com/example/ltlconv/ltlconv/dra/RabinDraft", "isRabin", "()Z"⟩ : MethodName) prog_52_method_14_code 5 (some .boolean) :: ws) ({ frames := 0, cells := 0, slots := 0, locals := 0 } : Room)) (fun a U => a = #[(.ref o0)] ∧ Z.Warmed39 U.vm ∧ U.heap = h0) (fun _ _ _ _ _ => True) (fun _ U o U' => ∃ v L, o = .returned v ∧ Q6n2 o0 cA fF h0 n0 v U'.heap L ∧ FrameEnd U o U' L ({ frames := 0, cells := 0, slots := 0, locals := 0 } : Room).cells ({ frames := 0, cells := 0, slots := 0, locals := 0 } : Room).slots) := by
  refine MetFree.of_bodySF (plainFor_of_name pn_3) hisR ?_
  intro p e s m args below meth c s₁ Bd hml0 hP hK
  obtain ⟨rfl, hZ, hh⟩ := hP
  have hx := Bd.exec
  have hby := Bd.bytes
  have hml : c.maxLocals = 5 := hml0
  have hown : s.vm.findClass "com/example/ltlconv/ltlconv/dra/RabinDraft" = some m.cls := findClass_of_methodNamed Bd.named
  have hnm := (name_of_methodNamed Bd.named Bd.method).1
  have X0 : Stand p l e ({ frames := 0, cells := 0, slots := 0, locals := 0 } : Room) s m #[(.ref o0)] below meth c s₁ [] 0 0 := Stand.of_body Bd
  have e0 : s₁.heap = h0 := by rw [← hh, Bd.state]; rfl
  have N0 := Fr.nil n0
  refine Go.into (P := fun oo uu => ∃ v L, oo = .returned v ∧ Q6n2 o0 cA fF h0 n0 v uu.heap L ∧ FrameEnd s oo uu L ({ frames := 0, cells := 0, slots := 0, locals := 0 } : Room).cells ({ frames := 0, cells := 0, slots := 0, locals := 0 } : Room).slots) (ef_6_a m o0) ?_
  show Go p e below _ (s₁.setTop (mkF m 0 #[.val (.ref o0), .unset, .unset, .unset, .unset] []))
  refine Go.via (T' := s₁.setTop (mkF m 1 #[.val (.ref o0), .unset, .unset, .unset, .unset] [(.ref o0)])) (fun tZ kZ => ?_) ?_
  · show Steps p.tables e below (s₁.setTop (mkF m 0 #[.val (.ref o0), .unset, .unset, .unset, .unset] [])) _
    refine XS.aloadN X0.here hx rfl (hb hby d6_0) rfl rfl ?_
    show Steps p.tables e below (s₁.setTop (mkF m 1 #[.val (.ref o0), .unset, .unset, .unset, .unset] [(.ref o0)])) _
    exact kZ
  obtain ⟨T1, X1, e1, st1⟩ := getF X0 hx hZ hown (host := "") (Or.inl (hw _ (List.mem_of_getElem? (i := 45) rfl))) Via.refl e0 ha0 (g := (mkF m 1 #[.val (.ref o0), .unset, .unset, .unset, .unset] [(.ref o0)])) rfl rfl (hb hby d6_1)
  refine Go.via st1 ?_
  show Go p e below _ (T1.setTop (mkF m 4 #[.val (.ref o0), .unset, .unset, .unset, .unset] [(.ref cA)]))
  refine Go.via (T' := T1.setTop (mkF m 23 #[.val (.ref o0), .val (.ref cA), .val (.int (2 : Int32)), .val (.int (0 : Int32)), .val (.int (fF (0 : Int32).toNatClampNeg))] [(.int (1 : Int32)), (.int (fF (0 : Int32).toNatClampNeg))])) (fun tZ kZ => ?_) ?_
  · show Steps p.tables e below (T1.setTop (mkF m 4 #[.val (.ref o0), .unset, .unset, .unset, .unset] [(.ref cA)])) _
    refine XS.astoreN X1.here hx rfl (hb hby d6_4) rfl rfl (l' := #[.val (.ref o0), .val (.ref cA), .unset, .unset, .unset]) rfl ?_
    show Steps p.tables e below (T1.setTop (mkF m 5 #[.val (.ref o0), .val (.ref cA), .unset, .unset, .unset] [])) _
    refine XS.aloadN X1.here hx rfl (hb hby d6_5) rfl rfl ?_
    show Steps p.tables e below (T1.setTop (mkF m 6 #[.val (.ref o0), .val (.ref cA), .unset, .unset, .unset] [(.ref cA)])) _
    refine AV.len ha1 X1 hx hZ e1 (hb hby d6_6) ?_
    show Steps p.tables e below (T1.setTop (mkF m 7 #[.val (.ref o0), .val (.ref cA), .unset, .unset, .unset] [(.int (2 : Int32))])) _
    refine XS.istoreN X1.here hx rfl (hb hby d6_7) rfl (l' := #[.val (.ref o0), .val (.ref cA), .val (.int (2 : Int32)), .unset, .unset]) rfl ?_
    show Steps p.tables e below (T1.setTop (mkF m 8 #[.val (.ref o0), .val (.ref cA), .val (.int (2 : Int32)), .unset, .unset] [])) _
    refine XS.iconst X1.here hx rfl (hb hby d6_8) ?_
    show Steps p.tables e below (T1.setTop (mkF m 9 #[.val (.ref o0), .val (.ref cA), .val (.int (2 : Int32)), .unset, .unset] [(.int (0 : Int32))])) _
    refine XS.istoreN X1.here hx rfl (hb hby d6_9) rfl (l' := #[.val (.ref o0), .val (.ref cA), .val (.int (2 : Int32)), .val (.int (0 : Int32)), .unset]) rfl ?_
    show Steps p.tables e below (T1.setTop (mkF m 10 #[.val (.ref o0), .val (.ref cA), .val (.int (2 : Int32)), .val (.int (0 : Int32)), .unset] [])) _
    refine XS.iloadN X1.here hx rfl (hb hby d6_10) rfl ?_
    show Steps p.tables e below (T1.setTop (mkF m 11 #[.val (.ref o0), .val (.ref cA), .val (.int (2 : Int32)), .val (.int (0 : Int32)), .unset] [(.int (0 : Int32))])) _
    refine XS.iloadN X1.here hx rfl (hb hby d6_11) rfl ?_
    show Steps p.tables e below (T1.setTop (mkF m 12 #[.val (.ref o0), .val (.ref cA), .val (.int (2 : Int32)), .val (.int (0 : Int32)), .unset] [(.int (2 : Int32)), (.int (0 : Int32))])) _
    refine XS.icmpNo X1.here hx rfl (hb hby d6_12) rfl (tlt (by decide)).2.1 ?_
    show Steps p.tables e below (T1.setTop (mkF m 15 #[.val (.ref o0), .val (.ref cA), .val (.int (2 : Int32)), .val (.int (0 : Int32)), .unset] [])) _
    refine XS.aloadN X1.here hx rfl (hb hby d6_15) rfl rfl ?_
    show Steps p.tables e below (T1.setTop (mkF m 16 #[.val (.ref o0), .val (.ref cA), .val (.int (2 : Int32)), .val (.int (0 : Int32)), .unset] [(.ref cA)])) _
    refine XS.iloadN X1.here hx rfl (hb hby d6_16) rfl ?_
    show Steps p.tables e below (T1.setTop (mkF m 17 #[.val (.ref o0), .val (.ref cA), .val (.int (2 : Int32)), .val (.int (0 : Int32)), .unset] [(.int (0 : Int32)), (.ref cA)])) _
    refine AV.iaload ha1 X1 hx hZ e1 (j := (0 : Int32)) (by decide) (hb hby d6_17) ?_
    show Steps p.tables e below (T1.setTop (mkF m 18 #[.val (.ref o0), .val (.ref cA), .val (.int (2 : Int32)), .val (.int (0 : Int32)), .unset] [(.int (fF (0 : Int32).toNatClampNeg))])) _
    refine XS.istore X1.here hx rfl (hb hby d6_18) rfl (l' := #[.val (.ref o0), .val (.ref cA), .val (.int (2 : Int32)), .val (.int (0 : Int32)), .val (.int (fF (0 : Int32).toNatClampNeg))]) rfl ?_
    show Steps p.tables e below (T1.setTop (mkF m 20 #[.val (.ref o0), .val (.ref cA), .val (.int (2 : Int32)), .val (.int (0 : Int32)), .val (.int (fF (0 : Int32).toNatClampNeg))] [])) _
    refine XS.iload X1.here hx rfl (hb hby d6_20) rfl ?_
    show Steps p.tables e below (T1.setTop (mkF m 22 #[.val (.ref o0), .val (.ref cA), .val (.int (2 : Int32)), .val (.int (0 : Int32)), .val (.int (fF (0 : Int32).toNatClampNeg))] [(.int (fF (0 : Int32).toNatClampNeg))])) _
    refine XS.iconst X1.here hx rfl (hb hby d6_22) ?_
    show Steps p.tables e below (T1.setTop (mkF m 23 #[.val (.ref o0), .val (.ref cA), .val (.int (2 : Int32)), .val (.int (0 : Int32)), .val (.int (fF (0 : Int32).toNatClampNeg))] [(.int (1 : Int32)), (.int (fF (0 : Int32).toNatClampNeg))])) _
    exact kZ
  by_cases hc23 : (fF (0 : Int32).toNatClampNeg) = (1 : Int32)
  · refine Go.via (T' := T1.setTop (mkF m 28 #[.val (.ref o0), .val (.ref cA), .val (.int (2 : Int32)), .val (.int (0 : Int32)), .val (.int (fF (0 : Int32).toNatClampNeg))] [])) (fun tZ kZ => ?_) ?_
    · show Steps p.tables e below (T1.setTop (mkF m 23 #[.val (.ref o0), .val (.ref cA), .val (.int (2 : Int32)), .val (.int (0 : Int32)), .val (.int (fF (0 : Int32).toNatClampNeg))] [(.int (1 : Int32)), (.int (fF (0 : Int32).toNatClampNeg))])) _
      refine XS.icmpYes X1.here hx rfl (pc0 := 23) (pc' := 28) rfl (hb hby d6_23) rfl (teq hc23).1 (by decide) (by decide) ?_
      exact kZ
    refine Go.via (T' := T1.setTop (mkF m 23 #[.val (.ref o0), .val (.ref cA), .val (.int (2 : Int32)), .val (.int (1 : Int32)), .val (.int (fF (1 : Int32).toNatClampNeg))] [(.int (1 : Int32)), (.int (fF (1 : Int32).toNatClampNeg))])) (fun tZ kZ => ?_) ?_
    · show Steps p.tables e below (T1.setTop (mkF m 28 #[.val (.ref o0), .val (.ref cA), .val (.int (2 : Int32)), .val (.int (0 : Int32)), .val (.int (fF (0 : Int32).toNatClampNeg))] [])) _
      refine XS.iinc X1.here hx rfl (hb hby d6_28) rfl (l' := #[.val (.ref o0), .val (.ref cA), .val (.int (2 : Int32)), .val (.int (1 : Int32)), .val (.int (fF (0 : Int32).toNatClampNeg))]) rfl ?_
      show Steps p.tables e below (T1.setTop (mkF m 31 #[.val (.ref o0), .val (.ref cA), .val (.int (2 : Int32)), .val (.int (1 : Int32)), .val (.int (fF (0 : Int32).toNatClampNeg))] [])) _
      refine XS.goto X1.here hx rfl (pc0 := 31) (pc' := 10) rfl (hb hby d6_31) (by decide) (by decide) ?_
      show Steps p.tables e below (T1.setTop (mkF m 10 #[.val (.ref o0), .val (.ref cA), .val (.int (2 : Int32)), .val (.int (1 : Int32)), .val (.int (fF (0 : Int32).toNatClampNeg))] [])) _
      refine XS.iloadN X1.here hx rfl (hb hby d6_10) rfl ?_
      show Steps p.tables e below (T1.setTop (mkF m 11 #[.val (.ref o0), .val (.ref cA), .val (.int (2 : Int32)), .val (.int (1 : Int32)), .val (.int (fF (0 : Int32).toNatClampNeg))] [(.int (1 : Int32))])) _
      refine XS.iloadN X1.here hx rfl (hb hby d6_11) rfl ?_
      show Steps p.tables e below (T1.setTop (mkF m 12 #[.val (.ref o0), .val (.ref cA), .val (.int (2 : Int32)), .val (.int (1 : Int32)), .val (.int (fF (0 : Int32).toNatClampNeg))] [(.int (2 : Int32)), (.int (1 : Int32))])) _
      refine XS.icmpNo X1.here hx rfl (hb hby d6_12) rfl (tlt (by decide)).2.1 ?_
      show Steps p.tables e below (T1.setTop (mkF m 15 #[.val (.ref o0), .val (.ref cA), .val (.int (2 : Int32)), .val (.int (1 : Int32)), .val (.int (fF (0 : Int32).toNatClampNeg))] [])) _
      refine XS.aloadN X1.here hx rfl (hb hby d6_15) rfl rfl ?_
      show Steps p.tables e below (T1.setTop (mkF m 16 #[.val (.ref o0), .val (.ref cA), .val (.int (2 : Int32)), .val (.int (1 : Int32)), .val (.int (fF (0 : Int32).toNatClampNeg))] [(.ref cA)])) _
      refine XS.iloadN X1.here hx rfl (hb hby d6_16) rfl ?_
      show Steps p.tables e below (T1.setTop (mkF m 17 #[.val (.ref o0), .val (.ref cA), .val (.int (2 : Int32)), .val (.int (1 : Int32)), .val (.int (fF (0 : Int32).toNatClampNeg))] [(.int (1 : Int32)), (.ref cA)])) _
      refine AV.iaload ha1 X1 hx hZ e1 (j := (1 : Int32)) (by decide) (hb hby d6_17) ?_
      show Steps p.tables e below (T1.setTop (mkF m 18 #[.val (.ref o0), .val (.ref cA), .val (.int (2 : Int32)), .val (.int (1 : Int32)), .val (.int (fF (0 : Int32).toNatClampNeg))] [(.int (fF (1 : Int32).toNatClampNeg))])) _
      refine XS.istore X1.here hx rfl (hb hby d6_18) rfl (l' := #[.val (.ref o0), .val (.ref cA), .val (.int (2 : Int32)), .val (.int (1 : Int32)), .val (.int (fF (1 : Int32).toNatClampNeg))]) rfl ?_
      show Steps p.tables e below (T1.setTop (mkF m 20 #[.val (.ref o0), .val (.ref cA), .val (.int (2 : Int32)), .val (.int (1 : Int32)), .val (.int (fF (1 : Int32).toNatClampNeg))] [])) _
      refine XS.iload X1.here hx rfl (hb hby d6_20) rfl ?_
      show Steps p.tables e below (T1.setTop (mkF m 22 #[.val (.ref o0), .val (.ref cA), .val (.int (2 : Int32)), .val (.int (1 : Int32)), .val (.int (fF (1 : Int32).toNatClampNeg))] [(.int (fF (1 : Int32).toNatClampNeg))])) _
      refine XS.iconst X1.here hx rfl (hb hby d6_22) ?_
      show Steps p.tables e below (T1.setTop (mkF m 23 #[.val (.ref o0), .val (.ref cA), .val (.int (2 : Int32)), .val (.int (1 : Int32)), .val (.int (fF (1 : Int32).toNatClampNeg))] [(.int (1 : Int32)), (.int (fF (1 : Int32).toNatClampNeg))])) _
      exact kZ
    by_cases hc23_1 : (fF (1 : Int32).toNatClampNeg) = (1 : Int32)
    · refine Go.via (T' := T1.setTop (mkF m 28 #[.val (.ref o0), .val (.ref cA), .val (.int (2 : Int32)), .val (.int (1 : Int32)), .val (.int (fF (1 : Int32).toNatClampNeg))] [])) (fun tZ kZ => ?_) ?_
      · show Steps p.tables e below (T1.setTop (mkF m 23 #[.val (.ref o0), .val (.ref cA), .val (.int (2 : Int32)), .val (.int (1 : Int32)), .val (.int (fF (1 : Int32).toNatClampNeg))] [(.int (1 : Int32)), (.int (fF (1 : Int32).toNatClampNeg))])) _
        refine XS.icmpYes X1.here hx rfl (pc0 := 23) (pc' := 28) rfl (hb hby d6_23) rfl (teq hc23_1).1 (by decide) (by decide) ?_
        exact kZ
      refine Go.via (T' := T1.setTop (mkF m 35 #[.val (.ref o0), .val (.ref cA), .val (.int (2 : Int32)), .val (.int (2 : Int32)), .val (.int (fF (1 : Int32).toNatClampNeg))] [(.int (1 : Int32))])) (fun tZ kZ => ?_) ?_
      · show Steps p.tables e below (T1.setTop (mkF m 28 #[.val (.ref o0), .val (.ref cA), .val (.int (2 : Int32)), .val (.int (1 : Int32)), .val (.int (fF (1 : Int32).toNatClampNeg))] [])) _
        refine XS.iinc X1.here hx rfl (hb hby d6_28) rfl (l' := #[.val (.ref o0), .val (.ref cA), .val (.int (2 : Int32)), .val (.int (2 : Int32)), .val (.int (fF (1 : Int32).toNatClampNeg))]) rfl ?_
        show Steps p.tables e below (T1.setTop (mkF m 31 #[.val (.ref o0), .val (.ref cA), .val (.int (2 : Int32)), .val (.int (2 : Int32)), .val (.int (fF (1 : Int32).toNatClampNeg))] [])) _
        refine XS.goto X1.here hx rfl (pc0 := 31) (pc' := 10) rfl (hb hby d6_31) (by decide) (by decide) ?_
        show Steps p.tables e below (T1.setTop (mkF m 10 #[.val (.ref o0), .val (.ref cA), .val (.int (2 : Int32)), .val (.int (2 : Int32)), .val (.int (fF (1 : Int32).toNatClampNeg))] [])) _
        refine XS.iloadN X1.here hx rfl (hb hby d6_10) rfl ?_
        show Steps p.tables e below (T1.setTop (mkF m 11 #[.val (.ref o0), .val (.ref cA), .val (.int (2 : Int32)), .val (.int (2 : Int32)), .val (.int (fF (1 : Int32).toNatClampNeg))] [(.int (2 : Int32))])) _
        refine XS.iloadN X1.here hx rfl (hb hby d6_11) rfl ?_
        show Steps p.tables e below (T1.setTop (mkF m 12 #[.val (.ref o0), .val (.ref cA), .val (.int (2 : Int32)), .val (.int (2 : Int32)), .val (.int (fF (1 : Int32).toNatClampNeg))] [(.int (2 : Int32)), (.int (2 : Int32))])) _
        refine XS.icmpYes X1.here hx rfl (pc0 := 12) (pc' := 34) rfl (hb hby d6_12) rfl (flt (by decide)).2.1 (by decide) (by decide) ?_
        show Steps p.tables e below (T1.setTop (mkF m 34 #[.val (.ref o0), .val (.ref cA), .val (.int (2 : Int32)), .val (.int (2 : Int32)), .val (.int (fF (1 : Int32).toNatClampNeg))] [])) _
        refine XS.iconst X1.here hx rfl (hb hby d6_34) ?_
        show Steps p.tables e below (T1.setTop (mkF m 35 #[.val (.ref o0), .val (.ref cA), .val (.int (2 : Int32)), .val (.int (2 : Int32)), .val (.int (fF (1 : Int32).toNatClampNeg))] [(.int (1 : Int32))])) _
        exact kZ
      refine Go.retN X1 hx Bd.notSynchronized (t := .boolean) Bd.returns (by simp) (hb hby d6_35) (by decide) (by decide) ?_
      refine ⟨?_, N0, e1⟩
      show some ((Value.int (nar .boolean (1 : Int32))) : Value) = some (.int (f6n2 o0 cA fF))
      unfold f6n2; rw [if_pos hc23, if_pos hc23_1] <;> rfl
    · refine Go.via (T' := T1.setTop (mkF m 26 #[.val (.ref o0), .val (.ref cA), .val (.int (2 : Int32)), .val (.int (1 : Int32)), .val (.int (fF (1 : Int32).toNatClampNeg))] [])) (fun tZ kZ => ?_) ?_
      · show Steps p.tables e below (T1.setTop (mkF m 23 #[.val (.ref o0), .val (.ref cA), .val (.int (2 : Int32)), .val (.int (1 : Int32)), .val (.int (fF (1 : Int32).toNatClampNeg))] [(.int (1 : Int32)), (.int (fF (1 : Int32).toNatClampNeg))])) _
        refine XS.icmpNo X1.here hx rfl (hb hby d6_23) rfl (feq hc23_1).1 ?_
        exact kZ
      refine Go.via (T' := T1.setTop (mkF m 27 #[.val (.ref o0), .val (.ref cA), .val (.int (2 : Int32)), .val (.int (1 : Int32)), .val (.int (fF (1 : Int32).toNatClampNeg))] [(.int (0 : Int32))])) (fun tZ kZ => ?_) ?_
      · show Steps p.tables e below (T1.setTop (mkF m 26 #[.val (.ref o0), .val (.ref cA), .val (.int (2 : Int32)), .val (.int (1 : Int32)), .val (.int (fF (1 : Int32).toNatClampNeg))] [])) _
        refine XS.iconst X1.here hx rfl (hb hby d6_26) ?_
        show Steps p.tables e below (T1.setTop (mkF m 27 #[.val (.ref o0), .val (.ref cA), .val (.int (2 : Int32)), .val (.int (1 : Int32)), .val (.int (fF (1 : Int32).toNatClampNeg))] [(.int (0 : Int32))])) _
        exact kZ
      refine Go.retN X1 hx Bd.notSynchronized (t := .boolean) Bd.returns (by simp) (hb hby d6_27) (by decide) (by decide) ?_
      refine ⟨?_, N0, e1⟩
      show some ((Value.int (nar .boolean (0 : Int32))) : Value) = some (.int (f6n2 o0 cA fF))
      unfold f6n2; rw [if_pos hc23, if_neg hc23_1] <;> rfl
  · refine Go.via (T' := T1.setTop (mkF m 26 #[.val (.ref o0), .val (.ref cA), .val (.int (2 : Int32)), .val (.int (0 : Int32)), .val (.int (fF (0 : Int32).toNatClampNeg))] [])) (fun tZ kZ => ?_) ?_
    · show Steps p.tables e below (T1.setTop (mkF m 23 #[.val (.ref o0), .val (.ref cA), .val (.int (2 : Int32)), .val (.int (0 : Int32)), .val (.int (fF (0 : Int32).toNatClampNeg))] [(.int (1 : Int32)), (.int (fF (0 : Int32).toNatClampNeg))])) _
      refine XS.icmpNo X1.here hx rfl (hb hby d6_23) rfl (feq hc23).1 ?_
      exact kZ
    refine Go.via (T' := T1.setTop (mkF m 27 #[.val (.ref o0), .val (.ref cA), .val (.int (2 : Int32)), .val (.int (0 : Int32)), .val (.int (fF (0 : Int32).toNatClampNeg))] [(.int (0 : Int32))])) (fun tZ kZ => ?_) ?_
    · show Steps p.tables e below (T1.setTop (mkF m 26 #[.val (.ref o0), .val (.ref cA), .val (.int (2 : Int32)), .val (.int (0 : Int32)), .val (.int (fF (0 : Int32).toNatClampNeg))] [])) _
      refine XS.iconst X1.here hx rfl (hb hby d6_26) ?_
      show Steps p.tables e below (T1.setTop (mkF m 27 #[.val (.ref o0), .val (.ref cA), .val (.int (2 : Int32)), .val (.int (0 : Int32)), .val (.int (fF (0 : Int32).toNatClampNeg))] [(.int (0 : Int32))])) _
      exact kZ
    refine Go.retN X1 hx Bd.notSynchronized (t := .boolean) Bd.returns (by simp) (hb hby d6_27) (by decide) (by decide) ?_
    refine ⟨?_, N0, e1⟩
    show some ((Value.int (nar .boolean (0 : Int32))) : Value) = some (.int (f6n2 o0 cA fF))
    unfold f6n2; rw [if_neg hc23] <;> rfl
def w1n3_0 (fF : Nat → Int32) : Int32 := (((0 : Int32) + ((1 : Int32) + (fF (0 : Int32).toNatClampNeg))) + ((1 : Int32) + (fF (1 : Int32).toNatClampNeg)))
def Q1n3 (Z : State) (o0 : Addr) (o1 : Addr) (fF : Nat → Int32) (aD : Addr) (h0 : Heap) (n0 : Nat) (v : Option Value) (h : Heap) (L : List Loc) : Prop := v = none ∧ Fr n0 L ∧ ∃ b8 : Addr, h0.size ≤ b8 ∧ Keep h0 h [o0] ∧ Exa Z h o0 "com/example/ltlconv/ltlconv/dra/RabinDraft" ∧ Fld Z h o0 "com/example/ltlconv/ltlconv/dra/RabinDraft" "infiniteCounts" "[I" (.ref b8) ∧ AV Z h o1 .int 3 (fun k => .int (fF k)) ∧ Exa Z h o1 "[I" ∧ Sta Z h "java/util/ArrayList" "DEFAULTCAPACITY_EMPTY_ELEMENTDATA" "[Ljava/lang/Object;" (.ref aD) ∧ AV Z h b8 .int 3 (fun k => .int (fF k)) ∧ Exa Z h b8 "[I"
set_option maxRecDepth 65536 in
set_option maxHeartbeats 40000000 in
theorem rm1n3 (l : Launch) (Z : State) (a0 : Array Value) (hw : ∀ d ∈ tables_1, d.before a0 Z = true) (ws : List Jvm.Cond) (o0 : Addr) (o1 : Addr) (fF : Nat → Int32) (aD : Addr) (h0 : Heap) (n0 : Nat) (Z0 : n0 ≤ h0.size) (ha0 : Exa Z h0 o0 "com/example/ltlconv/ltlconv/dra/RabinDraft") (ha1 : Fld Z h0 o0 "com/example/ltlconv/ltlconv/dra/RabinDraft" "transitions" "Ljava/util/List;" .null) (ha2 : Fld Z h0 o0 "com/example/ltlconv/ltlconv/dra/RabinDraft" "infiniteCounts" "[I" .null) (ha3 : Fld Z h0 o0 "com/example/ltlconv/ltlconv/dra/RabinDraft" "finiteSets" "[I" .null) (ha4 : n0 ≤ o0) (ha5 : AV Z h0 o1 .int 3 (fun k => .int (fF k))) (ha6 : Exa Z h0 o1 "[I") (ha7 : Sta Z h0 "java/util/ArrayList" "DEFAULTCAPACITY_EMPTY_ELEMENTDATA" "[Ljava/lang/Object;" (.ref aD)) (hne_o0_o1 : o0 ≠ o1) :
    MetFree l (⟨"com/example/ltlconv/ltlconv/dra/RabinDraft", "<init>", "([I)V"⟩ : MethodName) (head1 (Jvm.Cond.code (⟨"com/example/ltlconv/ltlconv/dra/RabinDraft", "<init>", "([I)V"⟩ : MethodName) prog_52_method_1_code 4 none :: ws) ({ frames := 4, cells := 3, slots := 9, locals := 50 } : Room)) (fun a U => a = #[(.ref o0), (.ref o1)] ∧ Z.Warmed39 U.vm ∧ U.heap = h0) (fun _ _ _ _ _ => True) (fun _ U o U' => ∃ v L, o = .returned v ∧ Q1n3 Z o0 o1 fF aD h0 n0 v U'.heap L ∧ FrameEnd U o U' L ({ frames := 4, cells := 3, slots := 9, locals := 50 } : Room).cells ({ frames := 4, cells := 3, slots := 9, locals := 50 } : Room).slots) := by
  refine MetFree.of_bodySF (plainFor_of_name pn_3) hisR ?_
  intro p e s m args below meth c s₁ Bd hml0 hP hK
  obtain ⟨rfl, hZ, hh⟩ := hP
  have hx := Bd.exec
  have hby := Bd.bytes
  have hml : c.maxLocals = 4 := hml0
  have hown : s.vm.findClass "com/example/ltlconv/ltlconv/dra/RabinDraft" = some m.cls := findClass_of_methodNamed Bd.named
  have hnm := (name_of_methodNamed Bd.named Bd.method).1
  have X0 : Stand p l e ({ frames := 4, cells := 3, slots := 9, locals := 50 } : Room) s m #[(.ref o0), (.ref o1)] below meth c s₁ [] 0 0 := Stand.of_body Bd
  have e0 : s₁.heap = h0 := by rw [← hh, Bd.state]; rfl
  have N0 := Fr.nil n0
  refine Go.into (P := fun oo uu => ∃ v L, oo = .returned v ∧ Q1n3 Z o0 o1 fF aD h0 n0 v uu.heap L ∧ FrameEnd s oo uu L ({ frames := 4, cells := 3, slots := 9, locals := 50 } : Room).cells ({ frames := 4, cells := 3, slots := 9, locals := 50 } : Room).slots) (ef_1_aa m o0 o1) ?_
  show Go p e below _ (s₁.setTop (mkF m 0 #[.val (.ref o0), .val (.ref o1), .unset, .unset] []))
  refine Go.via (T' := s₁.setTop (mkF m 1 #[.val (.ref o0), .val (.ref o1), .unset, .unset] [(.ref o0)])) (fun tZ kZ => ?_) ?_
  · show Steps p.tables e below (s₁.setTop (mkF m 0 #[.val (.ref o0), .val (.ref o1), .unset, .unset] [])) _
    refine XS.aloadN X0.here hx rfl (hb hby d1_0) rfl rfl ?_
    show Steps p.tables e below (s₁.setTop (mkF m 1 #[.val (.ref o0), .val (.ref o1), .unset, .unset] [(.ref o0)])) _
    exact kZ
  obtain ⟨T1, X1, e1, st1⟩ := initO X0 hx hZ hown (hw _ (List.mem_of_getElem? (i := 7) rfl)) (hw _ (List.mem_of_getElem? (i := 8) rfl)) (hw _ (List.mem_of_getElem? (i := 9) rfl)) e0 (g := (mkF m 1 #[.val (.ref o0), .val (.ref o1), .unset, .unset] [(.ref o0)])) rfl (by rw [hml]; rfl) rfl (hb hby d1_1) (by decide) (W := 0) (by show 2 * 0 + _ ≤ _; exact Nat.le_of_eq rfl) (by decide)
  refine Go.via st1 ?_
  show Go p e below _ (T1.setTop (mkF m 4 #[.val (.ref o0), .val (.ref o1), .unset, .unset] []))
  refine Go.via (T' := T1.setTop (mkF m 5 #[.val (.ref o0), .val (.ref o1), .unset, .unset] [(.ref o0)])) (fun tZ kZ => ?_) ?_
  · show Steps p.tables e below (T1.setTop (mkF m 4 #[.val (.ref o0), .val (.ref o1), .unset, .unset] [])) _
    refine XS.aloadN X1.here hx rfl (hb hby d1_4) rfl rfl ?_
    show Steps p.tables e below (T1.setTop (mkF m 5 #[.val (.ref o0), .val (.ref o1), .unset, .unset] [(.ref o0)])) _
    exact kZ
  obtain ⟨T2, h2, X2, e2, E2, A2, D2, -, st2⟩ := newO X1 hx hZ hown (hw _ (List.mem_of_getElem? (i := 10) rfl)) (hw _ (List.mem_of_getElem? (i := 11) rfl)) (hw _ (List.mem_of_getElem? (i := 12) rfl)) e1 (g := (mkF m 5 #[.val (.ref o0), .val (.ref o1), .unset, .unset] [(.ref o0)])) rfl (hb hby d1_5) (by decide) (by decide)
  obtain ⟨b2, g2⟩ : ∃ z, z = h0.size := ⟨_, rfl⟩
  rw [← g2] at A2 D2 st2
  have g_b2 : n0 ≤ b2 := Nat.le_trans Z0 (Nat.le_of_eq g2.symm)
  have sz_b2 : h0.size ≤ b2 := Nat.le_trans ((Keep.refl h0 [o0])).1 (Nat.le_of_eq g2.symm)
  have ne_o0_b2 : o0 ≠ b2 := Nat.ne_of_lt (Nat.lt_of_lt_of_le ha0.lt (Nat.le_of_eq g2.symm))
  have ne_o1_b2 : o1 ≠ b2 := Nat.ne_of_lt (Nat.lt_of_lt_of_le ha5.lt (Nat.le_of_eq g2.symm))
  have c3_0 := ha0.ext E2
  have c3_1 := ha1.ext E2
  have c3_2 := ha2.ext E2
  have c3_3 := ha3.ext E2
  have c3_5 := ha5.ext E2
  have c3_6 := ha6.ext E2
  have c3_7 := ha7.ext E2
  have K2 : Keep h0 h2 [o0] := (Keep.refl h0 [o0]).ext E2
  have Z2 : n0 ≤ h2.size := Nat.le_trans Z0 E2.1
  have F2_modCount : Fld Z h2 b2 "java/util/AbstractList" "modCount" "I" (.int (0 : Int32)) := D2 (Or.inl (hw _ (List.mem_of_getElem? (i := 30) rfl))) (ty := .int) (by decide)
  have F2_elementData : Fld Z h2 b2 "java/util/ArrayList" "elementData" "[Ljava/lang/Object;" .null := D2 (Or.inl (hw _ (List.mem_of_getElem? (i := 33) rfl))) (ty := (.array (.object "java/lang/Object"))) (by decide)
  refine Go.via st2 ?_
  show Go p e below _ (T2.setTop (mkF m 8 #[.val (.ref o0), .val (.ref o1), .unset, .unset] [(.ref b2), (.ref o0)]))
  refine Go.via (T' := T2.setTop (mkF m 9 #[.val (.ref o0), .val (.ref o1), .unset, .unset] [(.ref b2), (.ref b2), (.ref o0)])) (fun tZ kZ => ?_) ?_
  · show Steps p.tables e below (T2.setTop (mkF m 8 #[.val (.ref o0), .val (.ref o1), .unset, .unset] [(.ref b2), (.ref o0)])) _
    refine XS.dup X2.here hx rfl (hb hby d1_8) rfl rfl ?_
    show Steps p.tables e below (T2.setTop (mkF m 9 #[.val (.ref o0), .val (.ref o1), .unset, .unset] [(.ref b2), (.ref b2), (.ref o0)])) _
    exact kZ
  obtain ⟨_, _, ⟨T4, L4, k4, n4⟩, -, X4, ⟨Lc4, hQ4, l4, y4, z4⟩, st4⟩ := X2.specialBack hx (y := (⟨"java/util/ArrayList", "<init>", "()V"⟩ : MethodName)) rfl hown (mvT hZ (hw _ (List.mem_of_getElem? (i := 13) rfl))) (mvT hZ (hw _ (List.mem_of_getElem? (i := 14) rfl))) (mvT hZ (hw _ (List.mem_of_getElem? (i := 15) rfl))) (by decide) (backOf (W := 2) (rm3 l Z a0 hw [] b2 aD h2 n0 Z2 A2 F2_modCount F2_elementData g_b2 c3_7) hZ (hw _ (List.mem_of_getElem? (i := 15) rfl)) (hw _ (List.mem_of_getElem? (i := 12) rfl)) (by decide) (by decide)) (g := (mkF m 9 #[.val (.ref o0), .val (.ref o1), .unset, .unset] [(.ref b2), (.ref b2), (.ref o0)])) rfl (by rw [hml]; rfl) (Steps.refl _) (a := b2) (argsL := []) (rest := [(.ref b2), (.ref o0)]) (lenOf pd_1 rfl) rfl (by show 2 * 0 + _ ≤ _; exact Nat.le_of_eq rfl) (hb hby d1_9) (fun _ _ => ⟨rfl, e2, (by decide : 0 + 1 + 0 ≤ _), (by decide : 0 + 3 + 0 ≤ _)⟩)
  dsimp only [Pt.U, Pt.locs, Pt.cells, Pt.slots] at X4 l4 y4 z4 st4 hQ4
  subst l4 y4 z4
  obtain ⟨rfl, N4q, Kq4, f4_0, f4_1, f4_2, f4_3⟩ := hQ4
  have c5_0 := c3_0.keep Kq4
  have c5_1 := c3_1.keep Kq4 (ninS ne_o0_b2 nin0)
  have c5_2 := c3_2.keep Kq4 (ninS ne_o0_b2 nin0)
  have c5_3 := c3_3.keep Kq4 (ninS ne_o0_b2 nin0)
  have c5_5 := c3_5.keep Kq4 (ninS ne_o1_b2 nin0)
  have c5_6 := c3_6.keep Kq4
  have K4 : Keep h0 T4.heap [o0] := K2.trans Kq4 (allS (Or.inr sz_b2) all0)
  have Z4 : n0 ≤ T4.heap.size := Nat.le_trans Z2 Kq4.1
  have N4 := Fr.app N0 N4q
  refine Go.via (fun t k => st4.trans k) ?_
  show Go p e below _ (T4.setTop (mkF m 12 #[.val (.ref o0), .val (.ref o1), .unset, .unset] [(.ref b2), (.ref o0)]))
  obtain ⟨T6, h6, X6, e6, W6, st6⟩ := putF X4 hx hZ hown (host := "") (Or.inl (hw _ (List.mem_of_getElem? (i := 34) rfl))) Via.refl rfl c5_1 c5_0 (Or.inr ⟨(hw _ (List.mem_of_getElem? (i := 35) rfl)), rfl, hnm⟩) (hw _ (List.mem_of_getElem? (i := 2) rfl)) (ty := (.object "java/util/List")) (by decide) rfl rfl (g := (mkF m 12 #[.val (.ref o0), .val (.ref o1), .unset, .unset] [(.ref b2), (.ref o0)])) rfl rfl (hb hby d1_12)
  have N6 := Fr.snoc X6 N4 ha4
  have c7_0 := c5_0.wr W6
  have c7_2 := c5_2.other W6 (Or.inr (slot_ne (Or.inr (hw _ (List.mem_of_getElem? (i := 46) rfl))) (Or.inr (hw _ (List.mem_of_getElem? (i := 35) rfl))) (by decide) (t := (.array .int)) (t' := (.object "java/util/List")) (by decide) (by decide)))
  have c7_3 := c5_3.other W6 (Or.inr (slot_ne (Or.inr (hw _ (List.mem_of_getElem? (i := 48) rfl))) (Or.inr (hw _ (List.mem_of_getElem? (i := 35) rfl))) (by decide) (t := (.array .int)) (t' := (.object "java/util/List")) (by decide) (by decide)))
  have c7_5 := c5_5.other W6 (Ne.symm hne_o0_o1)
  have c7_6 := c5_6.wr W6
  have c7_7 := f4_3.wr W6
  have c7_9 := f4_0.wr W6
  have c7_10 := f4_1.other W6 (Or.inl (Ne.symm ne_o0_b2))
  have c7_11 := f4_2.other W6 (Or.inl (Ne.symm ne_o0_b2))
  have K6 : Keep h0 h6 [o0] := K4.wr W6 (Or.inl (by simp))
  have Z6 : n0 ≤ h6.size := Nat.le_trans Z4 (Keep.of_wr W6).1
  have Fw6 := c5_1.same W6
  refine Go.via st6 ?_
  show Go p e below _ (T6.setTop (mkF m 15 #[.val (.ref o0), .val (.ref o1), .unset, .unset] []))
  refine Go.via (T' := T6.setTop (mkF m 17 #[.val (.ref o0), .val (.ref o1), .unset, .unset] [(.ref o1), (.ref o0)])) (fun tZ kZ => ?_) ?_
  · show Steps p.tables e below (T6.setTop (mkF m 15 #[.val (.ref o0), .val (.ref o1), .unset, .unset] [])) _
    refine XS.aloadN X6.here hx rfl (hb hby d1_15) rfl rfl ?_
    show Steps p.tables e below (T6.setTop (mkF m 16 #[.val (.ref o0), .val (.ref o1), .unset, .unset] [(.ref o0)])) _
    refine XS.aloadN X6.here hx rfl (hb hby d1_16) rfl rfl ?_
    show Steps p.tables e below (T6.setTop (mkF m 17 #[.val (.ref o0), .val (.ref o1), .unset, .unset] [(.ref o1), (.ref o0)])) _
    exact kZ
  obtain ⟨T8, h8, X8, e8, E8, V8, B8, st8⟩ := AV.clone c7_5 (fun _ _ => rfl) X6 hx hZ hown (hw _ (List.mem_of_getElem? (i := 36) rfl)) (hw _ (List.mem_of_getElem? (i := 37) rfl)) (hw _ (List.mem_of_getElem? (i := 41) rfl)) (hw _ (List.mem_of_getElem? (i := 39) rfl)) (hw _ (List.mem_of_getElem? (i := 40) rfl)) (hw _ (List.mem_of_getElem? (i := 42) rfl)) e6 c7_6 (g := (mkF m 17 #[.val (.ref o0), .val (.ref o1), .unset, .unset] [(.ref o1), (.ref o0)])) rfl (by rw [hml]; rfl) (rest := [(.ref o0)]) rfl (hb hby d1_17) (by decide) (W := 1) (cap := 3) (by show 2 * 0 + _ ≤ _; exact Nat.le_of_eq rfl) (by decide) (by decide) (by decide) (by decide)
  obtain ⟨b8, g8⟩ : ∃ z, z = h6.size := ⟨_, rfl⟩
  rw [← g8] at V8 B8 st8
  have g_b8 : n0 ≤ b8 := Nat.le_trans Z6 (Nat.le_of_eq g8.symm)
  have sz_b8 : h0.size ≤ b8 := Nat.le_trans (K6).1 (Nat.le_of_eq g8.symm)
  have ne_o0_b8 : o0 ≠ b8 := Nat.ne_of_lt (Nat.lt_of_lt_of_le c7_0.lt (Nat.le_of_eq g8.symm))
  have ne_o1_b8 : o1 ≠ b8 := Nat.ne_of_lt (Nat.lt_of_lt_of_le c7_5.lt (Nat.le_of_eq g8.symm))
  have ne_b2_b8 : b2 ≠ b8 := Nat.ne_of_lt (Nat.lt_of_lt_of_le c7_9.lt (Nat.le_of_eq g8.symm))
  have c9_0 := c7_0.ext E8
  have c9_1 := Fw6.ext E8
  have c9_2 := c7_2.ext E8
  have c9_3 := c7_3.ext E8
  have c9_5 := c7_5.ext E8
  have c9_6 := c7_6.ext E8
  have c9_7 := c7_7.ext E8
  have c9_9 := c7_9.ext E8
  have c9_10 := c7_10.ext E8
  have c9_11 := c7_11.ext E8
  have K8 : Keep h0 h8 [o0] := K6.ext E8
  have Z8 : n0 ≤ h8.size := Nat.le_trans Z6 E8.1
  refine Go.via st8 ?_
  show Go p e below _ (T8.setTop (mkF m 20 #[.val (.ref o0), .val (.ref o1), .unset, .unset] [(.ref b8), (.ref o0)]))
  obtain ⟨T10, X10, e10, st10⟩ := castY X8 hx hZ hown (hw _ (List.mem_of_getElem? (i := 43) rfl)) e8 (Ins.self B8) (g := (mkF m 20 #[.val (.ref o0), .val (.ref o1), .unset, .unset] [(.ref b8), (.ref o0)])) rfl rfl (hb hby d1_20)
  refine Go.via st10 ?_
  show Go p e below _ (T10.setTop (mkF m 23 #[.val (.ref o0), .val (.ref o1), .unset, .unset] [(.ref b8), (.ref o0)]))
  obtain ⟨T11, h11, X11, e11, W11, st11⟩ := putF X10 hx hZ hown (host := "") (Or.inl (hw _ (List.mem_of_getElem? (i := 45) rfl))) Via.refl e10 c9_2 c9_0 (Or.inr ⟨(hw _ (List.mem_of_getElem? (i := 46) rfl)), rfl, hnm⟩) (hw _ (List.mem_of_getElem? (i := 2) rfl)) (ty := (.array .int)) (by decide) rfl rfl (g := (mkF m 23 #[.val (.ref o0), .val (.ref o1), .unset, .unset] [(.ref b8), (.ref o0)])) rfl rfl (hb hby d1_23)
  have N11 := Fr.snoc X11 N6 ha4
  have c12_0 := c9_0.wr W11
  have c12_1 := c9_1.other W11 (Or.inr (slot_ne (Or.inr (hw _ (List.mem_of_getElem? (i := 35) rfl))) (Or.inr (hw _ (List.mem_of_getElem? (i := 46) rfl))) (by decide) (t := (.object "java/util/List")) (t' := (.array .int)) (by decide) (by decide)))
  have c12_3 := c9_3.other W11 (Or.inr (slot_ne (Or.inr (hw _ (List.mem_of_getElem? (i := 48) rfl))) (Or.inr (hw _ (List.mem_of_getElem? (i := 46) rfl))) (by decide) (t := (.array .int)) (t' := (.array .int)) (by decide) (by decide)))
  have c12_5 := c9_5.other W11 (Ne.symm hne_o0_o1)
  have c12_6 := c9_6.wr W11
  have c12_7 := c9_7.wr W11
  have c12_9 := c9_9.wr W11
  have c12_10 := c9_10.other W11 (Or.inl (Ne.symm ne_o0_b2))
  have c12_11 := c9_11.other W11 (Or.inl (Ne.symm ne_o0_b2))
  have c12_13 := V8.other W11 (Ne.symm ne_o0_b8)
  have c12_14 := B8.wr W11
  have K11 : Keep h0 h11 [o0] := K8.wr W11 (Or.inl (by simp))
  have Z11 : n0 ≤ h11.size := Nat.le_trans Z8 (Keep.of_wr W11).1
  have Fw11 := c9_2.same W11
  refine Go.via st11 ?_
  show Go p e below _ (T11.setTop (mkF m 26 #[.val (.ref o0), .val (.ref o1), .unset, .unset] []))
  refine Go.via (T' := T11.setTop (mkF m 29 #[.val (.ref o0), .val (.ref o1), .unset, .unset] [(.int (3 : Int32)), (.ref o0)])) (fun tZ kZ => ?_) ?_
  · show Steps p.tables e below (T11.setTop (mkF m 26 #[.val (.ref o0), .val (.ref o1), .unset, .unset] [])) _
    refine XS.aloadN X11.here hx rfl (hb hby d1_26) rfl rfl ?_
    show Steps p.tables e below (T11.setTop (mkF m 27 #[.val (.ref o0), .val (.ref o1), .unset, .unset] [(.ref o0)])) _
    refine XS.aloadN X11.here hx rfl (hb hby d1_27) rfl rfl ?_
    show Steps p.tables e below (T11.setTop (mkF m 28 #[.val (.ref o0), .val (.ref o1), .unset, .unset] [(.ref o1), (.ref o0)])) _
    refine AV.len c12_5 X11 hx hZ e11 (hb hby d1_28) ?_
    show Steps p.tables e below (T11.setTop (mkF m 29 #[.val (.ref o0), .val (.ref o1), .unset, .unset] [(.int (3 : Int32)), (.ref o0)])) _
    exact kZ
  obtain ⟨T13, h13, k13, X13, e13, E13, A13, B13, st13⟩ := newPE X11 hx hZ (hw _ (List.mem_of_getElem? (i := 0) rfl)) e11 (g := (mkF m 29 #[.val (.ref o0), .val (.ref o1), .unset, .unset] [(.int (3 : Int32)), (.ref o0)])) rfl (hb hby d1_29) rfl (by decide) (cap := 3) (by decide) (by decide) (by decide) (by decide) (ad := "[I") rfl
  obtain ⟨b13, g13⟩ : ∃ z, z = h11.size := ⟨_, rfl⟩
  rw [← g13] at A13 B13 st13
  have g_b13 : n0 ≤ b13 := Nat.le_trans Z11 (Nat.le_of_eq g13.symm)
  have sz_b13 : h0.size ≤ b13 := Nat.le_trans (K11).1 (Nat.le_of_eq g13.symm)
  have ne_o0_b13 : o0 ≠ b13 := Nat.ne_of_lt (Nat.lt_of_lt_of_le c12_0.lt (Nat.le_of_eq g13.symm))
  have ne_o1_b13 : o1 ≠ b13 := Nat.ne_of_lt (Nat.lt_of_lt_of_le c12_5.lt (Nat.le_of_eq g13.symm))
  have ne_b2_b13 : b2 ≠ b13 := Nat.ne_of_lt (Nat.lt_of_lt_of_le c12_9.lt (Nat.le_of_eq g13.symm))
  have ne_b8_b13 : b8 ≠ b13 := Nat.ne_of_lt (Nat.lt_of_lt_of_le c12_13.lt (Nat.le_of_eq g13.symm))
  have c14_0 := c12_0.ext E13
  have c14_1 := c12_1.ext E13
  have c14_2 := Fw11.ext E13
  have c14_3 := c12_3.ext E13
  have c14_5 := c12_5.ext E13
  have c14_6 := c12_6.ext E13
  have c14_7 := c12_7.ext E13
  have c14_9 := c12_9.ext E13
  have c14_10 := c12_10.ext E13
  have c14_11 := c12_11.ext E13
  have c14_13 := c12_13.ext E13
  have c14_14 := c12_14.ext E13
  have K13 : Keep h0 h13 [o0] := K11.ext E13
  have Z13 : n0 ≤ h13.size := Nat.le_trans Z11 E13.1
  have V13 : AV Z h13 b13 .int 3 (fun k => .int ((fun _ => (0 : Int32)) k)) := by have q := AV.new A13; exact q
  refine Go.via st13 ?_
  show Go p e below _ (T13.setTop (mkF m 31 #[.val (.ref o0), .val (.ref o1), .unset, .unset] [(.ref b13), (.ref o0)]))
  obtain ⟨T15, h15, X15, e15, W15, st15⟩ := putF X13 hx hZ hown (host := "") (Or.inl (hw _ (List.mem_of_getElem? (i := 47) rfl))) Via.refl e13 c14_3 c14_0 (Or.inr ⟨(hw _ (List.mem_of_getElem? (i := 48) rfl)), rfl, hnm⟩) (hw _ (List.mem_of_getElem? (i := 2) rfl)) (ty := (.array .int)) (by decide) rfl rfl (g := (mkF m 31 #[.val (.ref o0), .val (.ref o1), .unset, .unset] [(.ref b13), (.ref o0)])) rfl rfl (hb hby d1_31)
  have N15 := Fr.snoc X15 N11 ha4
  have c16_0 := c14_0.wr W15
  have c16_1 := c14_1.other W15 (Or.inr (slot_ne (Or.inr (hw _ (List.mem_of_getElem? (i := 35) rfl))) (Or.inr (hw _ (List.mem_of_getElem? (i := 48) rfl))) (by decide) (t := (.object "java/util/List")) (t' := (.array .int)) (by decide) (by decide)))
  have c16_2 := c14_2.other W15 (Or.inr (slot_ne (Or.inr (hw _ (List.mem_of_getElem? (i := 46) rfl))) (Or.inr (hw _ (List.mem_of_getElem? (i := 48) rfl))) (by decide) (t := (.array .int)) (t' := (.array .int)) (by decide) (by decide)))
  have c16_5 := c14_5.other W15 (Ne.symm hne_o0_o1)
  have c16_6 := c14_6.wr W15
  have c16_7 := c14_7.wr W15
  have c16_9 := c14_9.wr W15
  have c16_10 := c14_10.other W15 (Or.inl (Ne.symm ne_o0_b2))
  have c16_11 := c14_11.other W15 (Or.inl (Ne.symm ne_o0_b2))
  have c16_13 := c14_13.other W15 (Ne.symm ne_o0_b8)
  have c16_14 := c14_14.wr W15
  have c16_16 := B13.wr W15
  have c16_17 := V13.other W15 (Ne.symm ne_o0_b13)
  have K15 : Keep h0 h15 [o0] := K13.wr W15 (Or.inl (by simp))
  have Z15 : n0 ≤ h15.size := Nat.le_trans Z13 (Keep.of_wr W15).1
  have Fw15 := c14_3.same W15
  refine Go.via st15 ?_
  show Go p e below _ (T15.setTop (mkF m 34 #[.val (.ref o0), .val (.ref o1), .unset, .unset] []))
  refine Go.via (T' := T15.setTop (mkF m 45 #[.val (.ref o0), .val (.ref o1), .val (.int (0 : Int32)), .val (.int (0 : Int32))] [(.ref o0)])) (fun tZ kZ => ?_) ?_
  · show Steps p.tables e below (T15.setTop (mkF m 34 #[.val (.ref o0), .val (.ref o1), .unset, .unset] [])) _
    refine XS.iconst X15.here hx rfl (hb hby d1_34) ?_
    show Steps p.tables e below (T15.setTop (mkF m 35 #[.val (.ref o0), .val (.ref o1), .unset, .unset] [(.int (0 : Int32))])) _
    refine XS.istoreN X15.here hx rfl (hb hby d1_35) rfl (l' := #[.val (.ref o0), .val (.ref o1), .val (.int (0 : Int32)), .unset]) rfl ?_
    show Steps p.tables e below (T15.setTop (mkF m 36 #[.val (.ref o0), .val (.ref o1), .val (.int (0 : Int32)), .unset] [])) _
    refine XS.iconst X15.here hx rfl (hb hby d1_36) ?_
    show Steps p.tables e below (T15.setTop (mkF m 37 #[.val (.ref o0), .val (.ref o1), .val (.int (0 : Int32)), .unset] [(.int (0 : Int32))])) _
    refine XS.istoreN X15.here hx rfl (hb hby d1_37) rfl (l' := #[.val (.ref o0), .val (.ref o1), .val (.int (0 : Int32)), .val (.int (0 : Int32))]) rfl ?_
    show Steps p.tables e below (T15.setTop (mkF m 38 #[.val (.ref o0), .val (.ref o1), .val (.int (0 : Int32)), .val (.int (0 : Int32))] [])) _
    refine XS.iloadN X15.here hx rfl (hb hby d1_38) rfl ?_
    show Steps p.tables e below (T15.setTop (mkF m 39 #[.val (.ref o0), .val (.ref o1), .val (.int (0 : Int32)), .val (.int (0 : Int32))] [(.int (0 : Int32))])) _
    refine XS.aloadN X15.here hx rfl (hb hby d1_39) rfl rfl ?_
    show Steps p.tables e below (T15.setTop (mkF m 40 #[.val (.ref o0), .val (.ref o1), .val (.int (0 : Int32)), .val (.int (0 : Int32))] [(.ref o1), (.int (0 : Int32))])) _
    refine AV.len c16_5 X15 hx hZ e15 (hb hby d1_40) ?_
    show Steps p.tables e below (T15.setTop (mkF m 41 #[.val (.ref o0), .val (.ref o1), .val (.int (0 : Int32)), .val (.int (0 : Int32))] [(.int (3 : Int32)), (.int (0 : Int32))])) _
    refine XS.icmpNo X15.here hx rfl (hb hby d1_41) rfl (tlt (by decide)).2.1 ?_
    show Steps p.tables e below (T15.setTop (mkF m 44 #[.val (.ref o0), .val (.ref o1), .val (.int (0 : Int32)), .val (.int (0 : Int32))] [])) _
    refine XS.aloadN X15.here hx rfl (hb hby d1_44) rfl rfl ?_
    show Steps p.tables e below (T15.setTop (mkF m 45 #[.val (.ref o0), .val (.ref o1), .val (.int (0 : Int32)), .val (.int (0 : Int32))] [(.ref o0)])) _
    exact kZ
  obtain ⟨T17, X17, e17, st17⟩ := getF X15 hx hZ hown (host := "") (Or.inl (hw _ (List.mem_of_getElem? (i := 47) rfl))) Via.refl e15 Fw15 (g := (mkF m 45 #[.val (.ref o0), .val (.ref o1), .val (.int (0 : Int32)), .val (.int (0 : Int32))] [(.ref o0)])) rfl rfl (hb hby d1_45)
  refine Go.via st17 ?_
  show Go p e below _ (T17.setTop (mkF m 48 #[.val (.ref o0), .val (.ref o1), .val (.int (0 : Int32)), .val (.int (0 : Int32))] [(.ref b13)]))
  refine Go.via (T' := T17.setTop (mkF m 50 #[.val (.ref o0), .val (.ref o1), .val (.int (0 : Int32)), .val (.int (0 : Int32))] [(.int (0 : Int32)), (.int (0 : Int32)), (.ref b13)])) (fun tZ kZ => ?_) ?_
  · show Steps p.tables e below (T17.setTop (mkF m 48 #[.val (.ref o0), .val (.ref o1), .val (.int (0 : Int32)), .val (.int (0 : Int32))] [(.ref b13)])) _
    refine XS.iloadN X17.here hx rfl (hb hby d1_48) rfl ?_
    show Steps p.tables e below (T17.setTop (mkF m 49 #[.val (.ref o0), .val (.ref o1), .val (.int (0 : Int32)), .val (.int (0 : Int32))] [(.int (0 : Int32)), (.ref b13)])) _
    refine XS.iloadN X17.here hx rfl (hb hby d1_49) rfl ?_
    show Steps p.tables e below (T17.setTop (mkF m 50 #[.val (.ref o0), .val (.ref o1), .val (.int (0 : Int32)), .val (.int (0 : Int32))] [(.int (0 : Int32)), (.int (0 : Int32)), (.ref b13)])) _
    exact kZ
  obtain ⟨T18, h18, X18, e18, W18, V18, st18⟩ := AV.iastore c16_17 X17 hx hZ e17 (j := (0 : Int32)) (by decide) (Ls := #[.val (.ref o0), .val (.ref o1), .val (.int (0 : Int32)), .val (.int (0 : Int32))]) (rest := []) (hb hby d1_50) (x := (0 : Int32))
  have N18 := Fr.snoc X18 N15 g_b13
  have c19_0 := c16_0.wr W18
  have c19_1 := c16_1.other W18 (Or.inl ne_o0_b13)
  have c19_2 := c16_2.other W18 (Or.inl ne_o0_b13)
  have c19_3 := Fw15.other W18 (Or.inl ne_o0_b13)
  have c19_5 := c16_5.other W18 ne_o1_b13
  have c19_6 := c16_6.wr W18
  have c19_7 := c16_7.wr W18
  have c19_9 := c16_9.wr W18
  have c19_10 := c16_10.other W18 (Or.inl ne_b2_b13)
  have c19_11 := c16_11.other W18 (Or.inl ne_b2_b13)
  have c19_13 := c16_13.other W18 ne_b8_b13
  have c19_14 := c16_14.wr W18
  have c19_16 := c16_16.wr W18
  have K18 : Keep h0 h18 [o0] := K15.wr W18 (Or.inr sz_b13)
  have Z18 : n0 ≤ h18.size := Nat.le_trans Z15 (Keep.of_wr W18).1
  refine Go.via st18 ?_
  show Go p e below _ (T18.setTop (mkF m 51 #[.val (.ref o0), .val (.ref o1), .val (.int (0 : Int32)), .val (.int (0 : Int32))] []))
  refine Go.via (T' := T18.setTop (mkF m 45 #[.val (.ref o0), .val (.ref o1), .val (.int ((0 : Int32) + ((1 : Int32) + (fF (0 : Int32).toNatClampNeg)))), .val (.int (1 : Int32))] [(.ref o0)])) (fun tZ kZ => ?_) ?_
  · show Steps p.tables e below (T18.setTop (mkF m 51 #[.val (.ref o0), .val (.ref o1), .val (.int (0 : Int32)), .val (.int (0 : Int32))] [])) _
    refine XS.iloadN X18.here hx rfl (hb hby d1_51) rfl ?_
    show Steps p.tables e below (T18.setTop (mkF m 52 #[.val (.ref o0), .val (.ref o1), .val (.int (0 : Int32)), .val (.int (0 : Int32))] [(.int (0 : Int32))])) _
    refine XS.iconst X18.here hx rfl (hb hby d1_52) ?_
    show Steps p.tables e below (T18.setTop (mkF m 53 #[.val (.ref o0), .val (.ref o1), .val (.int (0 : Int32)), .val (.int (0 : Int32))] [(.int (1 : Int32)), (.int (0 : Int32))])) _
    refine XS.aloadN X18.here hx rfl (hb hby d1_53) rfl rfl ?_
    show Steps p.tables e below (T18.setTop (mkF m 54 #[.val (.ref o0), .val (.ref o1), .val (.int (0 : Int32)), .val (.int (0 : Int32))] [(.ref o1), (.int (1 : Int32)), (.int (0 : Int32))])) _
    refine XS.iloadN X18.here hx rfl (hb hby d1_54) rfl ?_
    show Steps p.tables e below (T18.setTop (mkF m 55 #[.val (.ref o0), .val (.ref o1), .val (.int (0 : Int32)), .val (.int (0 : Int32))] [(.int (0 : Int32)), (.ref o1), (.int (1 : Int32)), (.int (0 : Int32))])) _
    refine AV.iaload c19_5 X18 hx hZ e18 (j := (0 : Int32)) (by decide) (hb hby d1_55) ?_
    show Steps p.tables e below (T18.setTop (mkF m 56 #[.val (.ref o0), .val (.ref o1), .val (.int (0 : Int32)), .val (.int (0 : Int32))] [(.int (fF (0 : Int32).toNatClampNeg)), (.int (1 : Int32)), (.int (0 : Int32))])) _
    refine XS.iadd X18.here hx rfl (hb hby d1_56) rfl ?_
    show Steps p.tables e below (T18.setTop (mkF m 57 #[.val (.ref o0), .val (.ref o1), .val (.int (0 : Int32)), .val (.int (0 : Int32))] [(.int ((1 : Int32) + (fF (0 : Int32).toNatClampNeg))), (.int (0 : Int32))])) _
    refine XS.iadd X18.here hx rfl (hb hby d1_57) rfl ?_
    show Steps p.tables e below (T18.setTop (mkF m 58 #[.val (.ref o0), .val (.ref o1), .val (.int (0 : Int32)), .val (.int (0 : Int32))] [(.int ((0 : Int32) + ((1 : Int32) + (fF (0 : Int32).toNatClampNeg))))])) _
    refine XS.istoreN X18.here hx rfl (hb hby d1_58) rfl (l' := #[.val (.ref o0), .val (.ref o1), .val (.int ((0 : Int32) + ((1 : Int32) + (fF (0 : Int32).toNatClampNeg)))), .val (.int (0 : Int32))]) rfl ?_
    show Steps p.tables e below (T18.setTop (mkF m 59 #[.val (.ref o0), .val (.ref o1), .val (.int ((0 : Int32) + ((1 : Int32) + (fF (0 : Int32).toNatClampNeg)))), .val (.int (0 : Int32))] [])) _
    refine XS.iinc X18.here hx rfl (hb hby d1_59) rfl (l' := #[.val (.ref o0), .val (.ref o1), .val (.int ((0 : Int32) + ((1 : Int32) + (fF (0 : Int32).toNatClampNeg)))), .val (.int (1 : Int32))]) rfl ?_
    show Steps p.tables e below (T18.setTop (mkF m 62 #[.val (.ref o0), .val (.ref o1), .val (.int ((0 : Int32) + ((1 : Int32) + (fF (0 : Int32).toNatClampNeg)))), .val (.int (1 : Int32))] [])) _
    refine XS.goto X18.here hx rfl (pc0 := 62) (pc' := 38) rfl (hb hby d1_62) (by decide) (by decide) ?_
    show Steps p.tables e below (T18.setTop (mkF m 38 #[.val (.ref o0), .val (.ref o1), .val (.int ((0 : Int32) + ((1 : Int32) + (fF (0 : Int32).toNatClampNeg)))), .val (.int (1 : Int32))] [])) _
    refine XS.iloadN X18.here hx rfl (hb hby d1_38) rfl ?_
    show Steps p.tables e below (T18.setTop (mkF m 39 #[.val (.ref o0), .val (.ref o1), .val (.int ((0 : Int32) + ((1 : Int32) + (fF (0 : Int32).toNatClampNeg)))), .val (.int (1 : Int32))] [(.int (1 : Int32))])) _
    refine XS.aloadN X18.here hx rfl (hb hby d1_39) rfl rfl ?_
    show Steps p.tables e below (T18.setTop (mkF m 40 #[.val (.ref o0), .val (.ref o1), .val (.int ((0 : Int32) + ((1 : Int32) + (fF (0 : Int32).toNatClampNeg)))), .val (.int (1 : Int32))] [(.ref o1), (.int (1 : Int32))])) _
    refine AV.len c19_5 X18 hx hZ e18 (hb hby d1_40) ?_
    show Steps p.tables e below (T18.setTop (mkF m 41 #[.val (.ref o0), .val (.ref o1), .val (.int ((0 : Int32) + ((1 : Int32) + (fF (0 : Int32).toNatClampNeg)))), .val (.int (1 : Int32))] [(.int (3 : Int32)), (.int (1 : Int32))])) _
    refine XS.icmpNo X18.here hx rfl (hb hby d1_41) rfl (tlt (by decide)).2.1 ?_
    show Steps p.tables e below (T18.setTop (mkF m 44 #[.val (.ref o0), .val (.ref o1), .val (.int ((0 : Int32) + ((1 : Int32) + (fF (0 : Int32).toNatClampNeg)))), .val (.int (1 : Int32))] [])) _
    refine XS.aloadN X18.here hx rfl (hb hby d1_44) rfl rfl ?_
    show Steps p.tables e below (T18.setTop (mkF m 45 #[.val (.ref o0), .val (.ref o1), .val (.int ((0 : Int32) + ((1 : Int32) + (fF (0 : Int32).toNatClampNeg)))), .val (.int (1 : Int32))] [(.ref o0)])) _
    exact kZ
  obtain ⟨T20, X20, e20, st20⟩ := getF X18 hx hZ hown (host := "") (Or.inl (hw _ (List.mem_of_getElem? (i := 47) rfl))) Via.refl e18 c19_3 (g := (mkF m 45 #[.val (.ref o0), .val (.ref o1), .val (.int ((0 : Int32) + ((1 : Int32) + (fF (0 : Int32).toNatClampNeg)))), .val (.int (1 : Int32))] [(.ref o0)])) rfl rfl (hb hby d1_45)
  refine Go.via st20 ?_
  show Go p e below _ (T20.setTop (mkF m 48 #[.val (.ref o0), .val (.ref o1), .val (.int ((0 : Int32) + ((1 : Int32) + (fF (0 : Int32).toNatClampNeg)))), .val (.int (1 : Int32))] [(.ref b13)]))
  refine Go.via (T' := T20.setTop (mkF m 50 #[.val (.ref o0), .val (.ref o1), .val (.int ((0 : Int32) + ((1 : Int32) + (fF (0 : Int32).toNatClampNeg)))), .val (.int (1 : Int32))] [(.int ((0 : Int32) + ((1 : Int32) + (fF (0 : Int32).toNatClampNeg)))), (.int (1 : Int32)), (.ref b13)])) (fun tZ kZ => ?_) ?_
  · show Steps p.tables e below (T20.setTop (mkF m 48 #[.val (.ref o0), .val (.ref o1), .val (.int ((0 : Int32) + ((1 : Int32) + (fF (0 : Int32).toNatClampNeg)))), .val (.int (1 : Int32))] [(.ref b13)])) _
    refine XS.iloadN X20.here hx rfl (hb hby d1_48) rfl ?_
    show Steps p.tables e below (T20.setTop (mkF m 49 #[.val (.ref o0), .val (.ref o1), .val (.int ((0 : Int32) + ((1 : Int32) + (fF (0 : Int32).toNatClampNeg)))), .val (.int (1 : Int32))] [(.int (1 : Int32)), (.ref b13)])) _
    refine XS.iloadN X20.here hx rfl (hb hby d1_49) rfl ?_
    show Steps p.tables e below (T20.setTop (mkF m 50 #[.val (.ref o0), .val (.ref o1), .val (.int ((0 : Int32) + ((1 : Int32) + (fF (0 : Int32).toNatClampNeg)))), .val (.int (1 : Int32))] [(.int ((0 : Int32) + ((1 : Int32) + (fF (0 : Int32).toNatClampNeg)))), (.int (1 : Int32)), (.ref b13)])) _
    exact kZ
  obtain ⟨T21, h21, X21, e21, W21, V21, st21⟩ := AV.iastore V18 X20 hx hZ e20 (j := (1 : Int32)) (by decide) (Ls := #[.val (.ref o0), .val (.ref o1), .val (.int ((0 : Int32) + ((1 : Int32) + (fF (0 : Int32).toNatClampNeg)))), .val (.int (1 : Int32))]) (rest := []) (hb hby d1_50) (x := ((0 : Int32) + ((1 : Int32) + (fF (0 : Int32).toNatClampNeg))))
  have N21 := Fr.snoc X21 N18 g_b13
  have c22_0 := c19_0.wr W21
  have c22_1 := c19_1.other W21 (Or.inl ne_o0_b13)
  have c22_2 := c19_2.other W21 (Or.inl ne_o0_b13)
  have c22_3 := c19_3.other W21 (Or.inl ne_o0_b13)
  have c22_5 := c19_5.other W21 ne_o1_b13
  have c22_6 := c19_6.wr W21
  have c22_7 := c19_7.wr W21
  have c22_9 := c19_9.wr W21
  have c22_10 := c19_10.other W21 (Or.inl ne_b2_b13)
  have c22_11 := c19_11.other W21 (Or.inl ne_b2_b13)
  have c22_13 := c19_13.other W21 ne_b8_b13
  have c22_14 := c19_14.wr W21
  have c22_16 := c19_16.wr W21
  have K21 : Keep h0 h21 [o0] := K18.wr W21 (Or.inr sz_b13)
  have Z21 : n0 ≤ h21.size := Nat.le_trans Z18 (Keep.of_wr W21).1
  refine Go.via st21 ?_
  show Go p e below _ (T21.setTop (mkF m 51 #[.val (.ref o0), .val (.ref o1), .val (.int ((0 : Int32) + ((1 : Int32) + (fF (0 : Int32).toNatClampNeg)))), .val (.int (1 : Int32))] []))
  refine Go.via (T' := T21.setTop (mkF m 45 #[.val (.ref o0), .val (.ref o1), .val (.int (w1n3_0 fF)), .val (.int (2 : Int32))] [(.ref o0)])) (fun tZ kZ => ?_) ?_
  · show Steps p.tables e below (T21.setTop (mkF m 51 #[.val (.ref o0), .val (.ref o1), .val (.int ((0 : Int32) + ((1 : Int32) + (fF (0 : Int32).toNatClampNeg)))), .val (.int (1 : Int32))] [])) _
    refine XS.iloadN X21.here hx rfl (hb hby d1_51) rfl ?_
    show Steps p.tables e below (T21.setTop (mkF m 52 #[.val (.ref o0), .val (.ref o1), .val (.int ((0 : Int32) + ((1 : Int32) + (fF (0 : Int32).toNatClampNeg)))), .val (.int (1 : Int32))] [(.int ((0 : Int32) + ((1 : Int32) + (fF (0 : Int32).toNatClampNeg))))])) _
    refine XS.iconst X21.here hx rfl (hb hby d1_52) ?_
    show Steps p.tables e below (T21.setTop (mkF m 53 #[.val (.ref o0), .val (.ref o1), .val (.int ((0 : Int32) + ((1 : Int32) + (fF (0 : Int32).toNatClampNeg)))), .val (.int (1 : Int32))] [(.int (1 : Int32)), (.int ((0 : Int32) + ((1 : Int32) + (fF (0 : Int32).toNatClampNeg))))])) _
    refine XS.aloadN X21.here hx rfl (hb hby d1_53) rfl rfl ?_
    show Steps p.tables e below (T21.setTop (mkF m 54 #[.val (.ref o0), .val (.ref o1), .val (.int ((0 : Int32) + ((1 : Int32) + (fF (0 : Int32).toNatClampNeg)))), .val (.int (1 : Int32))] [(.ref o1), (.int (1 : Int32)), (.int ((0 : Int32) + ((1 : Int32) + (fF (0 : Int32).toNatClampNeg))))])) _
    refine XS.iloadN X21.here hx rfl (hb hby d1_54) rfl ?_
    show Steps p.tables e below (T21.setTop (mkF m 55 #[.val (.ref o0), .val (.ref o1), .val (.int ((0 : Int32) + ((1 : Int32) + (fF (0 : Int32).toNatClampNeg)))), .val (.int (1 : Int32))] [(.int (1 : Int32)), (.ref o1), (.int (1 : Int32)), (.int ((0 : Int32) + ((1 : Int32) + (fF (0 : Int32).toNatClampNeg))))])) _
    refine AV.iaload c22_5 X21 hx hZ e21 (j := (1 : Int32)) (by decide) (hb hby d1_55) ?_
    show Steps p.tables e below (T21.setTop (mkF m 56 #[.val (.ref o0), .val (.ref o1), .val (.int ((0 : Int32) + ((1 : Int32) + (fF (0 : Int32).toNatClampNeg)))), .val (.int (1 : Int32))] [(.int (fF (1 : Int32).toNatClampNeg)), (.int (1 : Int32)), (.int ((0 : Int32) + ((1 : Int32) + (fF (0 : Int32).toNatClampNeg))))])) _
    refine XS.iadd X21.here hx rfl (hb hby d1_56) rfl ?_
    show Steps p.tables e below (T21.setTop (mkF m 57 #[.val (.ref o0), .val (.ref o1), .val (.int ((0 : Int32) + ((1 : Int32) + (fF (0 : Int32).toNatClampNeg)))), .val (.int (1 : Int32))] [(.int ((1 : Int32) + (fF (1 : Int32).toNatClampNeg))), (.int ((0 : Int32) + ((1 : Int32) + (fF (0 : Int32).toNatClampNeg))))])) _
    refine XS.iadd X21.here hx rfl (hb hby d1_57) rfl ?_
    show Steps p.tables e below (T21.setTop (mkF m 58 #[.val (.ref o0), .val (.ref o1), .val (.int ((0 : Int32) + ((1 : Int32) + (fF (0 : Int32).toNatClampNeg)))), .val (.int (1 : Int32))] [(.int (((0 : Int32) + ((1 : Int32) + (fF (0 : Int32).toNatClampNeg))) + ((1 : Int32) + (fF (1 : Int32).toNatClampNeg))))])) _
    refine XS.istoreN X21.here hx rfl (hb hby d1_58) rfl (l' := #[.val (.ref o0), .val (.ref o1), .val (.int (w1n3_0 fF)), .val (.int (1 : Int32))]) rfl ?_
    show Steps p.tables e below (T21.setTop (mkF m 59 #[.val (.ref o0), .val (.ref o1), .val (.int (w1n3_0 fF)), .val (.int (1 : Int32))] [])) _
    refine XS.iinc X21.here hx rfl (hb hby d1_59) rfl (l' := #[.val (.ref o0), .val (.ref o1), .val (.int (w1n3_0 fF)), .val (.int (2 : Int32))]) rfl ?_
    show Steps p.tables e below (T21.setTop (mkF m 62 #[.val (.ref o0), .val (.ref o1), .val (.int (w1n3_0 fF)), .val (.int (2 : Int32))] [])) _
    refine XS.goto X21.here hx rfl (pc0 := 62) (pc' := 38) rfl (hb hby d1_62) (by decide) (by decide) ?_
    show Steps p.tables e below (T21.setTop (mkF m 38 #[.val (.ref o0), .val (.ref o1), .val (.int (w1n3_0 fF)), .val (.int (2 : Int32))] [])) _
    refine XS.iloadN X21.here hx rfl (hb hby d1_38) rfl ?_
    show Steps p.tables e below (T21.setTop (mkF m 39 #[.val (.ref o0), .val (.ref o1), .val (.int (w1n3_0 fF)), .val (.int (2 : Int32))] [(.int (2 : Int32))])) _
    refine XS.aloadN X21.here hx rfl (hb hby d1_39) rfl rfl ?_
    show Steps p.tables e below (T21.setTop (mkF m 40 #[.val (.ref o0), .val (.ref o1), .val (.int (w1n3_0 fF)), .val (.int (2 : Int32))] [(.ref o1), (.int (2 : Int32))])) _
    refine AV.len c22_5 X21 hx hZ e21 (hb hby d1_40) ?_
    show Steps p.tables e below (T21.setTop (mkF m 41 #[.val (.ref o0), .val (.ref o1), .val (.int (w1n3_0 fF)), .val (.int (2 : Int32))] [(.int (3 : Int32)), (.int (2 : Int32))])) _
    refine XS.icmpNo X21.here hx rfl (hb hby d1_41) rfl (tlt (by decide)).2.1 ?_
    show Steps p.tables e below (T21.setTop (mkF m 44 #[.val (.ref o0), .val (.ref o1), .val (.int (w1n3_0 fF)), .val (.int (2 : Int32))] [])) _
    refine XS.aloadN X21.here hx rfl (hb hby d1_44) rfl rfl ?_
    show Steps p.tables e below (T21.setTop (mkF m 45 #[.val (.ref o0), .val (.ref o1), .val (.int (w1n3_0 fF)), .val (.int (2 : Int32))] [(.ref o0)])) _
    exact kZ
  obtain ⟨T23, X23, e23, st23⟩ := getF X21 hx hZ hown (host := "") (Or.inl (hw _ (List.mem_of_getElem? (i := 47) rfl))) Via.refl e21 c22_3 (g := (mkF m 45 #[.val (.ref o0), .val (.ref o1), .val (.int (w1n3_0 fF)), .val (.int (2 : Int32))] [(.ref o0)])) rfl rfl (hb hby d1_45)
  refine Go.via st23 ?_
  show Go p e below _ (T23.setTop (mkF m 48 #[.val (.ref o0), .val (.ref o1), .val (.int (w1n3_0 fF)), .val (.int (2 : Int32))] [(.ref b13)]))
  refine Go.via (T' := T23.setTop (mkF m 50 #[.val (.ref o0), .val (.ref o1), .val (.int (w1n3_0 fF)), .val (.int (2 : Int32))] [(.int (w1n3_0 fF)), (.int (2 : Int32)), (.ref b13)])) (fun tZ kZ => ?_) ?_
  · show Steps p.tables e below (T23.setTop (mkF m 48 #[.val (.ref o0), .val (.ref o1), .val (.int (w1n3_0 fF)), .val (.int (2 : Int32))] [(.ref b13)])) _
    refine XS.iloadN X23.here hx rfl (hb hby d1_48) rfl ?_
    show Steps p.tables e below (T23.setTop (mkF m 49 #[.val (.ref o0), .val (.ref o1), .val (.int (w1n3_0 fF)), .val (.int (2 : Int32))] [(.int (2 : Int32)), (.ref b13)])) _
    refine XS.iloadN X23.here hx rfl (hb hby d1_49) rfl ?_
    show Steps p.tables e below (T23.setTop (mkF m 50 #[.val (.ref o0), .val (.ref o1), .val (.int (w1n3_0 fF)), .val (.int (2 : Int32))] [(.int (w1n3_0 fF)), (.int (2 : Int32)), (.ref b13)])) _
    exact kZ
  obtain ⟨T24, h24, X24, e24, W24, V24, st24⟩ := AV.iastore V21 X23 hx hZ e23 (j := (2 : Int32)) (by decide) (Ls := #[.val (.ref o0), .val (.ref o1), .val (.int (w1n3_0 fF)), .val (.int (2 : Int32))]) (rest := []) (hb hby d1_50) (x := (w1n3_0 fF))
  have N24 := Fr.snoc X24 N21 g_b13
  have c25_0 := c22_0.wr W24
  have c25_1 := c22_1.other W24 (Or.inl ne_o0_b13)
  have c25_2 := c22_2.other W24 (Or.inl ne_o0_b13)
  have c25_3 := c22_3.other W24 (Or.inl ne_o0_b13)
  have c25_5 := c22_5.other W24 ne_o1_b13
  have c25_6 := c22_6.wr W24
  have c25_7 := c22_7.wr W24
  have c25_9 := c22_9.wr W24
  have c25_10 := c22_10.other W24 (Or.inl ne_b2_b13)
  have c25_11 := c22_11.other W24 (Or.inl ne_b2_b13)
  have c25_13 := c22_13.other W24 ne_b8_b13
  have c25_14 := c22_14.wr W24
  have c25_16 := c22_16.wr W24
  have K24 : Keep h0 h24 [o0] := K21.wr W24 (Or.inr sz_b13)
  have Z24 : n0 ≤ h24.size := Nat.le_trans Z21 (Keep.of_wr W24).1
  refine Go.via st24 ?_
  show Go p e below _ (T24.setTop (mkF m 51 #[.val (.ref o0), .val (.ref o1), .val (.int (w1n3_0 fF)), .val (.int (2 : Int32))] []))
  refine Go.via (T' := T24.setTop (mkF m 65 #[.val (.ref o0), .val (.ref o1), .val (.int ((w1n3_0 fF) + ((1 : Int32) + (fF (2 : Int32).toNatClampNeg)))), .val (.int (3 : Int32))] [])) (fun tZ kZ => ?_) ?_
  · show Steps p.tables e below (T24.setTop (mkF m 51 #[.val (.ref o0), .val (.ref o1), .val (.int (w1n3_0 fF)), .val (.int (2 : Int32))] [])) _
    refine XS.iloadN X24.here hx rfl (hb hby d1_51) rfl ?_
    show Steps p.tables e below (T24.setTop (mkF m 52 #[.val (.ref o0), .val (.ref o1), .val (.int (w1n3_0 fF)), .val (.int (2 : Int32))] [(.int (w1n3_0 fF))])) _
    refine XS.iconst X24.here hx rfl (hb hby d1_52) ?_
    show Steps p.tables e below (T24.setTop (mkF m 53 #[.val (.ref o0), .val (.ref o1), .val (.int (w1n3_0 fF)), .val (.int (2 : Int32))] [(.int (1 : Int32)), (.int (w1n3_0 fF))])) _
    refine XS.aloadN X24.here hx rfl (hb hby d1_53) rfl rfl ?_
    show Steps p.tables e below (T24.setTop (mkF m 54 #[.val (.ref o0), .val (.ref o1), .val (.int (w1n3_0 fF)), .val (.int (2 : Int32))] [(.ref o1), (.int (1 : Int32)), (.int (w1n3_0 fF))])) _
    refine XS.iloadN X24.here hx rfl (hb hby d1_54) rfl ?_
    show Steps p.tables e below (T24.setTop (mkF m 55 #[.val (.ref o0), .val (.ref o1), .val (.int (w1n3_0 fF)), .val (.int (2 : Int32))] [(.int (2 : Int32)), (.ref o1), (.int (1 : Int32)), (.int (w1n3_0 fF))])) _
    refine AV.iaload c25_5 X24 hx hZ e24 (j := (2 : Int32)) (by decide) (hb hby d1_55) ?_
    show Steps p.tables e below (T24.setTop (mkF m 56 #[.val (.ref o0), .val (.ref o1), .val (.int (w1n3_0 fF)), .val (.int (2 : Int32))] [(.int (fF (2 : Int32).toNatClampNeg)), (.int (1 : Int32)), (.int (w1n3_0 fF))])) _
    refine XS.iadd X24.here hx rfl (hb hby d1_56) rfl ?_
    show Steps p.tables e below (T24.setTop (mkF m 57 #[.val (.ref o0), .val (.ref o1), .val (.int (w1n3_0 fF)), .val (.int (2 : Int32))] [(.int ((1 : Int32) + (fF (2 : Int32).toNatClampNeg))), (.int (w1n3_0 fF))])) _
    refine XS.iadd X24.here hx rfl (hb hby d1_57) rfl ?_
    show Steps p.tables e below (T24.setTop (mkF m 58 #[.val (.ref o0), .val (.ref o1), .val (.int (w1n3_0 fF)), .val (.int (2 : Int32))] [(.int ((w1n3_0 fF) + ((1 : Int32) + (fF (2 : Int32).toNatClampNeg))))])) _
    refine XS.istoreN X24.here hx rfl (hb hby d1_58) rfl (l' := #[.val (.ref o0), .val (.ref o1), .val (.int ((w1n3_0 fF) + ((1 : Int32) + (fF (2 : Int32).toNatClampNeg)))), .val (.int (2 : Int32))]) rfl ?_
    show Steps p.tables e below (T24.setTop (mkF m 59 #[.val (.ref o0), .val (.ref o1), .val (.int ((w1n3_0 fF) + ((1 : Int32) + (fF (2 : Int32).toNatClampNeg)))), .val (.int (2 : Int32))] [])) _
    refine XS.iinc X24.here hx rfl (hb hby d1_59) rfl (l' := #[.val (.ref o0), .val (.ref o1), .val (.int ((w1n3_0 fF) + ((1 : Int32) + (fF (2 : Int32).toNatClampNeg)))), .val (.int (3 : Int32))]) rfl ?_
    show Steps p.tables e below (T24.setTop (mkF m 62 #[.val (.ref o0), .val (.ref o1), .val (.int ((w1n3_0 fF) + ((1 : Int32) + (fF (2 : Int32).toNatClampNeg)))), .val (.int (3 : Int32))] [])) _
    refine XS.goto X24.here hx rfl (pc0 := 62) (pc' := 38) rfl (hb hby d1_62) (by decide) (by decide) ?_
    show Steps p.tables e below (T24.setTop (mkF m 38 #[.val (.ref o0), .val (.ref o1), .val (.int ((w1n3_0 fF) + ((1 : Int32) + (fF (2 : Int32).toNatClampNeg)))), .val (.int (3 : Int32))] [])) _
    refine XS.iloadN X24.here hx rfl (hb hby d1_38) rfl ?_
    show Steps p.tables e below (T24.setTop (mkF m 39 #[.val (.ref o0), .val (.ref o1), .val (.int ((w1n3_0 fF) + ((1 : Int32) + (fF (2 : Int32).toNatClampNeg)))), .val (.int (3 : Int32))] [(.int (3 : Int32))])) _
    refine XS.aloadN X24.here hx rfl (hb hby d1_39) rfl rfl ?_
    show Steps p.tables e below (T24.setTop (mkF m 40 #[.val (.ref o0), .val (.ref o1), .val (.int ((w1n3_0 fF) + ((1 : Int32) + (fF (2 : Int32).toNatClampNeg)))), .val (.int (3 : Int32))] [(.ref o1), (.int (3 : Int32))])) _
    refine AV.len c25_5 X24 hx hZ e24 (hb hby d1_40) ?_
    show Steps p.tables e below (T24.setTop (mkF m 41 #[.val (.ref o0), .val (.ref o1), .val (.int ((w1n3_0 fF) + ((1 : Int32) + (fF (2 : Int32).toNatClampNeg)))), .val (.int (3 : Int32))] [(.int (3 : Int32)), (.int (3 : Int32))])) _
    refine XS.icmpYes X24.here hx rfl (pc0 := 41) (pc' := 65) rfl (hb hby d1_41) rfl (flt (by decide)).2.1 (by decide) (by decide) ?_
    show Steps p.tables e below (T24.setTop (mkF m 65 #[.val (.ref o0), .val (.ref o1), .val (.int ((w1n3_0 fF) + ((1 : Int32) + (fF (2 : Int32).toNatClampNeg)))), .val (.int (3 : Int32))] [])) _
    exact kZ
  refine Go.retV X24 hx Bd.notSynchronized Bd.returns (hb hby d1_65) (by decide) (by decide) ?_
  rw [e24]
  exact ⟨rfl, N24, b8, sz_b8, K24, c25_0, c25_2, c25_5, c25_6, c25_7, c25_13, c25_14⟩
def f6n3 (o0 : Addr) (cA : Addr) (fF : Nat → Int32) : Int32 := (if (fF (0 : Int32).toNatClampNeg) = (1 : Int32) then (if (fF (1 : Int32).toNatClampNeg) = (1 : Int32) then (if (fF (2 : Int32).toNatClampNeg) = (1 : Int32) then (1 : Int32) else (0 : Int32)) else (0 : Int32)) else (0 : Int32))
def Q6n3 (o0 : Addr) (cA : Addr) (fF : Nat → Int32) (h0 : Heap) (n0 : Nat) (v : Option Value) (h : Heap) (L : List Loc) : Prop := v = some (.int (f6n3 o0 cA fF)) ∧ Fr n0 L ∧ h = h0
set_option maxRecDepth 65536 in
set_option maxHeartbeats 40000000 in
theorem rm6n3 (l : Launch) (Z : State) (a0 : Array Value) (hw : ∀ d ∈ tables_1, d.before a0 Z = true) (ws : List Jvm.Cond) (o0 : Addr) (cA : Addr) (fF : Nat → Int32) (h0 : Heap) (n0 : Nat) (Z0 : n0 ≤ h0.size) (ha0 : Fld Z h0 o0 "com/example/ltlconv/ltlconv/dra/RabinDraft" "infiniteCounts" "[I" (.ref cA)) (ha1 : AV Z h0 cA .int 3 (fun k => .int (fF k))) :
    MetFree l (⟨"com/example/ltlconv/ltlconv/dra/RabinDraft", "isRabin", "()Z"⟩ : MethodName) (head1 (Jvm.Cond.code (⟨"com/example/ltlconv/ltlconv/dra/RabinDraft", "isRabin", "()Z"⟩ : MethodName) prog_52_method_14_code 5 (some .boolean) :: ws) ({ frames := 0, cells := 0, slots := 0, locals := 0 } : Room)) (fun a U => a = #[(.ref o0)] ∧ Z.Warmed39 U.vm ∧ U.heap = h0) (fun _ _ _ _ _ => True) (fun _ U o U' => ∃ v L, o = .returned v ∧ Q6n3 o0 cA fF h0 n0 v U'.heap L ∧ FrameEnd U o U' L ({ frames := 0, cells := 0, slots := 0, locals := 0 } : Room).cells ({ frames := 0, cells := 0, slots := 0, locals := 0 } : Room).slots) := by
  refine MetFree.of_bodySF (plainFor_of_name pn_3) hisR ?_
  intro p e s m args below meth c s₁ Bd hml0 hP hK
  obtain ⟨rfl, hZ, hh⟩ := hP
  have hx := Bd.exec
  have hby := Bd.bytes
  have hml : c.maxLocals = 5 := hml0
  have hown : s.vm.findClass "com/example/ltlconv/ltlconv/dra/RabinDraft" = some m.cls := findClass_of_methodNamed Bd.named
  have hnm := (name_of_methodNamed Bd.named Bd.method).1
  have X0 : Stand p l e ({ frames := 0, cells := 0, slots := 0, locals := 0 } : Room) s m #[(.ref o0)] below meth c s₁ [] 0 0 := Stand.of_body Bd
  have e0 : s₁.heap = h0 := by rw [← hh, Bd.state]; rfl
  have N0 := Fr.nil n0
  refine Go.into (P := fun oo uu => ∃ v L, oo = .returned v ∧ Q6n3 o0 cA fF h0 n0 v uu.heap L ∧ FrameEnd s oo uu L ({ frames := 0, cells := 0, slots := 0, locals := 0 } : Room).cells ({ frames := 0, cells := 0, slots := 0, locals := 0 } : Room).slots) (ef_6_a m o0) ?_
  show Go p e below _ (s₁.setTop (mkF m 0 #[.val (.ref o0), .unset, .unset, .unset, .unset] []))
  refine Go.via (T' := s₁.setTop (mkF m 1 #[.val (.ref o0), .unset, .unset, .unset, .unset] [(.ref o0)])) (fun tZ kZ => ?_) ?_
  · show Steps p.tables e below (s₁.setTop (mkF m 0 #[.val (.ref o0), .unset, .unset, .unset, .unset] [])) _
    refine XS.aloadN X0.here hx rfl (hb hby d6_0) rfl rfl ?_
    show Steps p.tables e below (s₁.setTop (mkF m 1 #[.val (.ref o0), .unset, .unset, .unset, .unset] [(.ref o0)])) _
    exact kZ
  obtain ⟨T1, X1, e1, st1⟩ := getF X0 hx hZ hown (host := "") (Or.inl (hw _ (List.mem_of_getElem? (i := 45) rfl))) Via.refl e0 ha0 (g := (mkF m 1 #[.val (.ref o0), .unset, .unset, .unset, .unset] [(.ref o0)])) rfl rfl (hb hby d6_1)
  refine Go.via st1 ?_
  show Go p e below _ (T1.setTop (mkF m 4 #[.val (.ref o0), .unset, .unset, .unset, .unset] [(.ref cA)]))
  refine Go.via (T' := T1.setTop (mkF m 23 #[.val (.ref o0), .val (.ref cA), .val (.int (3 : Int32)), .val (.int (0 : Int32)), .val (.int (fF (0 : Int32).toNatClampNeg))] [(.int (1 : Int32)), (.int (fF (0 : Int32).toNatClampNeg))])) (fun tZ kZ => ?_) ?_
  · show Steps p.tables e below (T1.setTop (mkF m 4 #[.val (.ref o0), .unset, .unset, .unset, .unset] [(.ref cA)])) _
    refine XS.astoreN X1.here hx rfl (hb hby d6_4) rfl rfl (l' := #[.val (.ref o0), .val (.ref cA), .unset, .unset, .unset]) rfl ?_
    show Steps p.tables e below (T1.setTop (mkF m 5 #[.val (.ref o0), .val (.ref cA), .unset, .unset, .unset] [])) _
    refine XS.aloadN X1.here hx rfl (hb hby d6_5) rfl rfl ?_
    show Steps p.tables e below (T1.setTop (mkF m 6 #[.val (.ref o0), .val (.ref cA), .unset, .unset, .unset] [(.ref cA)])) _
    refine AV.len ha1 X1 hx hZ e1 (hb hby d6_6) ?_
    show Steps p.tables e below (T1.setTop (mkF m 7 #[.val (.ref o0), .val (.ref cA), .unset, .unset, .unset] [(.int (3 : Int32))])) _
    refine XS.istoreN X1.here hx rfl (hb hby d6_7) rfl (l' := #[.val (.ref o0), .val (.ref cA), .val (.int (3 : Int32)), .unset, .unset]) rfl ?_
    show Steps p.tables e below (T1.setTop (mkF m 8 #[.val (.ref o0), .val (.ref cA), .val (.int (3 : Int32)), .unset, .unset] [])) _
    refine XS.iconst X1.here hx rfl (hb hby d6_8) ?_
    show Steps p.tables e below (T1.setTop (mkF m 9 #[.val (.ref o0), .val (.ref cA), .val (.int (3 : Int32)), .unset, .unset] [(.int (0 : Int32))])) _
    refine XS.istoreN X1.here hx rfl (hb hby d6_9) rfl (l' := #[.val (.ref o0), .val (.ref cA), .val (.int (3 : Int32)), .val (.int (0 : Int32)), .unset]) rfl ?_
    show Steps p.tables e below (T1.setTop (mkF m 10 #[.val (.ref o0), .val (.ref cA), .val (.int (3 : Int32)), .val (.int (0 : Int32)), .unset] [])) _
    refine XS.iloadN X1.here hx rfl (hb hby d6_10) rfl ?_
    show Steps p.tables e below (T1.setTop (mkF m 11 #[.val (.ref o0), .val (.ref cA), .val (.int (3 : Int32)), .val (.int (0 : Int32)), .unset] [(.int (0 : Int32))])) _
    refine XS.iloadN X1.here hx rfl (hb hby d6_11) rfl ?_
    show Steps p.tables e below (T1.setTop (mkF m 12 #[.val (.ref o0), .val (.ref cA), .val (.int (3 : Int32)), .val (.int (0 : Int32)), .unset] [(.int (3 : Int32)), (.int (0 : Int32))])) _
    refine XS.icmpNo X1.here hx rfl (hb hby d6_12) rfl (tlt (by decide)).2.1 ?_
    show Steps p.tables e below (T1.setTop (mkF m 15 #[.val (.ref o0), .val (.ref cA), .val (.int (3 : Int32)), .val (.int (0 : Int32)), .unset] [])) _
    refine XS.aloadN X1.here hx rfl (hb hby d6_15) rfl rfl ?_
    show Steps p.tables e below (T1.setTop (mkF m 16 #[.val (.ref o0), .val (.ref cA), .val (.int (3 : Int32)), .val (.int (0 : Int32)), .unset] [(.ref cA)])) _
    refine XS.iloadN X1.here hx rfl (hb hby d6_16) rfl ?_
    show Steps p.tables e below (T1.setTop (mkF m 17 #[.val (.ref o0), .val (.ref cA), .val (.int (3 : Int32)), .val (.int (0 : Int32)), .unset] [(.int (0 : Int32)), (.ref cA)])) _
    refine AV.iaload ha1 X1 hx hZ e1 (j := (0 : Int32)) (by decide) (hb hby d6_17) ?_
    show Steps p.tables e below (T1.setTop (mkF m 18 #[.val (.ref o0), .val (.ref cA), .val (.int (3 : Int32)), .val (.int (0 : Int32)), .unset] [(.int (fF (0 : Int32).toNatClampNeg))])) _
    refine XS.istore X1.here hx rfl (hb hby d6_18) rfl (l' := #[.val (.ref o0), .val (.ref cA), .val (.int (3 : Int32)), .val (.int (0 : Int32)), .val (.int (fF (0 : Int32).toNatClampNeg))]) rfl ?_
    show Steps p.tables e below (T1.setTop (mkF m 20 #[.val (.ref o0), .val (.ref cA), .val (.int (3 : Int32)), .val (.int (0 : Int32)), .val (.int (fF (0 : Int32).toNatClampNeg))] [])) _
    refine XS.iload X1.here hx rfl (hb hby d6_20) rfl ?_
    show Steps p.tables e below (T1.setTop (mkF m 22 #[.val (.ref o0), .val (.ref cA), .val (.int (3 : Int32)), .val (.int (0 : Int32)), .val (.int (fF (0 : Int32).toNatClampNeg))] [(.int (fF (0 : Int32).toNatClampNeg))])) _
    refine XS.iconst X1.here hx rfl (hb hby d6_22) ?_
    show Steps p.tables e below (T1.setTop (mkF m 23 #[.val (.ref o0), .val (.ref cA), .val (.int (3 : Int32)), .val (.int (0 : Int32)), .val (.int (fF (0 : Int32).toNatClampNeg))] [(.int (1 : Int32)), (.int (fF (0 : Int32).toNatClampNeg))])) _
    exact kZ
  by_cases hc23 : (fF (0 : Int32).toNatClampNeg) = (1 : Int32)
  · refine Go.via (T' := T1.setTop (mkF m 28 #[.val (.ref o0), .val (.ref cA), .val (.int (3 : Int32)), .val (.int (0 : Int32)), .val (.int (fF (0 : Int32).toNatClampNeg))] [])) (fun tZ kZ => ?_) ?_
    · show Steps p.tables e below (T1.setTop (mkF m 23 #[.val (.ref o0), .val (.ref cA), .val (.int (3 : Int32)), .val (.int (0 : Int32)), .val (.int (fF (0 : Int32).toNatClampNeg))] [(.int (1 : Int32)), (.int (fF (0 : Int32).toNatClampNeg))])) _
      refine XS.icmpYes X1.here hx rfl (pc0 := 23) (pc' := 28) rfl (hb hby d6_23) rfl (teq hc23).1 (by decide) (by decide) ?_
      exact kZ
    refine Go.via (T' := T1.setTop (mkF m 23 #[.val (.ref o0), .val (.ref cA), .val (.int (3 : Int32)), .val (.int (1 : Int32)), .val (.int (fF (1 : Int32).toNatClampNeg))] [(.int (1 : Int32)), (.int (fF (1 : Int32).toNatClampNeg))])) (fun tZ kZ => ?_) ?_
    · show Steps p.tables e below (T1.setTop (mkF m 28 #[.val (.ref o0), .val (.ref cA), .val (.int (3 : Int32)), .val (.int (0 : Int32)), .val (.int (fF (0 : Int32).toNatClampNeg))] [])) _
      refine XS.iinc X1.here hx rfl (hb hby d6_28) rfl (l' := #[.val (.ref o0), .val (.ref cA), .val (.int (3 : Int32)), .val (.int (1 : Int32)), .val (.int (fF (0 : Int32).toNatClampNeg))]) rfl ?_
      show Steps p.tables e below (T1.setTop (mkF m 31 #[.val (.ref o0), .val (.ref cA), .val (.int (3 : Int32)), .val (.int (1 : Int32)), .val (.int (fF (0 : Int32).toNatClampNeg))] [])) _
      refine XS.goto X1.here hx rfl (pc0 := 31) (pc' := 10) rfl (hb hby d6_31) (by decide) (by decide) ?_
      show Steps p.tables e below (T1.setTop (mkF m 10 #[.val (.ref o0), .val (.ref cA), .val (.int (3 : Int32)), .val (.int (1 : Int32)), .val (.int (fF (0 : Int32).toNatClampNeg))] [])) _
      refine XS.iloadN X1.here hx rfl (hb hby d6_10) rfl ?_
      show Steps p.tables e below (T1.setTop (mkF m 11 #[.val (.ref o0), .val (.ref cA), .val (.int (3 : Int32)), .val (.int (1 : Int32)), .val (.int (fF (0 : Int32).toNatClampNeg))] [(.int (1 : Int32))])) _
      refine XS.iloadN X1.here hx rfl (hb hby d6_11) rfl ?_
      show Steps p.tables e below (T1.setTop (mkF m 12 #[.val (.ref o0), .val (.ref cA), .val (.int (3 : Int32)), .val (.int (1 : Int32)), .val (.int (fF (0 : Int32).toNatClampNeg))] [(.int (3 : Int32)), (.int (1 : Int32))])) _
      refine XS.icmpNo X1.here hx rfl (hb hby d6_12) rfl (tlt (by decide)).2.1 ?_
      show Steps p.tables e below (T1.setTop (mkF m 15 #[.val (.ref o0), .val (.ref cA), .val (.int (3 : Int32)), .val (.int (1 : Int32)), .val (.int (fF (0 : Int32).toNatClampNeg))] [])) _
      refine XS.aloadN X1.here hx rfl (hb hby d6_15) rfl rfl ?_
      show Steps p.tables e below (T1.setTop (mkF m 16 #[.val (.ref o0), .val (.ref cA), .val (.int (3 : Int32)), .val (.int (1 : Int32)), .val (.int (fF (0 : Int32).toNatClampNeg))] [(.ref cA)])) _
      refine XS.iloadN X1.here hx rfl (hb hby d6_16) rfl ?_
      show Steps p.tables e below (T1.setTop (mkF m 17 #[.val (.ref o0), .val (.ref cA), .val (.int (3 : Int32)), .val (.int (1 : Int32)), .val (.int (fF (0 : Int32).toNatClampNeg))] [(.int (1 : Int32)), (.ref cA)])) _
      refine AV.iaload ha1 X1 hx hZ e1 (j := (1 : Int32)) (by decide) (hb hby d6_17) ?_
      show Steps p.tables e below (T1.setTop (mkF m 18 #[.val (.ref o0), .val (.ref cA), .val (.int (3 : Int32)), .val (.int (1 : Int32)), .val (.int (fF (0 : Int32).toNatClampNeg))] [(.int (fF (1 : Int32).toNatClampNeg))])) _
      refine XS.istore X1.here hx rfl (hb hby d6_18) rfl (l' := #[.val (.ref o0), .val (.ref cA), .val (.int (3 : Int32)), .val (.int (1 : Int32)), .val (.int (fF (1 : Int32).toNatClampNeg))]) rfl ?_
      show Steps p.tables e below (T1.setTop (mkF m 20 #[.val (.ref o0), .val (.ref cA), .val (.int (3 : Int32)), .val (.int (1 : Int32)), .val (.int (fF (1 : Int32).toNatClampNeg))] [])) _
      refine XS.iload X1.here hx rfl (hb hby d6_20) rfl ?_
      show Steps p.tables e below (T1.setTop (mkF m 22 #[.val (.ref o0), .val (.ref cA), .val (.int (3 : Int32)), .val (.int (1 : Int32)), .val (.int (fF (1 : Int32).toNatClampNeg))] [(.int (fF (1 : Int32).toNatClampNeg))])) _
      refine XS.iconst X1.here hx rfl (hb hby d6_22) ?_
      show Steps p.tables e below (T1.setTop (mkF m 23 #[.val (.ref o0), .val (.ref cA), .val (.int (3 : Int32)), .val (.int (1 : Int32)), .val (.int (fF (1 : Int32).toNatClampNeg))] [(.int (1 : Int32)), (.int (fF (1 : Int32).toNatClampNeg))])) _
      exact kZ
    by_cases hc23_1 : (fF (1 : Int32).toNatClampNeg) = (1 : Int32)
    · refine Go.via (T' := T1.setTop (mkF m 28 #[.val (.ref o0), .val (.ref cA), .val (.int (3 : Int32)), .val (.int (1 : Int32)), .val (.int (fF (1 : Int32).toNatClampNeg))] [])) (fun tZ kZ => ?_) ?_
      · show Steps p.tables e below (T1.setTop (mkF m 23 #[.val (.ref o0), .val (.ref cA), .val (.int (3 : Int32)), .val (.int (1 : Int32)), .val (.int (fF (1 : Int32).toNatClampNeg))] [(.int (1 : Int32)), (.int (fF (1 : Int32).toNatClampNeg))])) _
        refine XS.icmpYes X1.here hx rfl (pc0 := 23) (pc' := 28) rfl (hb hby d6_23) rfl (teq hc23_1).1 (by decide) (by decide) ?_
        exact kZ
      refine Go.via (T' := T1.setTop (mkF m 23 #[.val (.ref o0), .val (.ref cA), .val (.int (3 : Int32)), .val (.int (2 : Int32)), .val (.int (fF (2 : Int32).toNatClampNeg))] [(.int (1 : Int32)), (.int (fF (2 : Int32).toNatClampNeg))])) (fun tZ kZ => ?_) ?_
      · show Steps p.tables e below (T1.setTop (mkF m 28 #[.val (.ref o0), .val (.ref cA), .val (.int (3 : Int32)), .val (.int (1 : Int32)), .val (.int (fF (1 : Int32).toNatClampNeg))] [])) _
        refine XS.iinc X1.here hx rfl (hb hby d6_28) rfl (l' := #[.val (.ref o0), .val (.ref cA), .val (.int (3 : Int32)), .val (.int (2 : Int32)), .val (.int (fF (1 : Int32).toNatClampNeg))]) rfl ?_
        show Steps p.tables e below (T1.setTop (mkF m 31 #[.val (.ref o0), .val (.ref cA), .val (.int (3 : Int32)), .val (.int (2 : Int32)), .val (.int (fF (1 : Int32).toNatClampNeg))] [])) _
        refine XS.goto X1.here hx rfl (pc0 := 31) (pc' := 10) rfl (hb hby d6_31) (by decide) (by decide) ?_
        show Steps p.tables e below (T1.setTop (mkF m 10 #[.val (.ref o0), .val (.ref cA), .val (.int (3 : Int32)), .val (.int (2 : Int32)), .val (.int (fF (1 : Int32).toNatClampNeg))] [])) _
        refine XS.iloadN X1.here hx rfl (hb hby d6_10) rfl ?_
        show Steps p.tables e below (T1.setTop (mkF m 11 #[.val (.ref o0), .val (.ref cA), .val (.int (3 : Int32)), .val (.int (2 : Int32)), .val (.int (fF (1 : Int32).toNatClampNeg))] [(.int (2 : Int32))])) _
        refine XS.iloadN X1.here hx rfl (hb hby d6_11) rfl ?_
        show Steps p.tables e below (T1.setTop (mkF m 12 #[.val (.ref o0), .val (.ref cA), .val (.int (3 : Int32)), .val (.int (2 : Int32)), .val (.int (fF (1 : Int32).toNatClampNeg))] [(.int (3 : Int32)), (.int (2 : Int32))])) _
        refine XS.icmpNo X1.here hx rfl (hb hby d6_12) rfl (tlt (by decide)).2.1 ?_
        show Steps p.tables e below (T1.setTop (mkF m 15 #[.val (.ref o0), .val (.ref cA), .val (.int (3 : Int32)), .val (.int (2 : Int32)), .val (.int (fF (1 : Int32).toNatClampNeg))] [])) _
        refine XS.aloadN X1.here hx rfl (hb hby d6_15) rfl rfl ?_
        show Steps p.tables e below (T1.setTop (mkF m 16 #[.val (.ref o0), .val (.ref cA), .val (.int (3 : Int32)), .val (.int (2 : Int32)), .val (.int (fF (1 : Int32).toNatClampNeg))] [(.ref cA)])) _
        refine XS.iloadN X1.here hx rfl (hb hby d6_16) rfl ?_
        show Steps p.tables e below (T1.setTop (mkF m 17 #[.val (.ref o0), .val (.ref cA), .val (.int (3 : Int32)), .val (.int (2 : Int32)), .val (.int (fF (1 : Int32).toNatClampNeg))] [(.int (2 : Int32)), (.ref cA)])) _
        refine AV.iaload ha1 X1 hx hZ e1 (j := (2 : Int32)) (by decide) (hb hby d6_17) ?_
        show Steps p.tables e below (T1.setTop (mkF m 18 #[.val (.ref o0), .val (.ref cA), .val (.int (3 : Int32)), .val (.int (2 : Int32)), .val (.int (fF (1 : Int32).toNatClampNeg))] [(.int (fF (2 : Int32).toNatClampNeg))])) _
        refine XS.istore X1.here hx rfl (hb hby d6_18) rfl (l' := #[.val (.ref o0), .val (.ref cA), .val (.int (3 : Int32)), .val (.int (2 : Int32)), .val (.int (fF (2 : Int32).toNatClampNeg))]) rfl ?_
        show Steps p.tables e below (T1.setTop (mkF m 20 #[.val (.ref o0), .val (.ref cA), .val (.int (3 : Int32)), .val (.int (2 : Int32)), .val (.int (fF (2 : Int32).toNatClampNeg))] [])) _
        refine XS.iload X1.here hx rfl (hb hby d6_20) rfl ?_
        show Steps p.tables e below (T1.setTop (mkF m 22 #[.val (.ref o0), .val (.ref cA), .val (.int (3 : Int32)), .val (.int (2 : Int32)), .val (.int (fF (2 : Int32).toNatClampNeg))] [(.int (fF (2 : Int32).toNatClampNeg))])) _
        refine XS.iconst X1.here hx rfl (hb hby d6_22) ?_
        show Steps p.tables e below (T1.setTop (mkF m 23 #[.val (.ref o0), .val (.ref cA), .val (.int (3 : Int32)), .val (.int (2 : Int32)), .val (.int (fF (2 : Int32).toNatClampNeg))] [(.int (1 : Int32)), (.int (fF (2 : Int32).toNatClampNeg))])) _
        exact kZ
      by_cases hc23_2 : (fF (2 : Int32).toNatClampNeg) = (1 : Int32)
      · refine Go.via (T' := T1.setTop (mkF m 28 #[.val (.ref o0), .val (.ref cA), .val (.int (3 : Int32)), .val (.int (2 : Int32)), .val (.int (fF (2 : Int32).toNatClampNeg))] [])) (fun tZ kZ => ?_) ?_
        · show Steps p.tables e below (T1.setTop (mkF m 23 #[.val (.ref o0), .val (.ref cA), .val (.int (3 : Int32)), .val (.int (2 : Int32)), .val (.int (fF (2 : Int32).toNatClampNeg))] [(.int (1 : Int32)), (.int (fF (2 : Int32).toNatClampNeg))])) _
          refine XS.icmpYes X1.here hx rfl (pc0 := 23) (pc' := 28) rfl (hb hby d6_23) rfl (teq hc23_2).1 (by decide) (by decide) ?_
          exact kZ
        refine Go.via (T' := T1.setTop (mkF m 35 #[.val (.ref o0), .val (.ref cA), .val (.int (3 : Int32)), .val (.int (3 : Int32)), .val (.int (fF (2 : Int32).toNatClampNeg))] [(.int (1 : Int32))])) (fun tZ kZ => ?_) ?_
        · show Steps p.tables e below (T1.setTop (mkF m 28 #[.val (.ref o0), .val (.ref cA), .val (.int (3 : Int32)), .val (.int (2 : Int32)), .val (.int (fF (2 : Int32).toNatClampNeg))] [])) _
          refine XS.iinc X1.here hx rfl (hb hby d6_28) rfl (l' := #[.val (.ref o0), .val (.ref cA), .val (.int (3 : Int32)), .val (.int (3 : Int32)), .val (.int (fF (2 : Int32).toNatClampNeg))]) rfl ?_
          show Steps p.tables e below (T1.setTop (mkF m 31 #[.val (.ref o0), .val (.ref cA), .val (.int (3 : Int32)), .val (.int (3 : Int32)), .val (.int (fF (2 : Int32).toNatClampNeg))] [])) _
          refine XS.goto X1.here hx rfl (pc0 := 31) (pc' := 10) rfl (hb hby d6_31) (by decide) (by decide) ?_
          show Steps p.tables e below (T1.setTop (mkF m 10 #[.val (.ref o0), .val (.ref cA), .val (.int (3 : Int32)), .val (.int (3 : Int32)), .val (.int (fF (2 : Int32).toNatClampNeg))] [])) _
          refine XS.iloadN X1.here hx rfl (hb hby d6_10) rfl ?_
          show Steps p.tables e below (T1.setTop (mkF m 11 #[.val (.ref o0), .val (.ref cA), .val (.int (3 : Int32)), .val (.int (3 : Int32)), .val (.int (fF (2 : Int32).toNatClampNeg))] [(.int (3 : Int32))])) _
          refine XS.iloadN X1.here hx rfl (hb hby d6_11) rfl ?_
          show Steps p.tables e below (T1.setTop (mkF m 12 #[.val (.ref o0), .val (.ref cA), .val (.int (3 : Int32)), .val (.int (3 : Int32)), .val (.int (fF (2 : Int32).toNatClampNeg))] [(.int (3 : Int32)), (.int (3 : Int32))])) _
          refine XS.icmpYes X1.here hx rfl (pc0 := 12) (pc' := 34) rfl (hb hby d6_12) rfl (flt (by decide)).2.1 (by decide) (by decide) ?_
          show Steps p.tables e below (T1.setTop (mkF m 34 #[.val (.ref o0), .val (.ref cA), .val (.int (3 : Int32)), .val (.int (3 : Int32)), .val (.int (fF (2 : Int32).toNatClampNeg))] [])) _
          refine XS.iconst X1.here hx rfl (hb hby d6_34) ?_
          show Steps p.tables e below (T1.setTop (mkF m 35 #[.val (.ref o0), .val (.ref cA), .val (.int (3 : Int32)), .val (.int (3 : Int32)), .val (.int (fF (2 : Int32).toNatClampNeg))] [(.int (1 : Int32))])) _
          exact kZ
        refine Go.retN X1 hx Bd.notSynchronized (t := .boolean) Bd.returns (by simp) (hb hby d6_35) (by decide) (by decide) ?_
        refine ⟨?_, N0, e1⟩
        show some ((Value.int (nar .boolean (1 : Int32))) : Value) = some (.int (f6n3 o0 cA fF))
        unfold f6n3; rw [if_pos hc23, if_pos hc23_1, if_pos hc23_2] <;> rfl
      · refine Go.via (T' := T1.setTop (mkF m 26 #[.val (.ref o0), .val (.ref cA), .val (.int (3 : Int32)), .val (.int (2 : Int32)), .val (.int (fF (2 : Int32).toNatClampNeg))] [])) (fun tZ kZ => ?_) ?_
        · show Steps p.tables e below (T1.setTop (mkF m 23 #[.val (.ref o0), .val (.ref cA), .val (.int (3 : Int32)), .val (.int (2 : Int32)), .val (.int (fF (2 : Int32).toNatClampNeg))] [(.int (1 : Int32)), (.int (fF (2 : Int32).toNatClampNeg))])) _
          refine XS.icmpNo X1.here hx rfl (hb hby d6_23) rfl (feq hc23_2).1 ?_
          exact kZ
        refine Go.via (T' := T1.setTop (mkF m 27 #[.val (.ref o0), .val (.ref cA), .val (.int (3 : Int32)), .val (.int (2 : Int32)), .val (.int (fF (2 : Int32).toNatClampNeg))] [(.int (0 : Int32))])) (fun tZ kZ => ?_) ?_
        · show Steps p.tables e below (T1.setTop (mkF m 26 #[.val (.ref o0), .val (.ref cA), .val (.int (3 : Int32)), .val (.int (2 : Int32)), .val (.int (fF (2 : Int32).toNatClampNeg))] [])) _
          refine XS.iconst X1.here hx rfl (hb hby d6_26) ?_
          show Steps p.tables e below (T1.setTop (mkF m 27 #[.val (.ref o0), .val (.ref cA), .val (.int (3 : Int32)), .val (.int (2 : Int32)), .val (.int (fF (2 : Int32).toNatClampNeg))] [(.int (0 : Int32))])) _
          exact kZ
        refine Go.retN X1 hx Bd.notSynchronized (t := .boolean) Bd.returns (by simp) (hb hby d6_27) (by decide) (by decide) ?_
        refine ⟨?_, N0, e1⟩
        show some ((Value.int (nar .boolean (0 : Int32))) : Value) = some (.int (f6n3 o0 cA fF))
        unfold f6n3; rw [if_pos hc23, if_pos hc23_1, if_neg hc23_2] <;> rfl
    · refine Go.via (T' := T1.setTop (mkF m 26 #[.val (.ref o0), .val (.ref cA), .val (.int (3 : Int32)), .val (.int (1 : Int32)), .val (.int (fF (1 : Int32).toNatClampNeg))] [])) (fun tZ kZ => ?_) ?_
      · show Steps p.tables e below (T1.setTop (mkF m 23 #[.val (.ref o0), .val (.ref cA), .val (.int (3 : Int32)), .val (.int (1 : Int32)), .val (.int (fF (1 : Int32).toNatClampNeg))] [(.int (1 : Int32)), (.int (fF (1 : Int32).toNatClampNeg))])) _
        refine XS.icmpNo X1.here hx rfl (hb hby d6_23) rfl (feq hc23_1).1 ?_
        exact kZ
      refine Go.via (T' := T1.setTop (mkF m 27 #[.val (.ref o0), .val (.ref cA), .val (.int (3 : Int32)), .val (.int (1 : Int32)), .val (.int (fF (1 : Int32).toNatClampNeg))] [(.int (0 : Int32))])) (fun tZ kZ => ?_) ?_
      · show Steps p.tables e below (T1.setTop (mkF m 26 #[.val (.ref o0), .val (.ref cA), .val (.int (3 : Int32)), .val (.int (1 : Int32)), .val (.int (fF (1 : Int32).toNatClampNeg))] [])) _
        refine XS.iconst X1.here hx rfl (hb hby d6_26) ?_
        show Steps p.tables e below (T1.setTop (mkF m 27 #[.val (.ref o0), .val (.ref cA), .val (.int (3 : Int32)), .val (.int (1 : Int32)), .val (.int (fF (1 : Int32).toNatClampNeg))] [(.int (0 : Int32))])) _
        exact kZ
      refine Go.retN X1 hx Bd.notSynchronized (t := .boolean) Bd.returns (by simp) (hb hby d6_27) (by decide) (by decide) ?_
      refine ⟨?_, N0, e1⟩
      show some ((Value.int (nar .boolean (0 : Int32))) : Value) = some (.int (f6n3 o0 cA fF))
      unfold f6n3; rw [if_pos hc23, if_neg hc23_1] <;> rfl
  · refine Go.via (T' := T1.setTop (mkF m 26 #[.val (.ref o0), .val (.ref cA), .val (.int (3 : Int32)), .val (.int (0 : Int32)), .val (.int (fF (0 : Int32).toNatClampNeg))] [])) (fun tZ kZ => ?_) ?_
    · show Steps p.tables e below (T1.setTop (mkF m 23 #[.val (.ref o0), .val (.ref cA), .val (.int (3 : Int32)), .val (.int (0 : Int32)), .val (.int (fF (0 : Int32).toNatClampNeg))] [(.int (1 : Int32)), (.int (fF (0 : Int32).toNatClampNeg))])) _
      refine XS.icmpNo X1.here hx rfl (hb hby d6_23) rfl (feq hc23).1 ?_
      exact kZ
    refine Go.via (T' := T1.setTop (mkF m 27 #[.val (.ref o0), .val (.ref cA), .val (.int (3 : Int32)), .val (.int (0 : Int32)), .val (.int (fF (0 : Int32).toNatClampNeg))] [(.int (0 : Int32))])) (fun tZ kZ => ?_) ?_
    · show Steps p.tables e below (T1.setTop (mkF m 26 #[.val (.ref o0), .val (.ref cA), .val (.int (3 : Int32)), .val (.int (0 : Int32)), .val (.int (fF (0 : Int32).toNatClampNeg))] [])) _
      refine XS.iconst X1.here hx rfl (hb hby d6_26) ?_
      show Steps p.tables e below (T1.setTop (mkF m 27 #[.val (.ref o0), .val (.ref cA), .val (.int (3 : Int32)), .val (.int (0 : Int32)), .val (.int (fF (0 : Int32).toNatClampNeg))] [(.int (0 : Int32))])) _
      exact kZ
    refine Go.retN X1 hx Bd.notSynchronized (t := .boolean) Bd.returns (by simp) (hb hby d6_27) (by decide) (by decide) ?_
    refine ⟨?_, N0, e1⟩
    show some ((Value.int (nar .boolean (0 : Int32))) : Value) = some (.int (f6n3 o0 cA fF))
    unfold f6n3; rw [if_neg hc23] <;> rfl
def w1n4_0 (fF : Nat → Int32) : Int32 := (((0 : Int32) + ((1 : Int32) + (fF (0 : Int32).toNatClampNeg))) + ((1 : Int32) + (fF (1 : Int32).toNatClampNeg)))
def w1n4_1 (fF : Nat → Int32) : Int32 := (((w1n4_0 fF) + ((1 : Int32) + (fF (2 : Int32).toNatClampNeg))) + ((1 : Int32) + (fF (3 : Int32).toNatClampNeg)))
def Q1n4 (Z : State) (o0 : Addr) (o1 : Addr) (fF : Nat → Int32) (aD : Addr) (h0 : Heap) (n0 : Nat) (v : Option Value) (h : Heap) (L : List Loc) : Prop := v = none ∧ Fr n0 L ∧ ∃ b8 : Addr, h0.size ≤ b8 ∧ Keep h0 h [o0] ∧ Exa Z h o0 "com/example/ltlconv/ltlconv/dra/RabinDraft" ∧ Fld Z h o0 "com/example/ltlconv/ltlconv/dra/RabinDraft" "infiniteCounts" "[I" (.ref b8) ∧ AV Z h o1 .int 4 (fun k => .int (fF k)) ∧ Exa Z h o1 "[I" ∧ Sta Z h "java/util/ArrayList" "DEFAULTCAPACITY_EMPTY_ELEMENTDATA" "[Ljava/lang/Object;" (.ref aD) ∧ AV Z h b8 .int 4 (fun k => .int (fF k)) ∧ Exa Z h b8 "[I"
set_option maxRecDepth 65536 in
set_option maxHeartbeats 40000000 in
theorem rm1n4 (l : Launch) (Z : State) (a0 : Array Value) (hw : ∀ d ∈ tables_1, d.before a0 Z = true) (ws : List Jvm.Cond) (o0 : Addr) (o1 : Addr) (fF : Nat → Int32) (aD : Addr) (h0 : Heap) (n0 : Nat) (Z0 : n0 ≤ h0.size) (ha0 : Exa Z h0 o0 "com/example/ltlconv/ltlconv/dra/RabinDraft") (ha1 : Fld Z h0 o0 "com/example/ltlconv/ltlconv/dra/RabinDraft" "transitions" "Ljava/util/List;" .null) (ha2 : Fld Z h0 o0 "com/example/ltlconv/ltlconv/dra/RabinDraft" "infiniteCounts" "[I" .null) (ha3 : Fld Z h0 o0 "com/example/ltlconv/ltlconv/dra/RabinDraft" "finiteSets" "[I" .null) (ha4 : n0 ≤ o0) (ha5 : AV Z h0 o1 .int 4 (fun k => .int (fF k))) (ha6 : Exa Z h0 o1 "[I") (ha7 : Sta Z h0 "java/util/ArrayList" "DEFAULTCAPACITY_EMPTY_ELEMENTDATA" "[Ljava/lang/Object;" (.ref aD)) (hne_o0_o1 : o0 ≠ o1) :
    MetFree l (⟨"com/example/ltlconv/ltlconv/dra/RabinDraft", "<init>", "([I)V"⟩ : MethodName) (head1 (Jvm.Cond.code (⟨"com/example/ltlconv/ltlconv/dra/RabinDraft", "<init>", "([I)V"⟩ : MethodName) prog_52_method_1_code 4 none :: ws) ({ frames := 4, cells := 3, slots := 11, locals := 50 } : Room)) (fun a U => a = #[(.ref o0), (.ref o1)] ∧ Z.Warmed39 U.vm ∧ U.heap = h0) (fun _ _ _ _ _ => True) (fun _ U o U' => ∃ v L, o = .returned v ∧ Q1n4 Z o0 o1 fF aD h0 n0 v U'.heap L ∧ FrameEnd U o U' L ({ frames := 4, cells := 3, slots := 11, locals := 50 } : Room).cells ({ frames := 4, cells := 3, slots := 11, locals := 50 } : Room).slots) := by
  refine MetFree.of_bodySF (plainFor_of_name pn_3) hisR ?_
  intro p e s m args below meth c s₁ Bd hml0 hP hK
  obtain ⟨rfl, hZ, hh⟩ := hP
  have hx := Bd.exec
  have hby := Bd.bytes
  have hml : c.maxLocals = 4 := hml0
  have hown : s.vm.findClass "com/example/ltlconv/ltlconv/dra/RabinDraft" = some m.cls := findClass_of_methodNamed Bd.named
  have hnm := (name_of_methodNamed Bd.named Bd.method).1
  have X0 : Stand p l e ({ frames := 4, cells := 3, slots := 11, locals := 50 } : Room) s m #[(.ref o0), (.ref o1)] below meth c s₁ [] 0 0 := Stand.of_body Bd
  have e0 : s₁.heap = h0 := by rw [← hh, Bd.state]; rfl
  have N0 := Fr.nil n0
  refine Go.into (P := fun oo uu => ∃ v L, oo = .returned v ∧ Q1n4 Z o0 o1 fF aD h0 n0 v uu.heap L ∧ FrameEnd s oo uu L ({ frames := 4, cells := 3, slots := 11, locals := 50 } : Room).cells ({ frames := 4, cells := 3, slots := 11, locals := 50 } : Room).slots) (ef_1_aa m o0 o1) ?_
  show Go p e below _ (s₁.setTop (mkF m 0 #[.val (.ref o0), .val (.ref o1), .unset, .unset] []))
  refine Go.via (T' := s₁.setTop (mkF m 1 #[.val (.ref o0), .val (.ref o1), .unset, .unset] [(.ref o0)])) (fun tZ kZ => ?_) ?_
  · show Steps p.tables e below (s₁.setTop (mkF m 0 #[.val (.ref o0), .val (.ref o1), .unset, .unset] [])) _
    refine XS.aloadN X0.here hx rfl (hb hby d1_0) rfl rfl ?_
    show Steps p.tables e below (s₁.setTop (mkF m 1 #[.val (.ref o0), .val (.ref o1), .unset, .unset] [(.ref o0)])) _
    exact kZ
  obtain ⟨T1, X1, e1, st1⟩ := initO X0 hx hZ hown (hw _ (List.mem_of_getElem? (i := 7) rfl)) (hw _ (List.mem_of_getElem? (i := 8) rfl)) (hw _ (List.mem_of_getElem? (i := 9) rfl)) e0 (g := (mkF m 1 #[.val (.ref o0), .val (.ref o1), .unset, .unset] [(.ref o0)])) rfl (by rw [hml]; rfl) rfl (hb hby d1_1) (by decide) (W := 0) (by show 2 * 0 + _ ≤ _; exact Nat.le_of_eq rfl) (by decide)
  refine Go.via st1 ?_
  show Go p e below _ (T1.setTop (mkF m 4 #[.val (.ref o0), .val (.ref o1), .unset, .unset] []))
  refine Go.via (T' := T1.setTop (mkF m 5 #[.val (.ref o0), .val (.ref o1), .unset, .unset] [(.ref o0)])) (fun tZ kZ => ?_) ?_
  · show Steps p.tables e below (T1.setTop (mkF m 4 #[.val (.ref o0), .val (.ref o1), .unset, .unset] [])) _
    refine XS.aloadN X1.here hx rfl (hb hby d1_4) rfl rfl ?_
    show Steps p.tables e below (T1.setTop (mkF m 5 #[.val (.ref o0), .val (.ref o1), .unset, .unset] [(.ref o0)])) _
    exact kZ
  obtain ⟨T2, h2, X2, e2, E2, A2, D2, -, st2⟩ := newO X1 hx hZ hown (hw _ (List.mem_of_getElem? (i := 10) rfl)) (hw _ (List.mem_of_getElem? (i := 11) rfl)) (hw _ (List.mem_of_getElem? (i := 12) rfl)) e1 (g := (mkF m 5 #[.val (.ref o0), .val (.ref o1), .unset, .unset] [(.ref o0)])) rfl (hb hby d1_5) (by decide) (by decide)
  obtain ⟨b2, g2⟩ : ∃ z, z = h0.size := ⟨_, rfl⟩
  rw [← g2] at A2 D2 st2
  have g_b2 : n0 ≤ b2 := Nat.le_trans Z0 (Nat.le_of_eq g2.symm)
  have sz_b2 : h0.size ≤ b2 := Nat.le_trans ((Keep.refl h0 [o0])).1 (Nat.le_of_eq g2.symm)
  have ne_o0_b2 : o0 ≠ b2 := Nat.ne_of_lt (Nat.lt_of_lt_of_le ha0.lt (Nat.le_of_eq g2.symm))
  have ne_o1_b2 : o1 ≠ b2 := Nat.ne_of_lt (Nat.lt_of_lt_of_le ha5.lt (Nat.le_of_eq g2.symm))
  have c3_0 := ha0.ext E2
  have c3_1 := ha1.ext E2
  have c3_2 := ha2.ext E2
  have c3_3 := ha3.ext E2
  have c3_5 := ha5.ext E2
  have c3_6 := ha6.ext E2
  have c3_7 := ha7.ext E2
  have K2 : Keep h0 h2 [o0] := (Keep.refl h0 [o0]).ext E2
  have Z2 : n0 ≤ h2.size := Nat.le_trans Z0 E2.1
  have F2_modCount : Fld Z h2 b2 "java/util/AbstractList" "modCount" "I" (.int (0 : Int32)) := D2 (Or.inl (hw _ (List.mem_of_getElem? (i := 30) rfl))) (ty := .int) (by decide)
  have F2_elementData : Fld Z h2 b2 "java/util/ArrayList" "elementData" "[Ljava/lang/Object;" .null := D2 (Or.inl (hw _ (List.mem_of_getElem? (i := 33) rfl))) (ty := (.array (.object "java/lang/Object"))) (by decide)
  refine Go.via st2 ?_
  show Go p e below _ (T2.setTop (mkF m 8 #[.val (.ref o0), .val (.ref o1), .unset, .unset] [(.ref b2), (.ref o0)]))
  refine Go.via (T' := T2.setTop (mkF m 9 #[.val (.ref o0), .val (.ref o1), .unset, .unset] [(.ref b2), (.ref b2), (.ref o0)])) (fun tZ kZ => ?_) ?_
  · show Steps p.tables e below (T2.setTop (mkF m 8 #[.val (.ref o0), .val (.ref o1), .unset, .unset] [(.ref b2), (.ref o0)])) _
    refine XS.dup X2.here hx rfl (hb hby d1_8) rfl rfl ?_
    show Steps p.tables e below (T2.setTop (mkF m 9 #[.val (.ref o0), .val (.ref o1), .unset, .unset] [(.ref b2), (.ref b2), (.ref o0)])) _
    exact kZ
  obtain ⟨_, _, ⟨T4, L4, k4, n4⟩, -, X4, ⟨Lc4, hQ4, l4, y4, z4⟩, st4⟩ := X2.specialBack hx (y := (⟨"java/util/ArrayList", "<init>", "()V"⟩ : MethodName)) rfl hown (mvT hZ (hw _ (List.mem_of_getElem? (i := 13) rfl))) (mvT hZ (hw _ (List.mem_of_getElem? (i := 14) rfl))) (mvT hZ (hw _ (List.mem_of_getElem? (i := 15) rfl))) (by decide) (backOf (W := 2) (rm3 l Z a0 hw [] b2 aD h2 n0 Z2 A2 F2_modCount F2_elementData g_b2 c3_7) hZ (hw _ (List.mem_of_getElem? (i := 15) rfl)) (hw _ (List.mem_of_getElem? (i := 12) rfl)) (by decide) (by decide)) (g := (mkF m 9 #[.val (.ref o0), .val (.ref o1), .unset, .unset] [(.ref b2), (.ref b2), (.ref o0)])) rfl (by rw [hml]; rfl) (Steps.refl _) (a := b2) (argsL := []) (rest := [(.ref b2), (.ref o0)]) (lenOf pd_1 rfl) rfl (by show 2 * 0 + _ ≤ _; exact Nat.le_of_eq rfl) (hb hby d1_9) (fun _ _ => ⟨rfl, e2, (by decide : 0 + 1 + 0 ≤ _), (by decide : 0 + 3 + 0 ≤ _)⟩)
  dsimp only [Pt.U, Pt.locs, Pt.cells, Pt.slots] at X4 l4 y4 z4 st4 hQ4
  subst l4 y4 z4
  obtain ⟨rfl, N4q, Kq4, f4_0, f4_1, f4_2, f4_3⟩ := hQ4
  have c5_0 := c3_0.keep Kq4
  have c5_1 := c3_1.keep Kq4 (ninS ne_o0_b2 nin0)
  have c5_2 := c3_2.keep Kq4 (ninS ne_o0_b2 nin0)
  have c5_3 := c3_3.keep Kq4 (ninS ne_o0_b2 nin0)
  have c5_5 := c3_5.keep Kq4 (ninS ne_o1_b2 nin0)
  have c5_6 := c3_6.keep Kq4
  have K4 : Keep h0 T4.heap [o0] := K2.trans Kq4 (allS (Or.inr sz_b2) all0)
  have Z4 : n0 ≤ T4.heap.size := Nat.le_trans Z2 Kq4.1
  have N4 := Fr.app N0 N4q
  refine Go.via (fun t k => st4.trans k) ?_
  show Go p e below _ (T4.setTop (mkF m 12 #[.val (.ref o0), .val (.ref o1), .unset, .unset] [(.ref b2), (.ref o0)]))
  obtain ⟨T6, h6, X6, e6, W6, st6⟩ := putF X4 hx hZ hown (host := "") (Or.inl (hw _ (List.mem_of_getElem? (i := 34) rfl))) Via.refl rfl c5_1 c5_0 (Or.inr ⟨(hw _ (List.mem_of_getElem? (i := 35) rfl)), rfl, hnm⟩) (hw _ (List.mem_of_getElem? (i := 2) rfl)) (ty := (.object "java/util/List")) (by decide) rfl rfl (g := (mkF m 12 #[.val (.ref o0), .val (.ref o1), .unset, .unset] [(.ref b2), (.ref o0)])) rfl rfl (hb hby d1_12)
  have N6 := Fr.snoc X6 N4 ha4
  have c7_0 := c5_0.wr W6
  have c7_2 := c5_2.other W6 (Or.inr (slot_ne (Or.inr (hw _ (List.mem_of_getElem? (i := 46) rfl))) (Or.inr (hw _ (List.mem_of_getElem? (i := 35) rfl))) (by decide) (t := (.array .int)) (t' := (.object "java/util/List")) (by decide) (by decide)))
  have c7_3 := c5_3.other W6 (Or.inr (slot_ne (Or.inr (hw _ (List.mem_of_getElem? (i := 48) rfl))) (Or.inr (hw _ (List.mem_of_getElem? (i := 35) rfl))) (by decide) (t := (.array .int)) (t' := (.object "java/util/List")) (by decide) (by decide)))
  have c7_5 := c5_5.other W6 (Ne.symm hne_o0_o1)
  have c7_6 := c5_6.wr W6
  have c7_7 := f4_3.wr W6
  have c7_9 := f4_0.wr W6
  have c7_10 := f4_1.other W6 (Or.inl (Ne.symm ne_o0_b2))
  have c7_11 := f4_2.other W6 (Or.inl (Ne.symm ne_o0_b2))
  have K6 : Keep h0 h6 [o0] := K4.wr W6 (Or.inl (by simp))
  have Z6 : n0 ≤ h6.size := Nat.le_trans Z4 (Keep.of_wr W6).1
  have Fw6 := c5_1.same W6
  refine Go.via st6 ?_
  show Go p e below _ (T6.setTop (mkF m 15 #[.val (.ref o0), .val (.ref o1), .unset, .unset] []))
  refine Go.via (T' := T6.setTop (mkF m 17 #[.val (.ref o0), .val (.ref o1), .unset, .unset] [(.ref o1), (.ref o0)])) (fun tZ kZ => ?_) ?_
  · show Steps p.tables e below (T6.setTop (mkF m 15 #[.val (.ref o0), .val (.ref o1), .unset, .unset] [])) _
    refine XS.aloadN X6.here hx rfl (hb hby d1_15) rfl rfl ?_
    show Steps p.tables e below (T6.setTop (mkF m 16 #[.val (.ref o0), .val (.ref o1), .unset, .unset] [(.ref o0)])) _
    refine XS.aloadN X6.here hx rfl (hb hby d1_16) rfl rfl ?_
    show Steps p.tables e below (T6.setTop (mkF m 17 #[.val (.ref o0), .val (.ref o1), .unset, .unset] [(.ref o1), (.ref o0)])) _
    exact kZ
  obtain ⟨T8, h8, X8, e8, E8, V8, B8, st8⟩ := AV.clone c7_5 (fun _ _ => rfl) X6 hx hZ hown (hw _ (List.mem_of_getElem? (i := 36) rfl)) (hw _ (List.mem_of_getElem? (i := 37) rfl)) (hw _ (List.mem_of_getElem? (i := 41) rfl)) (hw _ (List.mem_of_getElem? (i := 39) rfl)) (hw _ (List.mem_of_getElem? (i := 40) rfl)) (hw _ (List.mem_of_getElem? (i := 42) rfl)) e6 c7_6 (g := (mkF m 17 #[.val (.ref o0), .val (.ref o1), .unset, .unset] [(.ref o1), (.ref o0)])) rfl (by rw [hml]; rfl) (rest := [(.ref o0)]) rfl (hb hby d1_17) (by decide) (W := 1) (cap := 4) (by show 2 * 0 + _ ≤ _; exact Nat.le_of_eq rfl) (by decide) (by decide) (by decide) (by decide)
  obtain ⟨b8, g8⟩ : ∃ z, z = h6.size := ⟨_, rfl⟩
  rw [← g8] at V8 B8 st8
  have g_b8 : n0 ≤ b8 := Nat.le_trans Z6 (Nat.le_of_eq g8.symm)
  have sz_b8 : h0.size ≤ b8 := Nat.le_trans (K6).1 (Nat.le_of_eq g8.symm)
  have ne_o0_b8 : o0 ≠ b8 := Nat.ne_of_lt (Nat.lt_of_lt_of_le c7_0.lt (Nat.le_of_eq g8.symm))
  have ne_o1_b8 : o1 ≠ b8 := Nat.ne_of_lt (Nat.lt_of_lt_of_le c7_5.lt (Nat.le_of_eq g8.symm))
  have ne_b2_b8 : b2 ≠ b8 := Nat.ne_of_lt (Nat.lt_of_lt_of_le c7_9.lt (Nat.le_of_eq g8.symm))
  have c9_0 := c7_0.ext E8
  have c9_1 := Fw6.ext E8
  have c9_2 := c7_2.ext E8
  have c9_3 := c7_3.ext E8
  have c9_5 := c7_5.ext E8
  have c9_6 := c7_6.ext E8
  have c9_7 := c7_7.ext E8
  have c9_9 := c7_9.ext E8
  have c9_10 := c7_10.ext E8
  have c9_11 := c7_11.ext E8
  have K8 : Keep h0 h8 [o0] := K6.ext E8
  have Z8 : n0 ≤ h8.size := Nat.le_trans Z6 E8.1
  refine Go.via st8 ?_
  show Go p e below _ (T8.setTop (mkF m 20 #[.val (.ref o0), .val (.ref o1), .unset, .unset] [(.ref b8), (.ref o0)]))
  obtain ⟨T10, X10, e10, st10⟩ := castY X8 hx hZ hown (hw _ (List.mem_of_getElem? (i := 43) rfl)) e8 (Ins.self B8) (g := (mkF m 20 #[.val (.ref o0), .val (.ref o1), .unset, .unset] [(.ref b8), (.ref o0)])) rfl rfl (hb hby d1_20)
  refine Go.via st10 ?_
  show Go p e below _ (T10.setTop (mkF m 23 #[.val (.ref o0), .val (.ref o1), .unset, .unset] [(.ref b8), (.ref o0)]))
  obtain ⟨T11, h11, X11, e11, W11, st11⟩ := putF X10 hx hZ hown (host := "") (Or.inl (hw _ (List.mem_of_getElem? (i := 45) rfl))) Via.refl e10 c9_2 c9_0 (Or.inr ⟨(hw _ (List.mem_of_getElem? (i := 46) rfl)), rfl, hnm⟩) (hw _ (List.mem_of_getElem? (i := 2) rfl)) (ty := (.array .int)) (by decide) rfl rfl (g := (mkF m 23 #[.val (.ref o0), .val (.ref o1), .unset, .unset] [(.ref b8), (.ref o0)])) rfl rfl (hb hby d1_23)
  have N11 := Fr.snoc X11 N6 ha4
  have c12_0 := c9_0.wr W11
  have c12_1 := c9_1.other W11 (Or.inr (slot_ne (Or.inr (hw _ (List.mem_of_getElem? (i := 35) rfl))) (Or.inr (hw _ (List.mem_of_getElem? (i := 46) rfl))) (by decide) (t := (.object "java/util/List")) (t' := (.array .int)) (by decide) (by decide)))
  have c12_3 := c9_3.other W11 (Or.inr (slot_ne (Or.inr (hw _ (List.mem_of_getElem? (i := 48) rfl))) (Or.inr (hw _ (List.mem_of_getElem? (i := 46) rfl))) (by decide) (t := (.array .int)) (t' := (.array .int)) (by decide) (by decide)))
  have c12_5 := c9_5.other W11 (Ne.symm hne_o0_o1)
  have c12_6 := c9_6.wr W11
  have c12_7 := c9_7.wr W11
  have c12_9 := c9_9.wr W11
  have c12_10 := c9_10.other W11 (Or.inl (Ne.symm ne_o0_b2))
  have c12_11 := c9_11.other W11 (Or.inl (Ne.symm ne_o0_b2))
  have c12_13 := V8.other W11 (Ne.symm ne_o0_b8)
  have c12_14 := B8.wr W11
  have K11 : Keep h0 h11 [o0] := K8.wr W11 (Or.inl (by simp))
  have Z11 : n0 ≤ h11.size := Nat.le_trans Z8 (Keep.of_wr W11).1
  have Fw11 := c9_2.same W11
  refine Go.via st11 ?_
  show Go p e below _ (T11.setTop (mkF m 26 #[.val (.ref o0), .val (.ref o1), .unset, .unset] []))
  refine Go.via (T' := T11.setTop (mkF m 29 #[.val (.ref o0), .val (.ref o1), .unset, .unset] [(.int (4 : Int32)), (.ref o0)])) (fun tZ kZ => ?_) ?_
  · show Steps p.tables e below (T11.setTop (mkF m 26 #[.val (.ref o0), .val (.ref o1), .unset, .unset] [])) _
    refine XS.aloadN X11.here hx rfl (hb hby d1_26) rfl rfl ?_
    show Steps p.tables e below (T11.setTop (mkF m 27 #[.val (.ref o0), .val (.ref o1), .unset, .unset] [(.ref o0)])) _
    refine XS.aloadN X11.here hx rfl (hb hby d1_27) rfl rfl ?_
    show Steps p.tables e below (T11.setTop (mkF m 28 #[.val (.ref o0), .val (.ref o1), .unset, .unset] [(.ref o1), (.ref o0)])) _
    refine AV.len c12_5 X11 hx hZ e11 (hb hby d1_28) ?_
    show Steps p.tables e below (T11.setTop (mkF m 29 #[.val (.ref o0), .val (.ref o1), .unset, .unset] [(.int (4 : Int32)), (.ref o0)])) _
    exact kZ
  obtain ⟨T13, h13, k13, X13, e13, E13, A13, B13, st13⟩ := newPE X11 hx hZ (hw _ (List.mem_of_getElem? (i := 0) rfl)) e11 (g := (mkF m 29 #[.val (.ref o0), .val (.ref o1), .unset, .unset] [(.int (4 : Int32)), (.ref o0)])) rfl (hb hby d1_29) rfl (by decide) (cap := 4) (by decide) (by decide) (by decide) (by decide) (ad := "[I") rfl
  obtain ⟨b13, g13⟩ : ∃ z, z = h11.size := ⟨_, rfl⟩
  rw [← g13] at A13 B13 st13
  have g_b13 : n0 ≤ b13 := Nat.le_trans Z11 (Nat.le_of_eq g13.symm)
  have sz_b13 : h0.size ≤ b13 := Nat.le_trans (K11).1 (Nat.le_of_eq g13.symm)
  have ne_o0_b13 : o0 ≠ b13 := Nat.ne_of_lt (Nat.lt_of_lt_of_le c12_0.lt (Nat.le_of_eq g13.symm))
  have ne_o1_b13 : o1 ≠ b13 := Nat.ne_of_lt (Nat.lt_of_lt_of_le c12_5.lt (Nat.le_of_eq g13.symm))
  have ne_b2_b13 : b2 ≠ b13 := Nat.ne_of_lt (Nat.lt_of_lt_of_le c12_9.lt (Nat.le_of_eq g13.symm))
  have ne_b8_b13 : b8 ≠ b13 := Nat.ne_of_lt (Nat.lt_of_lt_of_le c12_13.lt (Nat.le_of_eq g13.symm))
  have c14_0 := c12_0.ext E13
  have c14_1 := c12_1.ext E13
  have c14_2 := Fw11.ext E13
  have c14_3 := c12_3.ext E13
  have c14_5 := c12_5.ext E13
  have c14_6 := c12_6.ext E13
  have c14_7 := c12_7.ext E13
  have c14_9 := c12_9.ext E13
  have c14_10 := c12_10.ext E13
  have c14_11 := c12_11.ext E13
  have c14_13 := c12_13.ext E13
  have c14_14 := c12_14.ext E13
  have K13 : Keep h0 h13 [o0] := K11.ext E13
  have Z13 : n0 ≤ h13.size := Nat.le_trans Z11 E13.1
  have V13 : AV Z h13 b13 .int 4 (fun k => .int ((fun _ => (0 : Int32)) k)) := by have q := AV.new A13; exact q
  refine Go.via st13 ?_
  show Go p e below _ (T13.setTop (mkF m 31 #[.val (.ref o0), .val (.ref o1), .unset, .unset] [(.ref b13), (.ref o0)]))
  obtain ⟨T15, h15, X15, e15, W15, st15⟩ := putF X13 hx hZ hown (host := "") (Or.inl (hw _ (List.mem_of_getElem? (i := 47) rfl))) Via.refl e13 c14_3 c14_0 (Or.inr ⟨(hw _ (List.mem_of_getElem? (i := 48) rfl)), rfl, hnm⟩) (hw _ (List.mem_of_getElem? (i := 2) rfl)) (ty := (.array .int)) (by decide) rfl rfl (g := (mkF m 31 #[.val (.ref o0), .val (.ref o1), .unset, .unset] [(.ref b13), (.ref o0)])) rfl rfl (hb hby d1_31)
  have N15 := Fr.snoc X15 N11 ha4
  have c16_0 := c14_0.wr W15
  have c16_1 := c14_1.other W15 (Or.inr (slot_ne (Or.inr (hw _ (List.mem_of_getElem? (i := 35) rfl))) (Or.inr (hw _ (List.mem_of_getElem? (i := 48) rfl))) (by decide) (t := (.object "java/util/List")) (t' := (.array .int)) (by decide) (by decide)))
  have c16_2 := c14_2.other W15 (Or.inr (slot_ne (Or.inr (hw _ (List.mem_of_getElem? (i := 46) rfl))) (Or.inr (hw _ (List.mem_of_getElem? (i := 48) rfl))) (by decide) (t := (.array .int)) (t' := (.array .int)) (by decide) (by decide)))
  have c16_5 := c14_5.other W15 (Ne.symm hne_o0_o1)
  have c16_6 := c14_6.wr W15
  have c16_7 := c14_7.wr W15
  have c16_9 := c14_9.wr W15
  have c16_10 := c14_10.other W15 (Or.inl (Ne.symm ne_o0_b2))
  have c16_11 := c14_11.other W15 (Or.inl (Ne.symm ne_o0_b2))
  have c16_13 := c14_13.other W15 (Ne.symm ne_o0_b8)
  have c16_14 := c14_14.wr W15
  have c16_16 := B13.wr W15
  have c16_17 := V13.other W15 (Ne.symm ne_o0_b13)
  have K15 : Keep h0 h15 [o0] := K13.wr W15 (Or.inl (by simp))
  have Z15 : n0 ≤ h15.size := Nat.le_trans Z13 (Keep.of_wr W15).1
  have Fw15 := c14_3.same W15
  refine Go.via st15 ?_
  show Go p e below _ (T15.setTop (mkF m 34 #[.val (.ref o0), .val (.ref o1), .unset, .unset] []))
  refine Go.via (T' := T15.setTop (mkF m 45 #[.val (.ref o0), .val (.ref o1), .val (.int (0 : Int32)), .val (.int (0 : Int32))] [(.ref o0)])) (fun tZ kZ => ?_) ?_
  · show Steps p.tables e below (T15.setTop (mkF m 34 #[.val (.ref o0), .val (.ref o1), .unset, .unset] [])) _
    refine XS.iconst X15.here hx rfl (hb hby d1_34) ?_
    show Steps p.tables e below (T15.setTop (mkF m 35 #[.val (.ref o0), .val (.ref o1), .unset, .unset] [(.int (0 : Int32))])) _
    refine XS.istoreN X15.here hx rfl (hb hby d1_35) rfl (l' := #[.val (.ref o0), .val (.ref o1), .val (.int (0 : Int32)), .unset]) rfl ?_
    show Steps p.tables e below (T15.setTop (mkF m 36 #[.val (.ref o0), .val (.ref o1), .val (.int (0 : Int32)), .unset] [])) _
    refine XS.iconst X15.here hx rfl (hb hby d1_36) ?_
    show Steps p.tables e below (T15.setTop (mkF m 37 #[.val (.ref o0), .val (.ref o1), .val (.int (0 : Int32)), .unset] [(.int (0 : Int32))])) _
    refine XS.istoreN X15.here hx rfl (hb hby d1_37) rfl (l' := #[.val (.ref o0), .val (.ref o1), .val (.int (0 : Int32)), .val (.int (0 : Int32))]) rfl ?_
    show Steps p.tables e below (T15.setTop (mkF m 38 #[.val (.ref o0), .val (.ref o1), .val (.int (0 : Int32)), .val (.int (0 : Int32))] [])) _
    refine XS.iloadN X15.here hx rfl (hb hby d1_38) rfl ?_
    show Steps p.tables e below (T15.setTop (mkF m 39 #[.val (.ref o0), .val (.ref o1), .val (.int (0 : Int32)), .val (.int (0 : Int32))] [(.int (0 : Int32))])) _
    refine XS.aloadN X15.here hx rfl (hb hby d1_39) rfl rfl ?_
    show Steps p.tables e below (T15.setTop (mkF m 40 #[.val (.ref o0), .val (.ref o1), .val (.int (0 : Int32)), .val (.int (0 : Int32))] [(.ref o1), (.int (0 : Int32))])) _
    refine AV.len c16_5 X15 hx hZ e15 (hb hby d1_40) ?_
    show Steps p.tables e below (T15.setTop (mkF m 41 #[.val (.ref o0), .val (.ref o1), .val (.int (0 : Int32)), .val (.int (0 : Int32))] [(.int (4 : Int32)), (.int (0 : Int32))])) _
    refine XS.icmpNo X15.here hx rfl (hb hby d1_41) rfl (tlt (by decide)).2.1 ?_
    show Steps p.tables e below (T15.setTop (mkF m 44 #[.val (.ref o0), .val (.ref o1), .val (.int (0 : Int32)), .val (.int (0 : Int32))] [])) _
    refine XS.aloadN X15.here hx rfl (hb hby d1_44) rfl rfl ?_
    show Steps p.tables e below (T15.setTop (mkF m 45 #[.val (.ref o0), .val (.ref o1), .val (.int (0 : Int32)), .val (.int (0 : Int32))] [(.ref o0)])) _
    exact kZ
  obtain ⟨T17, X17, e17, st17⟩ := getF X15 hx hZ hown (host := "") (Or.inl (hw _ (List.mem_of_getElem? (i := 47) rfl))) Via.refl e15 Fw15 (g := (mkF m 45 #[.val (.ref o0), .val (.ref o1), .val (.int (0 : Int32)), .val (.int (0 : Int32))] [(.ref o0)])) rfl rfl (hb hby d1_45)
  refine Go.via st17 ?_
  show Go p e below _ (T17.setTop (mkF m 48 #[.val (.ref o0), .val (.ref o1), .val (.int (0 : Int32)), .val (.int (0 : Int32))] [(.ref b13)]))
  refine Go.via (T' := T17.setTop (mkF m 50 #[.val (.ref o0), .val (.ref o1), .val (.int (0 : Int32)), .val (.int (0 : Int32))] [(.int (0 : Int32)), (.int (0 : Int32)), (.ref b13)])) (fun tZ kZ => ?_) ?_
  · show Steps p.tables e below (T17.setTop (mkF m 48 #[.val (.ref o0), .val (.ref o1), .val (.int (0 : Int32)), .val (.int (0 : Int32))] [(.ref b13)])) _
    refine XS.iloadN X17.here hx rfl (hb hby d1_48) rfl ?_
    show Steps p.tables e below (T17.setTop (mkF m 49 #[.val (.ref o0), .val (.ref o1), .val (.int (0 : Int32)), .val (.int (0 : Int32))] [(.int (0 : Int32)), (.ref b13)])) _
    refine XS.iloadN X17.here hx rfl (hb hby d1_49) rfl ?_
    show Steps p.tables e below (T17.setTop (mkF m 50 #[.val (.ref o0), .val (.ref o1), .val (.int (0 : Int32)), .val (.int (0 : Int32))] [(.int (0 : Int32)), (.int (0 : Int32)), (.ref b13)])) _
    exact kZ
  obtain ⟨T18, h18, X18, e18, W18, V18, st18⟩ := AV.iastore c16_17 X17 hx hZ e17 (j := (0 : Int32)) (by decide) (Ls := #[.val (.ref o0), .val (.ref o1), .val (.int (0 : Int32)), .val (.int (0 : Int32))]) (rest := []) (hb hby d1_50) (x := (0 : Int32))
  have N18 := Fr.snoc X18 N15 g_b13
  have c19_0 := c16_0.wr W18
  have c19_1 := c16_1.other W18 (Or.inl ne_o0_b13)
  have c19_2 := c16_2.other W18 (Or.inl ne_o0_b13)
  have c19_3 := Fw15.other W18 (Or.inl ne_o0_b13)
  have c19_5 := c16_5.other W18 ne_o1_b13
  have c19_6 := c16_6.wr W18
  have c19_7 := c16_7.wr W18
  have c19_9 := c16_9.wr W18
  have c19_10 := c16_10.other W18 (Or.inl ne_b2_b13)
  have c19_11 := c16_11.other W18 (Or.inl ne_b2_b13)
  have c19_13 := c16_13.other W18 ne_b8_b13
  have c19_14 := c16_14.wr W18
  have c19_16 := c16_16.wr W18
  have K18 : Keep h0 h18 [o0] := K15.wr W18 (Or.inr sz_b13)
  have Z18 : n0 ≤ h18.size := Nat.le_trans Z15 (Keep.of_wr W18).1
  refine Go.via st18 ?_
  show Go p e below _ (T18.setTop (mkF m 51 #[.val (.ref o0), .val (.ref o1), .val (.int (0 : Int32)), .val (.int (0 : Int32))] []))
  refine Go.via (T' := T18.setTop (mkF m 45 #[.val (.ref o0), .val (.ref o1), .val (.int ((0 : Int32) + ((1 : Int32) + (fF (0 : Int32).toNatClampNeg)))), .val (.int (1 : Int32))] [(.ref o0)])) (fun tZ kZ => ?_) ?_
  · show Steps p.tables e below (T18.setTop (mkF m 51 #[.val (.ref o0), .val (.ref o1), .val (.int (0 : Int32)), .val (.int (0 : Int32))] [])) _
    refine XS.iloadN X18.here hx rfl (hb hby d1_51) rfl ?_
    show Steps p.tables e below (T18.setTop (mkF m 52 #[.val (.ref o0), .val (.ref o1), .val (.int (0 : Int32)), .val (.int (0 : Int32))] [(.int (0 : Int32))])) _
    refine XS.iconst X18.here hx rfl (hb hby d1_52) ?_
    show Steps p.tables e below (T18.setTop (mkF m 53 #[.val (.ref o0), .val (.ref o1), .val (.int (0 : Int32)), .val (.int (0 : Int32))] [(.int (1 : Int32)), (.int (0 : Int32))])) _
    refine XS.aloadN X18.here hx rfl (hb hby d1_53) rfl rfl ?_
    show Steps p.tables e below (T18.setTop (mkF m 54 #[.val (.ref o0), .val (.ref o1), .val (.int (0 : Int32)), .val (.int (0 : Int32))] [(.ref o1), (.int (1 : Int32)), (.int (0 : Int32))])) _
    refine XS.iloadN X18.here hx rfl (hb hby d1_54) rfl ?_
    show Steps p.tables e below (T18.setTop (mkF m 55 #[.val (.ref o0), .val (.ref o1), .val (.int (0 : Int32)), .val (.int (0 : Int32))] [(.int (0 : Int32)), (.ref o1), (.int (1 : Int32)), (.int (0 : Int32))])) _
    refine AV.iaload c19_5 X18 hx hZ e18 (j := (0 : Int32)) (by decide) (hb hby d1_55) ?_
    show Steps p.tables e below (T18.setTop (mkF m 56 #[.val (.ref o0), .val (.ref o1), .val (.int (0 : Int32)), .val (.int (0 : Int32))] [(.int (fF (0 : Int32).toNatClampNeg)), (.int (1 : Int32)), (.int (0 : Int32))])) _
    refine XS.iadd X18.here hx rfl (hb hby d1_56) rfl ?_
    show Steps p.tables e below (T18.setTop (mkF m 57 #[.val (.ref o0), .val (.ref o1), .val (.int (0 : Int32)), .val (.int (0 : Int32))] [(.int ((1 : Int32) + (fF (0 : Int32).toNatClampNeg))), (.int (0 : Int32))])) _
    refine XS.iadd X18.here hx rfl (hb hby d1_57) rfl ?_
    show Steps p.tables e below (T18.setTop (mkF m 58 #[.val (.ref o0), .val (.ref o1), .val (.int (0 : Int32)), .val (.int (0 : Int32))] [(.int ((0 : Int32) + ((1 : Int32) + (fF (0 : Int32).toNatClampNeg))))])) _
    refine XS.istoreN X18.here hx rfl (hb hby d1_58) rfl (l' := #[.val (.ref o0), .val (.ref o1), .val (.int ((0 : Int32) + ((1 : Int32) + (fF (0 : Int32).toNatClampNeg)))), .val (.int (0 : Int32))]) rfl ?_
    show Steps p.tables e below (T18.setTop (mkF m 59 #[.val (.ref o0), .val (.ref o1), .val (.int ((0 : Int32) + ((1 : Int32) + (fF (0 : Int32).toNatClampNeg)))), .val (.int (0 : Int32))] [])) _
    refine XS.iinc X18.here hx rfl (hb hby d1_59) rfl (l' := #[.val (.ref o0), .val (.ref o1), .val (.int ((0 : Int32) + ((1 : Int32) + (fF (0 : Int32).toNatClampNeg)))), .val (.int (1 : Int32))]) rfl ?_
    show Steps p.tables e below (T18.setTop (mkF m 62 #[.val (.ref o0), .val (.ref o1), .val (.int ((0 : Int32) + ((1 : Int32) + (fF (0 : Int32).toNatClampNeg)))), .val (.int (1 : Int32))] [])) _
    refine XS.goto X18.here hx rfl (pc0 := 62) (pc' := 38) rfl (hb hby d1_62) (by decide) (by decide) ?_
    show Steps p.tables e below (T18.setTop (mkF m 38 #[.val (.ref o0), .val (.ref o1), .val (.int ((0 : Int32) + ((1 : Int32) + (fF (0 : Int32).toNatClampNeg)))), .val (.int (1 : Int32))] [])) _
    refine XS.iloadN X18.here hx rfl (hb hby d1_38) rfl ?_
    show Steps p.tables e below (T18.setTop (mkF m 39 #[.val (.ref o0), .val (.ref o1), .val (.int ((0 : Int32) + ((1 : Int32) + (fF (0 : Int32).toNatClampNeg)))), .val (.int (1 : Int32))] [(.int (1 : Int32))])) _
    refine XS.aloadN X18.here hx rfl (hb hby d1_39) rfl rfl ?_
    show Steps p.tables e below (T18.setTop (mkF m 40 #[.val (.ref o0), .val (.ref o1), .val (.int ((0 : Int32) + ((1 : Int32) + (fF (0 : Int32).toNatClampNeg)))), .val (.int (1 : Int32))] [(.ref o1), (.int (1 : Int32))])) _
    refine AV.len c19_5 X18 hx hZ e18 (hb hby d1_40) ?_
    show Steps p.tables e below (T18.setTop (mkF m 41 #[.val (.ref o0), .val (.ref o1), .val (.int ((0 : Int32) + ((1 : Int32) + (fF (0 : Int32).toNatClampNeg)))), .val (.int (1 : Int32))] [(.int (4 : Int32)), (.int (1 : Int32))])) _
    refine XS.icmpNo X18.here hx rfl (hb hby d1_41) rfl (tlt (by decide)).2.1 ?_
    show Steps p.tables e below (T18.setTop (mkF m 44 #[.val (.ref o0), .val (.ref o1), .val (.int ((0 : Int32) + ((1 : Int32) + (fF (0 : Int32).toNatClampNeg)))), .val (.int (1 : Int32))] [])) _
    refine XS.aloadN X18.here hx rfl (hb hby d1_44) rfl rfl ?_
    show Steps p.tables e below (T18.setTop (mkF m 45 #[.val (.ref o0), .val (.ref o1), .val (.int ((0 : Int32) + ((1 : Int32) + (fF (0 : Int32).toNatClampNeg)))), .val (.int (1 : Int32))] [(.ref o0)])) _
    exact kZ
  obtain ⟨T20, X20, e20, st20⟩ := getF X18 hx hZ hown (host := "") (Or.inl (hw _ (List.mem_of_getElem? (i := 47) rfl))) Via.refl e18 c19_3 (g := (mkF m 45 #[.val (.ref o0), .val (.ref o1), .val (.int ((0 : Int32) + ((1 : Int32) + (fF (0 : Int32).toNatClampNeg)))), .val (.int (1 : Int32))] [(.ref o0)])) rfl rfl (hb hby d1_45)
  refine Go.via st20 ?_
  show Go p e below _ (T20.setTop (mkF m 48 #[.val (.ref o0), .val (.ref o1), .val (.int ((0 : Int32) + ((1 : Int32) + (fF (0 : Int32).toNatClampNeg)))), .val (.int (1 : Int32))] [(.ref b13)]))
  refine Go.via (T' := T20.setTop (mkF m 50 #[.val (.ref o0), .val (.ref o1), .val (.int ((0 : Int32) + ((1 : Int32) + (fF (0 : Int32).toNatClampNeg)))), .val (.int (1 : Int32))] [(.int ((0 : Int32) + ((1 : Int32) + (fF (0 : Int32).toNatClampNeg)))), (.int (1 : Int32)), (.ref b13)])) (fun tZ kZ => ?_) ?_
  · show Steps p.tables e below (T20.setTop (mkF m 48 #[.val (.ref o0), .val (.ref o1), .val (.int ((0 : Int32) + ((1 : Int32) + (fF (0 : Int32).toNatClampNeg)))), .val (.int (1 : Int32))] [(.ref b13)])) _
    refine XS.iloadN X20.here hx rfl (hb hby d1_48) rfl ?_
    show Steps p.tables e below (T20.setTop (mkF m 49 #[.val (.ref o0), .val (.ref o1), .val (.int ((0 : Int32) + ((1 : Int32) + (fF (0 : Int32).toNatClampNeg)))), .val (.int (1 : Int32))] [(.int (1 : Int32)), (.ref b13)])) _
    refine XS.iloadN X20.here hx rfl (hb hby d1_49) rfl ?_
    show Steps p.tables e below (T20.setTop (mkF m 50 #[.val (.ref o0), .val (.ref o1), .val (.int ((0 : Int32) + ((1 : Int32) + (fF (0 : Int32).toNatClampNeg)))), .val (.int (1 : Int32))] [(.int ((0 : Int32) + ((1 : Int32) + (fF (0 : Int32).toNatClampNeg)))), (.int (1 : Int32)), (.ref b13)])) _
    exact kZ
  obtain ⟨T21, h21, X21, e21, W21, V21, st21⟩ := AV.iastore V18 X20 hx hZ e20 (j := (1 : Int32)) (by decide) (Ls := #[.val (.ref o0), .val (.ref o1), .val (.int ((0 : Int32) + ((1 : Int32) + (fF (0 : Int32).toNatClampNeg)))), .val (.int (1 : Int32))]) (rest := []) (hb hby d1_50) (x := ((0 : Int32) + ((1 : Int32) + (fF (0 : Int32).toNatClampNeg))))
  have N21 := Fr.snoc X21 N18 g_b13
  have c22_0 := c19_0.wr W21
  have c22_1 := c19_1.other W21 (Or.inl ne_o0_b13)
  have c22_2 := c19_2.other W21 (Or.inl ne_o0_b13)
  have c22_3 := c19_3.other W21 (Or.inl ne_o0_b13)
  have c22_5 := c19_5.other W21 ne_o1_b13
  have c22_6 := c19_6.wr W21
  have c22_7 := c19_7.wr W21
  have c22_9 := c19_9.wr W21
  have c22_10 := c19_10.other W21 (Or.inl ne_b2_b13)
  have c22_11 := c19_11.other W21 (Or.inl ne_b2_b13)
  have c22_13 := c19_13.other W21 ne_b8_b13
  have c22_14 := c19_14.wr W21
  have c22_16 := c19_16.wr W21
  have K21 : Keep h0 h21 [o0] := K18.wr W21 (Or.inr sz_b13)
  have Z21 : n0 ≤ h21.size := Nat.le_trans Z18 (Keep.of_wr W21).1
  refine Go.via st21 ?_
  show Go p e below _ (T21.setTop (mkF m 51 #[.val (.ref o0), .val (.ref o1), .val (.int ((0 : Int32) + ((1 : Int32) + (fF (0 : Int32).toNatClampNeg)))), .val (.int (1 : Int32))] []))
  refine Go.via (T' := T21.setTop (mkF m 45 #[.val (.ref o0), .val (.ref o1), .val (.int (w1n4_0 fF)), .val (.int (2 : Int32))] [(.ref o0)])) (fun tZ kZ => ?_) ?_
  · show Steps p.tables e below (T21.setTop (mkF m 51 #[.val (.ref o0), .val (.ref o1), .val (.int ((0 : Int32) + ((1 : Int32) + (fF (0 : Int32).toNatClampNeg)))), .val (.int (1 : Int32))] [])) _
    refine XS.iloadN X21.here hx rfl (hb hby d1_51) rfl ?_
    show Steps p.tables e below (T21.setTop (mkF m 52 #[.val (.ref o0), .val (.ref o1), .val (.int ((0 : Int32) + ((1 : Int32) + (fF (0 : Int32).toNatClampNeg)))), .val (.int (1 : Int32))] [(.int ((0 : Int32) + ((1 : Int32) + (fF (0 : Int32).toNatClampNeg))))])) _
    refine XS.iconst X21.here hx rfl (hb hby d1_52) ?_
    show Steps p.tables e below (T21.setTop (mkF m 53 #[.val (.ref o0), .val (.ref o1), .val (.int ((0 : Int32) + ((1 : Int32) + (fF (0 : Int32).toNatClampNeg)))), .val (.int (1 : Int32))] [(.int (1 : Int32)), (.int ((0 : Int32) + ((1 : Int32) + (fF (0 : Int32).toNatClampNeg))))])) _
    refine XS.aloadN X21.here hx rfl (hb hby d1_53) rfl rfl ?_
    show Steps p.tables e below (T21.setTop (mkF m 54 #[.val (.ref o0), .val (.ref o1), .val (.int ((0 : Int32) + ((1 : Int32) + (fF (0 : Int32).toNatClampNeg)))), .val (.int (1 : Int32))] [(.ref o1), (.int (1 : Int32)), (.int ((0 : Int32) + ((1 : Int32) + (fF (0 : Int32).toNatClampNeg))))])) _
    refine XS.iloadN X21.here hx rfl (hb hby d1_54) rfl ?_
    show Steps p.tables e below (T21.setTop (mkF m 55 #[.val (.ref o0), .val (.ref o1), .val (.int ((0 : Int32) + ((1 : Int32) + (fF (0 : Int32).toNatClampNeg)))), .val (.int (1 : Int32))] [(.int (1 : Int32)), (.ref o1), (.int (1 : Int32)), (.int ((0 : Int32) + ((1 : Int32) + (fF (0 : Int32).toNatClampNeg))))])) _
    refine AV.iaload c22_5 X21 hx hZ e21 (j := (1 : Int32)) (by decide) (hb hby d1_55) ?_
    show Steps p.tables e below (T21.setTop (mkF m 56 #[.val (.ref o0), .val (.ref o1), .val (.int ((0 : Int32) + ((1 : Int32) + (fF (0 : Int32).toNatClampNeg)))), .val (.int (1 : Int32))] [(.int (fF (1 : Int32).toNatClampNeg)), (.int (1 : Int32)), (.int ((0 : Int32) + ((1 : Int32) + (fF (0 : Int32).toNatClampNeg))))])) _
    refine XS.iadd X21.here hx rfl (hb hby d1_56) rfl ?_
    show Steps p.tables e below (T21.setTop (mkF m 57 #[.val (.ref o0), .val (.ref o1), .val (.int ((0 : Int32) + ((1 : Int32) + (fF (0 : Int32).toNatClampNeg)))), .val (.int (1 : Int32))] [(.int ((1 : Int32) + (fF (1 : Int32).toNatClampNeg))), (.int ((0 : Int32) + ((1 : Int32) + (fF (0 : Int32).toNatClampNeg))))])) _
    refine XS.iadd X21.here hx rfl (hb hby d1_57) rfl ?_
    show Steps p.tables e below (T21.setTop (mkF m 58 #[.val (.ref o0), .val (.ref o1), .val (.int ((0 : Int32) + ((1 : Int32) + (fF (0 : Int32).toNatClampNeg)))), .val (.int (1 : Int32))] [(.int (((0 : Int32) + ((1 : Int32) + (fF (0 : Int32).toNatClampNeg))) + ((1 : Int32) + (fF (1 : Int32).toNatClampNeg))))])) _
    refine XS.istoreN X21.here hx rfl (hb hby d1_58) rfl (l' := #[.val (.ref o0), .val (.ref o1), .val (.int (w1n4_0 fF)), .val (.int (1 : Int32))]) rfl ?_
    show Steps p.tables e below (T21.setTop (mkF m 59 #[.val (.ref o0), .val (.ref o1), .val (.int (w1n4_0 fF)), .val (.int (1 : Int32))] [])) _
    refine XS.iinc X21.here hx rfl (hb hby d1_59) rfl (l' := #[.val (.ref o0), .val (.ref o1), .val (.int (w1n4_0 fF)), .val (.int (2 : Int32))]) rfl ?_
    show Steps p.tables e below (T21.setTop (mkF m 62 #[.val (.ref o0), .val (.ref o1), .val (.int (w1n4_0 fF)), .val (.int (2 : Int32))] [])) _
    refine XS.goto X21.here hx rfl (pc0 := 62) (pc' := 38) rfl (hb hby d1_62) (by decide) (by decide) ?_
    show Steps p.tables e below (T21.setTop (mkF m 38 #[.val (.ref o0), .val (.ref o1), .val (.int (w1n4_0 fF)), .val (.int (2 : Int32))] [])) _
    refine XS.iloadN X21.here hx rfl (hb hby d1_38) rfl ?_
    show Steps p.tables e below (T21.setTop (mkF m 39 #[.val (.ref o0), .val (.ref o1), .val (.int (w1n4_0 fF)), .val (.int (2 : Int32))] [(.int (2 : Int32))])) _
    refine XS.aloadN X21.here hx rfl (hb hby d1_39) rfl rfl ?_
    show Steps p.tables e below (T21.setTop (mkF m 40 #[.val (.ref o0), .val (.ref o1), .val (.int (w1n4_0 fF)), .val (.int (2 : Int32))] [(.ref o1), (.int (2 : Int32))])) _
    refine AV.len c22_5 X21 hx hZ e21 (hb hby d1_40) ?_
    show Steps p.tables e below (T21.setTop (mkF m 41 #[.val (.ref o0), .val (.ref o1), .val (.int (w1n4_0 fF)), .val (.int (2 : Int32))] [(.int (4 : Int32)), (.int (2 : Int32))])) _
    refine XS.icmpNo X21.here hx rfl (hb hby d1_41) rfl (tlt (by decide)).2.1 ?_
    show Steps p.tables e below (T21.setTop (mkF m 44 #[.val (.ref o0), .val (.ref o1), .val (.int (w1n4_0 fF)), .val (.int (2 : Int32))] [])) _
    refine XS.aloadN X21.here hx rfl (hb hby d1_44) rfl rfl ?_
    show Steps p.tables e below (T21.setTop (mkF m 45 #[.val (.ref o0), .val (.ref o1), .val (.int (w1n4_0 fF)), .val (.int (2 : Int32))] [(.ref o0)])) _
    exact kZ
  obtain ⟨T23, X23, e23, st23⟩ := getF X21 hx hZ hown (host := "") (Or.inl (hw _ (List.mem_of_getElem? (i := 47) rfl))) Via.refl e21 c22_3 (g := (mkF m 45 #[.val (.ref o0), .val (.ref o1), .val (.int (w1n4_0 fF)), .val (.int (2 : Int32))] [(.ref o0)])) rfl rfl (hb hby d1_45)
  refine Go.via st23 ?_
  show Go p e below _ (T23.setTop (mkF m 48 #[.val (.ref o0), .val (.ref o1), .val (.int (w1n4_0 fF)), .val (.int (2 : Int32))] [(.ref b13)]))
  refine Go.via (T' := T23.setTop (mkF m 50 #[.val (.ref o0), .val (.ref o1), .val (.int (w1n4_0 fF)), .val (.int (2 : Int32))] [(.int (w1n4_0 fF)), (.int (2 : Int32)), (.ref b13)])) (fun tZ kZ => ?_) ?_
  · show Steps p.tables e below (T23.setTop (mkF m 48 #[.val (.ref o0), .val (.ref o1), .val (.int (w1n4_0 fF)), .val (.int (2 : Int32))] [(.ref b13)])) _
    refine XS.iloadN X23.here hx rfl (hb hby d1_48) rfl ?_
    show Steps p.tables e below (T23.setTop (mkF m 49 #[.val (.ref o0), .val (.ref o1), .val (.int (w1n4_0 fF)), .val (.int (2 : Int32))] [(.int (2 : Int32)), (.ref b13)])) _
    refine XS.iloadN X23.here hx rfl (hb hby d1_49) rfl ?_
    show Steps p.tables e below (T23.setTop (mkF m 50 #[.val (.ref o0), .val (.ref o1), .val (.int (w1n4_0 fF)), .val (.int (2 : Int32))] [(.int (w1n4_0 fF)), (.int (2 : Int32)), (.ref b13)])) _
    exact kZ
  obtain ⟨T24, h24, X24, e24, W24, V24, st24⟩ := AV.iastore V21 X23 hx hZ e23 (j := (2 : Int32)) (by decide) (Ls := #[.val (.ref o0), .val (.ref o1), .val (.int (w1n4_0 fF)), .val (.int (2 : Int32))]) (rest := []) (hb hby d1_50) (x := (w1n4_0 fF))
  have N24 := Fr.snoc X24 N21 g_b13
  have c25_0 := c22_0.wr W24
  have c25_1 := c22_1.other W24 (Or.inl ne_o0_b13)
  have c25_2 := c22_2.other W24 (Or.inl ne_o0_b13)
  have c25_3 := c22_3.other W24 (Or.inl ne_o0_b13)
  have c25_5 := c22_5.other W24 ne_o1_b13
  have c25_6 := c22_6.wr W24
  have c25_7 := c22_7.wr W24
  have c25_9 := c22_9.wr W24
  have c25_10 := c22_10.other W24 (Or.inl ne_b2_b13)
  have c25_11 := c22_11.other W24 (Or.inl ne_b2_b13)
  have c25_13 := c22_13.other W24 ne_b8_b13
  have c25_14 := c22_14.wr W24
  have c25_16 := c22_16.wr W24
  have K24 : Keep h0 h24 [o0] := K21.wr W24 (Or.inr sz_b13)
  have Z24 : n0 ≤ h24.size := Nat.le_trans Z21 (Keep.of_wr W24).1
  refine Go.via st24 ?_
  show Go p e below _ (T24.setTop (mkF m 51 #[.val (.ref o0), .val (.ref o1), .val (.int (w1n4_0 fF)), .val (.int (2 : Int32))] []))
  refine Go.via (T' := T24.setTop (mkF m 45 #[.val (.ref o0), .val (.ref o1), .val (.int ((w1n4_0 fF) + ((1 : Int32) + (fF (2 : Int32).toNatClampNeg)))), .val (.int (3 : Int32))] [(.ref o0)])) (fun tZ kZ => ?_) ?_
  · show Steps p.tables e below (T24.setTop (mkF m 51 #[.val (.ref o0), .val (.ref o1), .val (.int (w1n4_0 fF)), .val (.int (2 : Int32))] [])) _
    refine XS.iloadN X24.here hx rfl (hb hby d1_51) rfl ?_
    show Steps p.tables e below (T24.setTop (mkF m 52 #[.val (.ref o0), .val (.ref o1), .val (.int (w1n4_0 fF)), .val (.int (2 : Int32))] [(.int (w1n4_0 fF))])) _
    refine XS.iconst X24.here hx rfl (hb hby d1_52) ?_
    show Steps p.tables e below (T24.setTop (mkF m 53 #[.val (.ref o0), .val (.ref o1), .val (.int (w1n4_0 fF)), .val (.int (2 : Int32))] [(.int (1 : Int32)), (.int (w1n4_0 fF))])) _
    refine XS.aloadN X24.here hx rfl (hb hby d1_53) rfl rfl ?_
    show Steps p.tables e below (T24.setTop (mkF m 54 #[.val (.ref o0), .val (.ref o1), .val (.int (w1n4_0 fF)), .val (.int (2 : Int32))] [(.ref o1), (.int (1 : Int32)), (.int (w1n4_0 fF))])) _
    refine XS.iloadN X24.here hx rfl (hb hby d1_54) rfl ?_
    show Steps p.tables e below (T24.setTop (mkF m 55 #[.val (.ref o0), .val (.ref o1), .val (.int (w1n4_0 fF)), .val (.int (2 : Int32))] [(.int (2 : Int32)), (.ref o1), (.int (1 : Int32)), (.int (w1n4_0 fF))])) _
    refine AV.iaload c25_5 X24 hx hZ e24 (j := (2 : Int32)) (by decide) (hb hby d1_55) ?_
    show Steps p.tables e below (T24.setTop (mkF m 56 #[.val (.ref o0), .val (.ref o1), .val (.int (w1n4_0 fF)), .val (.int (2 : Int32))] [(.int (fF (2 : Int32).toNatClampNeg)), (.int (1 : Int32)), (.int (w1n4_0 fF))])) _
    refine XS.iadd X24.here hx rfl (hb hby d1_56) rfl ?_
    show Steps p.tables e below (T24.setTop (mkF m 57 #[.val (.ref o0), .val (.ref o1), .val (.int (w1n4_0 fF)), .val (.int (2 : Int32))] [(.int ((1 : Int32) + (fF (2 : Int32).toNatClampNeg))), (.int (w1n4_0 fF))])) _
    refine XS.iadd X24.here hx rfl (hb hby d1_57) rfl ?_
    show Steps p.tables e below (T24.setTop (mkF m 58 #[.val (.ref o0), .val (.ref o1), .val (.int (w1n4_0 fF)), .val (.int (2 : Int32))] [(.int ((w1n4_0 fF) + ((1 : Int32) + (fF (2 : Int32).toNatClampNeg))))])) _
    refine XS.istoreN X24.here hx rfl (hb hby d1_58) rfl (l' := #[.val (.ref o0), .val (.ref o1), .val (.int ((w1n4_0 fF) + ((1 : Int32) + (fF (2 : Int32).toNatClampNeg)))), .val (.int (2 : Int32))]) rfl ?_
    show Steps p.tables e below (T24.setTop (mkF m 59 #[.val (.ref o0), .val (.ref o1), .val (.int ((w1n4_0 fF) + ((1 : Int32) + (fF (2 : Int32).toNatClampNeg)))), .val (.int (2 : Int32))] [])) _
    refine XS.iinc X24.here hx rfl (hb hby d1_59) rfl (l' := #[.val (.ref o0), .val (.ref o1), .val (.int ((w1n4_0 fF) + ((1 : Int32) + (fF (2 : Int32).toNatClampNeg)))), .val (.int (3 : Int32))]) rfl ?_
    show Steps p.tables e below (T24.setTop (mkF m 62 #[.val (.ref o0), .val (.ref o1), .val (.int ((w1n4_0 fF) + ((1 : Int32) + (fF (2 : Int32).toNatClampNeg)))), .val (.int (3 : Int32))] [])) _
    refine XS.goto X24.here hx rfl (pc0 := 62) (pc' := 38) rfl (hb hby d1_62) (by decide) (by decide) ?_
    show Steps p.tables e below (T24.setTop (mkF m 38 #[.val (.ref o0), .val (.ref o1), .val (.int ((w1n4_0 fF) + ((1 : Int32) + (fF (2 : Int32).toNatClampNeg)))), .val (.int (3 : Int32))] [])) _
    refine XS.iloadN X24.here hx rfl (hb hby d1_38) rfl ?_
    show Steps p.tables e below (T24.setTop (mkF m 39 #[.val (.ref o0), .val (.ref o1), .val (.int ((w1n4_0 fF) + ((1 : Int32) + (fF (2 : Int32).toNatClampNeg)))), .val (.int (3 : Int32))] [(.int (3 : Int32))])) _
    refine XS.aloadN X24.here hx rfl (hb hby d1_39) rfl rfl ?_
    show Steps p.tables e below (T24.setTop (mkF m 40 #[.val (.ref o0), .val (.ref o1), .val (.int ((w1n4_0 fF) + ((1 : Int32) + (fF (2 : Int32).toNatClampNeg)))), .val (.int (3 : Int32))] [(.ref o1), (.int (3 : Int32))])) _
    refine AV.len c25_5 X24 hx hZ e24 (hb hby d1_40) ?_
    show Steps p.tables e below (T24.setTop (mkF m 41 #[.val (.ref o0), .val (.ref o1), .val (.int ((w1n4_0 fF) + ((1 : Int32) + (fF (2 : Int32).toNatClampNeg)))), .val (.int (3 : Int32))] [(.int (4 : Int32)), (.int (3 : Int32))])) _
    refine XS.icmpNo X24.here hx rfl (hb hby d1_41) rfl (tlt (by decide)).2.1 ?_
    show Steps p.tables e below (T24.setTop (mkF m 44 #[.val (.ref o0), .val (.ref o1), .val (.int ((w1n4_0 fF) + ((1 : Int32) + (fF (2 : Int32).toNatClampNeg)))), .val (.int (3 : Int32))] [])) _
    refine XS.aloadN X24.here hx rfl (hb hby d1_44) rfl rfl ?_
    show Steps p.tables e below (T24.setTop (mkF m 45 #[.val (.ref o0), .val (.ref o1), .val (.int ((w1n4_0 fF) + ((1 : Int32) + (fF (2 : Int32).toNatClampNeg)))), .val (.int (3 : Int32))] [(.ref o0)])) _
    exact kZ
  obtain ⟨T26, X26, e26, st26⟩ := getF X24 hx hZ hown (host := "") (Or.inl (hw _ (List.mem_of_getElem? (i := 47) rfl))) Via.refl e24 c25_3 (g := (mkF m 45 #[.val (.ref o0), .val (.ref o1), .val (.int ((w1n4_0 fF) + ((1 : Int32) + (fF (2 : Int32).toNatClampNeg)))), .val (.int (3 : Int32))] [(.ref o0)])) rfl rfl (hb hby d1_45)
  refine Go.via st26 ?_
  show Go p e below _ (T26.setTop (mkF m 48 #[.val (.ref o0), .val (.ref o1), .val (.int ((w1n4_0 fF) + ((1 : Int32) + (fF (2 : Int32).toNatClampNeg)))), .val (.int (3 : Int32))] [(.ref b13)]))
  refine Go.via (T' := T26.setTop (mkF m 50 #[.val (.ref o0), .val (.ref o1), .val (.int ((w1n4_0 fF) + ((1 : Int32) + (fF (2 : Int32).toNatClampNeg)))), .val (.int (3 : Int32))] [(.int ((w1n4_0 fF) + ((1 : Int32) + (fF (2 : Int32).toNatClampNeg)))), (.int (3 : Int32)), (.ref b13)])) (fun tZ kZ => ?_) ?_
  · show Steps p.tables e below (T26.setTop (mkF m 48 #[.val (.ref o0), .val (.ref o1), .val (.int ((w1n4_0 fF) + ((1 : Int32) + (fF (2 : Int32).toNatClampNeg)))), .val (.int (3 : Int32))] [(.ref b13)])) _
    refine XS.iloadN X26.here hx rfl (hb hby d1_48) rfl ?_
    show Steps p.tables e below (T26.setTop (mkF m 49 #[.val (.ref o0), .val (.ref o1), .val (.int ((w1n4_0 fF) + ((1 : Int32) + (fF (2 : Int32).toNatClampNeg)))), .val (.int (3 : Int32))] [(.int (3 : Int32)), (.ref b13)])) _
    refine XS.iloadN X26.here hx rfl (hb hby d1_49) rfl ?_
    show Steps p.tables e below (T26.setTop (mkF m 50 #[.val (.ref o0), .val (.ref o1), .val (.int ((w1n4_0 fF) + ((1 : Int32) + (fF (2 : Int32).toNatClampNeg)))), .val (.int (3 : Int32))] [(.int ((w1n4_0 fF) + ((1 : Int32) + (fF (2 : Int32).toNatClampNeg)))), (.int (3 : Int32)), (.ref b13)])) _
    exact kZ
  obtain ⟨T27, h27, X27, e27, W27, V27, st27⟩ := AV.iastore V24 X26 hx hZ e26 (j := (3 : Int32)) (by decide) (Ls := #[.val (.ref o0), .val (.ref o1), .val (.int ((w1n4_0 fF) + ((1 : Int32) + (fF (2 : Int32).toNatClampNeg)))), .val (.int (3 : Int32))]) (rest := []) (hb hby d1_50) (x := ((w1n4_0 fF) + ((1 : Int32) + (fF (2 : Int32).toNatClampNeg))))
  have N27 := Fr.snoc X27 N24 g_b13
  have c28_0 := c25_0.wr W27
  have c28_1 := c25_1.other W27 (Or.inl ne_o0_b13)
  have c28_2 := c25_2.other W27 (Or.inl ne_o0_b13)
  have c28_3 := c25_3.other W27 (Or.inl ne_o0_b13)
  have c28_5 := c25_5.other W27 ne_o1_b13
  have c28_6 := c25_6.wr W27
  have c28_7 := c25_7.wr W27
  have c28_9 := c25_9.wr W27
  have c28_10 := c25_10.other W27 (Or.inl ne_b2_b13)
  have c28_11 := c25_11.other W27 (Or.inl ne_b2_b13)
  have c28_13 := c25_13.other W27 ne_b8_b13
  have c28_14 := c25_14.wr W27
  have c28_16 := c25_16.wr W27
  have K27 : Keep h0 h27 [o0] := K24.wr W27 (Or.inr sz_b13)
  have Z27 : n0 ≤ h27.size := Nat.le_trans Z24 (Keep.of_wr W27).1
  refine Go.via st27 ?_
  show Go p e below _ (T27.setTop (mkF m 51 #[.val (.ref o0), .val (.ref o1), .val (.int ((w1n4_0 fF) + ((1 : Int32) + (fF (2 : Int32).toNatClampNeg)))), .val (.int (3 : Int32))] []))
  refine Go.via (T' := T27.setTop (mkF m 65 #[.val (.ref o0), .val (.ref o1), .val (.int (w1n4_1 fF)), .val (.int (4 : Int32))] [])) (fun tZ kZ => ?_) ?_
  · show Steps p.tables e below (T27.setTop (mkF m 51 #[.val (.ref o0), .val (.ref o1), .val (.int ((w1n4_0 fF) + ((1 : Int32) + (fF (2 : Int32).toNatClampNeg)))), .val (.int (3 : Int32))] [])) _
    refine XS.iloadN X27.here hx rfl (hb hby d1_51) rfl ?_
    show Steps p.tables e below (T27.setTop (mkF m 52 #[.val (.ref o0), .val (.ref o1), .val (.int ((w1n4_0 fF) + ((1 : Int32) + (fF (2 : Int32).toNatClampNeg)))), .val (.int (3 : Int32))] [(.int ((w1n4_0 fF) + ((1 : Int32) + (fF (2 : Int32).toNatClampNeg))))])) _
    refine XS.iconst X27.here hx rfl (hb hby d1_52) ?_
    show Steps p.tables e below (T27.setTop (mkF m 53 #[.val (.ref o0), .val (.ref o1), .val (.int ((w1n4_0 fF) + ((1 : Int32) + (fF (2 : Int32).toNatClampNeg)))), .val (.int (3 : Int32))] [(.int (1 : Int32)), (.int ((w1n4_0 fF) + ((1 : Int32) + (fF (2 : Int32).toNatClampNeg))))])) _
    refine XS.aloadN X27.here hx rfl (hb hby d1_53) rfl rfl ?_
    show Steps p.tables e below (T27.setTop (mkF m 54 #[.val (.ref o0), .val (.ref o1), .val (.int ((w1n4_0 fF) + ((1 : Int32) + (fF (2 : Int32).toNatClampNeg)))), .val (.int (3 : Int32))] [(.ref o1), (.int (1 : Int32)), (.int ((w1n4_0 fF) + ((1 : Int32) + (fF (2 : Int32).toNatClampNeg))))])) _
    refine XS.iloadN X27.here hx rfl (hb hby d1_54) rfl ?_
    show Steps p.tables e below (T27.setTop (mkF m 55 #[.val (.ref o0), .val (.ref o1), .val (.int ((w1n4_0 fF) + ((1 : Int32) + (fF (2 : Int32).toNatClampNeg)))), .val (.int (3 : Int32))] [(.int (3 : Int32)), (.ref o1), (.int (1 : Int32)), (.int ((w1n4_0 fF) + ((1 : Int32) + (fF (2 : Int32).toNatClampNeg))))])) _
    refine AV.iaload c28_5 X27 hx hZ e27 (j := (3 : Int32)) (by decide) (hb hby d1_55) ?_
    show Steps p.tables e below (T27.setTop (mkF m 56 #[.val (.ref o0), .val (.ref o1), .val (.int ((w1n4_0 fF) + ((1 : Int32) + (fF (2 : Int32).toNatClampNeg)))), .val (.int (3 : Int32))] [(.int (fF (3 : Int32).toNatClampNeg)), (.int (1 : Int32)), (.int ((w1n4_0 fF) + ((1 : Int32) + (fF (2 : Int32).toNatClampNeg))))])) _
    refine XS.iadd X27.here hx rfl (hb hby d1_56) rfl ?_
    show Steps p.tables e below (T27.setTop (mkF m 57 #[.val (.ref o0), .val (.ref o1), .val (.int ((w1n4_0 fF) + ((1 : Int32) + (fF (2 : Int32).toNatClampNeg)))), .val (.int (3 : Int32))] [(.int ((1 : Int32) + (fF (3 : Int32).toNatClampNeg))), (.int ((w1n4_0 fF) + ((1 : Int32) + (fF (2 : Int32).toNatClampNeg))))])) _
    refine XS.iadd X27.here hx rfl (hb hby d1_57) rfl ?_
    show Steps p.tables e below (T27.setTop (mkF m 58 #[.val (.ref o0), .val (.ref o1), .val (.int ((w1n4_0 fF) + ((1 : Int32) + (fF (2 : Int32).toNatClampNeg)))), .val (.int (3 : Int32))] [(.int (((w1n4_0 fF) + ((1 : Int32) + (fF (2 : Int32).toNatClampNeg))) + ((1 : Int32) + (fF (3 : Int32).toNatClampNeg))))])) _
    refine XS.istoreN X27.here hx rfl (hb hby d1_58) rfl (l' := #[.val (.ref o0), .val (.ref o1), .val (.int (w1n4_1 fF)), .val (.int (3 : Int32))]) rfl ?_
    show Steps p.tables e below (T27.setTop (mkF m 59 #[.val (.ref o0), .val (.ref o1), .val (.int (w1n4_1 fF)), .val (.int (3 : Int32))] [])) _
    refine XS.iinc X27.here hx rfl (hb hby d1_59) rfl (l' := #[.val (.ref o0), .val (.ref o1), .val (.int (w1n4_1 fF)), .val (.int (4 : Int32))]) rfl ?_
    show Steps p.tables e below (T27.setTop (mkF m 62 #[.val (.ref o0), .val (.ref o1), .val (.int (w1n4_1 fF)), .val (.int (4 : Int32))] [])) _
    refine XS.goto X27.here hx rfl (pc0 := 62) (pc' := 38) rfl (hb hby d1_62) (by decide) (by decide) ?_
    show Steps p.tables e below (T27.setTop (mkF m 38 #[.val (.ref o0), .val (.ref o1), .val (.int (w1n4_1 fF)), .val (.int (4 : Int32))] [])) _
    refine XS.iloadN X27.here hx rfl (hb hby d1_38) rfl ?_
    show Steps p.tables e below (T27.setTop (mkF m 39 #[.val (.ref o0), .val (.ref o1), .val (.int (w1n4_1 fF)), .val (.int (4 : Int32))] [(.int (4 : Int32))])) _
    refine XS.aloadN X27.here hx rfl (hb hby d1_39) rfl rfl ?_
    show Steps p.tables e below (T27.setTop (mkF m 40 #[.val (.ref o0), .val (.ref o1), .val (.int (w1n4_1 fF)), .val (.int (4 : Int32))] [(.ref o1), (.int (4 : Int32))])) _
    refine AV.len c28_5 X27 hx hZ e27 (hb hby d1_40) ?_
    show Steps p.tables e below (T27.setTop (mkF m 41 #[.val (.ref o0), .val (.ref o1), .val (.int (w1n4_1 fF)), .val (.int (4 : Int32))] [(.int (4 : Int32)), (.int (4 : Int32))])) _
    refine XS.icmpYes X27.here hx rfl (pc0 := 41) (pc' := 65) rfl (hb hby d1_41) rfl (flt (by decide)).2.1 (by decide) (by decide) ?_
    show Steps p.tables e below (T27.setTop (mkF m 65 #[.val (.ref o0), .val (.ref o1), .val (.int (w1n4_1 fF)), .val (.int (4 : Int32))] [])) _
    exact kZ
  refine Go.retV X27 hx Bd.notSynchronized Bd.returns (hb hby d1_65) (by decide) (by decide) ?_
  rw [e27]
  exact ⟨rfl, N27, b8, sz_b8, K27, c28_0, c28_2, c28_5, c28_6, c28_7, c28_13, c28_14⟩
def f6n4 (o0 : Addr) (cA : Addr) (fF : Nat → Int32) : Int32 := (if (fF (0 : Int32).toNatClampNeg) = (1 : Int32) then (if (fF (1 : Int32).toNatClampNeg) = (1 : Int32) then (if (fF (2 : Int32).toNatClampNeg) = (1 : Int32) then (if (fF (3 : Int32).toNatClampNeg) = (1 : Int32) then (1 : Int32) else (0 : Int32)) else (0 : Int32)) else (0 : Int32)) else (0 : Int32))
def Q6n4 (o0 : Addr) (cA : Addr) (fF : Nat → Int32) (h0 : Heap) (n0 : Nat) (v : Option Value) (h : Heap) (L : List Loc) : Prop := v = some (.int (f6n4 o0 cA fF)) ∧ Fr n0 L ∧ h = h0
set_option maxRecDepth 65536 in
set_option maxHeartbeats 40000000 in
theorem rm6n4 (l : Launch) (Z : State) (a0 : Array Value) (hw : ∀ d ∈ tables_1, d.before a0 Z = true) (ws : List Jvm.Cond) (o0 : Addr) (cA : Addr) (fF : Nat → Int32) (h0 : Heap) (n0 : Nat) (Z0 : n0 ≤ h0.size) (ha0 : Fld Z h0 o0 "com/example/ltlconv/ltlconv/dra/RabinDraft" "infiniteCounts" "[I" (.ref cA)) (ha1 : AV Z h0 cA .int 4 (fun k => .int (fF k))) :
    MetFree l (⟨"com/example/ltlconv/ltlconv/dra/RabinDraft", "isRabin", "()Z"⟩ : MethodName) (head1 (Jvm.Cond.code (⟨"com/example/ltlconv/ltlconv/dra/RabinDraft", "isRabin", "()Z"⟩ : MethodName) prog_52_method_14_code 5 (some .boolean) :: ws) ({ frames := 0, cells := 0, slots := 0, locals := 0 } : Room)) (fun a U => a = #[(.ref o0)] ∧ Z.Warmed39 U.vm ∧ U.heap = h0) (fun _ _ _ _ _ => True) (fun _ U o U' => ∃ v L, o = .returned v ∧ Q6n4 o0 cA fF h0 n0 v U'.heap L ∧ FrameEnd U o U' L ({ frames := 0, cells := 0, slots := 0, locals := 0 } : Room).cells ({ frames := 0, cells := 0, slots := 0, locals := 0 } : Room).slots) := by
  refine MetFree.of_bodySF (plainFor_of_name pn_3) hisR ?_
  intro p e s m args below meth c s₁ Bd hml0 hP hK
  obtain ⟨rfl, hZ, hh⟩ := hP
  have hx := Bd.exec
  have hby := Bd.bytes
  have hml : c.maxLocals = 5 := hml0
  have hown : s.vm.findClass "com/example/ltlconv/ltlconv/dra/RabinDraft" = some m.cls := findClass_of_methodNamed Bd.named
  have hnm := (name_of_methodNamed Bd.named Bd.method).1
  have X0 : Stand p l e ({ frames := 0, cells := 0, slots := 0, locals := 0 } : Room) s m #[(.ref o0)] below meth c s₁ [] 0 0 := Stand.of_body Bd
  have e0 : s₁.heap = h0 := by rw [← hh, Bd.state]; rfl
  have N0 := Fr.nil n0
  refine Go.into (P := fun oo uu => ∃ v L, oo = .returned v ∧ Q6n4 o0 cA fF h0 n0 v uu.heap L ∧ FrameEnd s oo uu L ({ frames := 0, cells := 0, slots := 0, locals := 0 } : Room).cells ({ frames := 0, cells := 0, slots := 0, locals := 0 } : Room).slots) (ef_6_a m o0) ?_
  show Go p e below _ (s₁.setTop (mkF m 0 #[.val (.ref o0), .unset, .unset, .unset, .unset] []))
  refine Go.via (T' := s₁.setTop (mkF m 1 #[.val (.ref o0), .unset, .unset, .unset, .unset] [(.ref o0)])) (fun tZ kZ => ?_) ?_
  · show Steps p.tables e below (s₁.setTop (mkF m 0 #[.val (.ref o0), .unset, .unset, .unset, .unset] [])) _
    refine XS.aloadN X0.here hx rfl (hb hby d6_0) rfl rfl ?_
    show Steps p.tables e below (s₁.setTop (mkF m 1 #[.val (.ref o0), .unset, .unset, .unset, .unset] [(.ref o0)])) _
    exact kZ
  obtain ⟨T1, X1, e1, st1⟩ := getF X0 hx hZ hown (host := "") (Or.inl (hw _ (List.mem_of_getElem? (i := 45) rfl))) Via.refl e0 ha0 (g := (mkF m 1 #[.val (.ref o0), .unset, .unset, .unset, .unset] [(.ref o0)])) rfl rfl (hb hby d6_1)
  refine Go.via st1 ?_
  show Go p e below _ (T1.setTop (mkF m 4 #[.val (.ref o0), .unset, .unset, .unset, .unset] [(.ref cA)]))
  refine Go.via (T' := T1.setTop (mkF m 23 #[.val (.ref o0), .val (.ref cA), .val (.int (4 : Int32)), .val (.int (0 : Int32)), .val (.int (fF (0 : Int32).toNatClampNeg))] [(.int (1 : Int32)), (.int (fF (0 : Int32).toNatClampNeg))])) (fun tZ kZ => ?_) ?_
  · show Steps p.tables e below (T1.setTop (mkF m 4 #[.val (.ref o0), .unset, .unset, .unset, .unset] [(.ref cA)])) _
    refine XS.astoreN X1.here hx rfl (hb hby d6_4) rfl rfl (l' := #[.val (.ref o0), .val (.ref cA), .unset, .unset, .unset]) rfl ?_
    show Steps p.tables e below (T1.setTop (mkF m 5 #[.val (.ref o0), .val (.ref cA), .unset, .unset, .unset] [])) _
    refine XS.aloadN X1.here hx rfl (hb hby d6_5) rfl rfl ?_
    show Steps p.tables e below (T1.setTop (mkF m 6 #[.val (.ref o0), .val (.ref cA), .unset, .unset, .unset] [(.ref cA)])) _
    refine AV.len ha1 X1 hx hZ e1 (hb hby d6_6) ?_
    show Steps p.tables e below (T1.setTop (mkF m 7 #[.val (.ref o0), .val (.ref cA), .unset, .unset, .unset] [(.int (4 : Int32))])) _
    refine XS.istoreN X1.here hx rfl (hb hby d6_7) rfl (l' := #[.val (.ref o0), .val (.ref cA), .val (.int (4 : Int32)), .unset, .unset]) rfl ?_
    show Steps p.tables e below (T1.setTop (mkF m 8 #[.val (.ref o0), .val (.ref cA), .val (.int (4 : Int32)), .unset, .unset] [])) _
    refine XS.iconst X1.here hx rfl (hb hby d6_8) ?_
    show Steps p.tables e below (T1.setTop (mkF m 9 #[.val (.ref o0), .val (.ref cA), .val (.int (4 : Int32)), .unset, .unset] [(.int (0 : Int32))])) _
    refine XS.istoreN X1.here hx rfl (hb hby d6_9) rfl (l' := #[.val (.ref o0), .val (.ref cA), .val (.int (4 : Int32)), .val (.int (0 : Int32)), .unset]) rfl ?_
    show Steps p.tables e below (T1.setTop (mkF m 10 #[.val (.ref o0), .val (.ref cA), .val (.int (4 : Int32)), .val (.int (0 : Int32)), .unset] [])) _
    refine XS.iloadN X1.here hx rfl (hb hby d6_10) rfl ?_
    show Steps p.tables e below (T1.setTop (mkF m 11 #[.val (.ref o0), .val (.ref cA), .val (.int (4 : Int32)), .val (.int (0 : Int32)), .unset] [(.int (0 : Int32))])) _
    refine XS.iloadN X1.here hx rfl (hb hby d6_11) rfl ?_
    show Steps p.tables e below (T1.setTop (mkF m 12 #[.val (.ref o0), .val (.ref cA), .val (.int (4 : Int32)), .val (.int (0 : Int32)), .unset] [(.int (4 : Int32)), (.int (0 : Int32))])) _
    refine XS.icmpNo X1.here hx rfl (hb hby d6_12) rfl (tlt (by decide)).2.1 ?_
    show Steps p.tables e below (T1.setTop (mkF m 15 #[.val (.ref o0), .val (.ref cA), .val (.int (4 : Int32)), .val (.int (0 : Int32)), .unset] [])) _
    refine XS.aloadN X1.here hx rfl (hb hby d6_15) rfl rfl ?_
    show Steps p.tables e below (T1.setTop (mkF m 16 #[.val (.ref o0), .val (.ref cA), .val (.int (4 : Int32)), .val (.int (0 : Int32)), .unset] [(.ref cA)])) _
    refine XS.iloadN X1.here hx rfl (hb hby d6_16) rfl ?_
    show Steps p.tables e below (T1.setTop (mkF m 17 #[.val (.ref o0), .val (.ref cA), .val (.int (4 : Int32)), .val (.int (0 : Int32)), .unset] [(.int (0 : Int32)), (.ref cA)])) _
    refine AV.iaload ha1 X1 hx hZ e1 (j := (0 : Int32)) (by decide) (hb hby d6_17) ?_
    show Steps p.tables e below (T1.setTop (mkF m 18 #[.val (.ref o0), .val (.ref cA), .val (.int (4 : Int32)), .val (.int (0 : Int32)), .unset] [(.int (fF (0 : Int32).toNatClampNeg))])) _
    refine XS.istore X1.here hx rfl (hb hby d6_18) rfl (l' := #[.val (.ref o0), .val (.ref cA), .val (.int (4 : Int32)), .val (.int (0 : Int32)), .val (.int (fF (0 : Int32).toNatClampNeg))]) rfl ?_
    show Steps p.tables e below (T1.setTop (mkF m 20 #[.val (.ref o0), .val (.ref cA), .val (.int (4 : Int32)), .val (.int (0 : Int32)), .val (.int (fF (0 : Int32).toNatClampNeg))] [])) _
    refine XS.iload X1.here hx rfl (hb hby d6_20) rfl ?_
    show Steps p.tables e below (T1.setTop (mkF m 22 #[.val (.ref o0), .val (.ref cA), .val (.int (4 : Int32)), .val (.int (0 : Int32)), .val (.int (fF (0 : Int32).toNatClampNeg))] [(.int (fF (0 : Int32).toNatClampNeg))])) _
    refine XS.iconst X1.here hx rfl (hb hby d6_22) ?_
    show Steps p.tables e below (T1.setTop (mkF m 23 #[.val (.ref o0), .val (.ref cA), .val (.int (4 : Int32)), .val (.int (0 : Int32)), .val (.int (fF (0 : Int32).toNatClampNeg))] [(.int (1 : Int32)), (.int (fF (0 : Int32).toNatClampNeg))])) _
    exact kZ
  by_cases hc23 : (fF (0 : Int32).toNatClampNeg) = (1 : Int32)
  · refine Go.via (T' := T1.setTop (mkF m 28 #[.val (.ref o0), .val (.ref cA), .val (.int (4 : Int32)), .val (.int (0 : Int32)), .val (.int (fF (0 : Int32).toNatClampNeg))] [])) (fun tZ kZ => ?_) ?_
    · show Steps p.tables e below (T1.setTop (mkF m 23 #[.val (.ref o0), .val (.ref cA), .val (.int (4 : Int32)), .val (.int (0 : Int32)), .val (.int (fF (0 : Int32).toNatClampNeg))] [(.int (1 : Int32)), (.int (fF (0 : Int32).toNatClampNeg))])) _
      refine XS.icmpYes X1.here hx rfl (pc0 := 23) (pc' := 28) rfl (hb hby d6_23) rfl (teq hc23).1 (by decide) (by decide) ?_
      exact kZ
    refine Go.via (T' := T1.setTop (mkF m 23 #[.val (.ref o0), .val (.ref cA), .val (.int (4 : Int32)), .val (.int (1 : Int32)), .val (.int (fF (1 : Int32).toNatClampNeg))] [(.int (1 : Int32)), (.int (fF (1 : Int32).toNatClampNeg))])) (fun tZ kZ => ?_) ?_
    · show Steps p.tables e below (T1.setTop (mkF m 28 #[.val (.ref o0), .val (.ref cA), .val (.int (4 : Int32)), .val (.int (0 : Int32)), .val (.int (fF (0 : Int32).toNatClampNeg))] [])) _
      refine XS.iinc X1.here hx rfl (hb hby d6_28) rfl (l' := #[.val (.ref o0), .val (.ref cA), .val (.int (4 : Int32)), .val (.int (1 : Int32)), .val (.int (fF (0 : Int32).toNatClampNeg))]) rfl ?_
      show Steps p.tables e below (T1.setTop (mkF m 31 #[.val (.ref o0), .val (.ref cA), .val (.int (4 : Int32)), .val (.int (1 : Int32)), .val (.int (fF (0 : Int32).toNatClampNeg))] [])) _
      refine XS.goto X1.here hx rfl (pc0 := 31) (pc' := 10) rfl (hb hby d6_31) (by decide) (by decide) ?_
      show Steps p.tables e below (T1.setTop (mkF m 10 #[.val (.ref o0), .val (.ref cA), .val (.int (4 : Int32)), .val (.int (1 : Int32)), .val (.int (fF (0 : Int32).toNatClampNeg))] [])) _
      refine XS.iloadN X1.here hx rfl (hb hby d6_10) rfl ?_
      show Steps p.tables e below (T1.setTop (mkF m 11 #[.val (.ref o0), .val (.ref cA), .val (.int (4 : Int32)), .val (.int (1 : Int32)), .val (.int (fF (0 : Int32).toNatClampNeg))] [(.int (1 : Int32))])) _
      refine XS.iloadN X1.here hx rfl (hb hby d6_11) rfl ?_
      show Steps p.tables e below (T1.setTop (mkF m 12 #[.val (.ref o0), .val (.ref cA), .val (.int (4 : Int32)), .val (.int (1 : Int32)), .val (.int (fF (0 : Int32).toNatClampNeg))] [(.int (4 : Int32)), (.int (1 : Int32))])) _
      refine XS.icmpNo X1.here hx rfl (hb hby d6_12) rfl (tlt (by decide)).2.1 ?_
      show Steps p.tables e below (T1.setTop (mkF m 15 #[.val (.ref o0), .val (.ref cA), .val (.int (4 : Int32)), .val (.int (1 : Int32)), .val (.int (fF (0 : Int32).toNatClampNeg))] [])) _
      refine XS.aloadN X1.here hx rfl (hb hby d6_15) rfl rfl ?_
      show Steps p.tables e below (T1.setTop (mkF m 16 #[.val (.ref o0), .val (.ref cA), .val (.int (4 : Int32)), .val (.int (1 : Int32)), .val (.int (fF (0 : Int32).toNatClampNeg))] [(.ref cA)])) _
      refine XS.iloadN X1.here hx rfl (hb hby d6_16) rfl ?_
      show Steps p.tables e below (T1.setTop (mkF m 17 #[.val (.ref o0), .val (.ref cA), .val (.int (4 : Int32)), .val (.int (1 : Int32)), .val (.int (fF (0 : Int32).toNatClampNeg))] [(.int (1 : Int32)), (.ref cA)])) _
      refine AV.iaload ha1 X1 hx hZ e1 (j := (1 : Int32)) (by decide) (hb hby d6_17) ?_
      show Steps p.tables e below (T1.setTop (mkF m 18 #[.val (.ref o0), .val (.ref cA), .val (.int (4 : Int32)), .val (.int (1 : Int32)), .val (.int (fF (0 : Int32).toNatClampNeg))] [(.int (fF (1 : Int32).toNatClampNeg))])) _
      refine XS.istore X1.here hx rfl (hb hby d6_18) rfl (l' := #[.val (.ref o0), .val (.ref cA), .val (.int (4 : Int32)), .val (.int (1 : Int32)), .val (.int (fF (1 : Int32).toNatClampNeg))]) rfl ?_
      show Steps p.tables e below (T1.setTop (mkF m 20 #[.val (.ref o0), .val (.ref cA), .val (.int (4 : Int32)), .val (.int (1 : Int32)), .val (.int (fF (1 : Int32).toNatClampNeg))] [])) _
      refine XS.iload X1.here hx rfl (hb hby d6_20) rfl ?_
      show Steps p.tables e below (T1.setTop (mkF m 22 #[.val (.ref o0), .val (.ref cA), .val (.int (4 : Int32)), .val (.int (1 : Int32)), .val (.int (fF (1 : Int32).toNatClampNeg))] [(.int (fF (1 : Int32).toNatClampNeg))])) _
      refine XS.iconst X1.here hx rfl (hb hby d6_22) ?_
      show Steps p.tables e below (T1.setTop (mkF m 23 #[.val (.ref o0), .val (.ref cA), .val (.int (4 : Int32)), .val (.int (1 : Int32)), .val (.int (fF (1 : Int32).toNatClampNeg))] [(.int (1 : Int32)), (.int (fF (1 : Int32).toNatClampNeg))])) _
      exact kZ
    by_cases hc23_1 : (fF (1 : Int32).toNatClampNeg) = (1 : Int32)
    · refine Go.via (T' := T1.setTop (mkF m 28 #[.val (.ref o0), .val (.ref cA), .val (.int (4 : Int32)), .val (.int (1 : Int32)), .val (.int (fF (1 : Int32).toNatClampNeg))] [])) (fun tZ kZ => ?_) ?_
      · show Steps p.tables e below (T1.setTop (mkF m 23 #[.val (.ref o0), .val (.ref cA), .val (.int (4 : Int32)), .val (.int (1 : Int32)), .val (.int (fF (1 : Int32).toNatClampNeg))] [(.int (1 : Int32)), (.int (fF (1 : Int32).toNatClampNeg))])) _
        refine XS.icmpYes X1.here hx rfl (pc0 := 23) (pc' := 28) rfl (hb hby d6_23) rfl (teq hc23_1).1 (by decide) (by decide) ?_
        exact kZ
      refine Go.via (T' := T1.setTop (mkF m 23 #[.val (.ref o0), .val (.ref cA), .val (.int (4 : Int32)), .val (.int (2 : Int32)), .val (.int (fF (2 : Int32).toNatClampNeg))] [(.int (1 : Int32)), (.int (fF (2 : Int32).toNatClampNeg))])) (fun tZ kZ => ?_) ?_
      · show Steps p.tables e below (T1.setTop (mkF m 28 #[.val (.ref o0), .val (.ref cA), .val (.int (4 : Int32)), .val (.int (1 : Int32)), .val (.int (fF (1 : Int32).toNatClampNeg))] [])) _
        refine XS.iinc X1.here hx rfl (hb hby d6_28) rfl (l' := #[.val (.ref o0), .val (.ref cA), .val (.int (4 : Int32)), .val (.int (2 : Int32)), .val (.int (fF (1 : Int32).toNatClampNeg))]) rfl ?_
        show Steps p.tables e below (T1.setTop (mkF m 31 #[.val (.ref o0), .val (.ref cA), .val (.int (4 : Int32)), .val (.int (2 : Int32)), .val (.int (fF (1 : Int32).toNatClampNeg))] [])) _
        refine XS.goto X1.here hx rfl (pc0 := 31) (pc' := 10) rfl (hb hby d6_31) (by decide) (by decide) ?_
        show Steps p.tables e below (T1.setTop (mkF m 10 #[.val (.ref o0), .val (.ref cA), .val (.int (4 : Int32)), .val (.int (2 : Int32)), .val (.int (fF (1 : Int32).toNatClampNeg))] [])) _
        refine XS.iloadN X1.here hx rfl (hb hby d6_10) rfl ?_
        show Steps p.tables e below (T1.setTop (mkF m 11 #[.val (.ref o0), .val (.ref cA), .val (.int (4 : Int32)), .val (.int (2 : Int32)), .val (.int (fF (1 : Int32).toNatClampNeg))] [(.int (2 : Int32))])) _
        refine XS.iloadN X1.here hx rfl (hb hby d6_11) rfl ?_
        show Steps p.tables e below (T1.setTop (mkF m 12 #[.val (.ref o0), .val (.ref cA), .val (.int (4 : Int32)), .val (.int (2 : Int32)), .val (.int (fF (1 : Int32).toNatClampNeg))] [(.int (4 : Int32)), (.int (2 : Int32))])) _
        refine XS.icmpNo X1.here hx rfl (hb hby d6_12) rfl (tlt (by decide)).2.1 ?_
        show Steps p.tables e below (T1.setTop (mkF m 15 #[.val (.ref o0), .val (.ref cA), .val (.int (4 : Int32)), .val (.int (2 : Int32)), .val (.int (fF (1 : Int32).toNatClampNeg))] [])) _
        refine XS.aloadN X1.here hx rfl (hb hby d6_15) rfl rfl ?_
        show Steps p.tables e below (T1.setTop (mkF m 16 #[.val (.ref o0), .val (.ref cA), .val (.int (4 : Int32)), .val (.int (2 : Int32)), .val (.int (fF (1 : Int32).toNatClampNeg))] [(.ref cA)])) _
        refine XS.iloadN X1.here hx rfl (hb hby d6_16) rfl ?_
        show Steps p.tables e below (T1.setTop (mkF m 17 #[.val (.ref o0), .val (.ref cA), .val (.int (4 : Int32)), .val (.int (2 : Int32)), .val (.int (fF (1 : Int32).toNatClampNeg))] [(.int (2 : Int32)), (.ref cA)])) _
        refine AV.iaload ha1 X1 hx hZ e1 (j := (2 : Int32)) (by decide) (hb hby d6_17) ?_
        show Steps p.tables e below (T1.setTop (mkF m 18 #[.val (.ref o0), .val (.ref cA), .val (.int (4 : Int32)), .val (.int (2 : Int32)), .val (.int (fF (1 : Int32).toNatClampNeg))] [(.int (fF (2 : Int32).toNatClampNeg))])) _
        refine XS.istore X1.here hx rfl (hb hby d6_18) rfl (l' := #[.val (.ref o0), .val (.ref cA), .val (.int (4 : Int32)), .val (.int (2 : Int32)), .val (.int (fF (2 : Int32).toNatClampNeg))]) rfl ?_
        show Steps p.tables e below (T1.setTop (mkF m 20 #[.val (.ref o0), .val (.ref cA), .val (.int (4 : Int32)), .val (.int (2 : Int32)), .val (.int (fF (2 : Int32).toNatClampNeg))] [])) _
        refine XS.iload X1.here hx rfl (hb hby d6_20) rfl ?_
        show Steps p.tables e below (T1.setTop (mkF m 22 #[.val (.ref o0), .val (.ref cA), .val (.int (4 : Int32)), .val (.int (2 : Int32)), .val (.int (fF (2 : Int32).toNatClampNeg))] [(.int (fF (2 : Int32).toNatClampNeg))])) _
        refine XS.iconst X1.here hx rfl (hb hby d6_22) ?_
        show Steps p.tables e below (T1.setTop (mkF m 23 #[.val (.ref o0), .val (.ref cA), .val (.int (4 : Int32)), .val (.int (2 : Int32)), .val (.int (fF (2 : Int32).toNatClampNeg))] [(.int (1 : Int32)), (.int (fF (2 : Int32).toNatClampNeg))])) _
        exact kZ
      by_cases hc23_2 : (fF (2 : Int32).toNatClampNeg) = (1 : Int32)
      · refine Go.via (T' := T1.setTop (mkF m 28 #[.val (.ref o0), .val (.ref cA), .val (.int (4 : Int32)), .val (.int (2 : Int32)), .val (.int (fF (2 : Int32).toNatClampNeg))] [])) (fun tZ kZ => ?_) ?_
        · show Steps p.tables e below (T1.setTop (mkF m 23 #[.val (.ref o0), .val (.ref cA), .val (.int (4 : Int32)), .val (.int (2 : Int32)), .val (.int (fF (2 : Int32).toNatClampNeg))] [(.int (1 : Int32)), (.int (fF (2 : Int32).toNatClampNeg))])) _
          refine XS.icmpYes X1.here hx rfl (pc0 := 23) (pc' := 28) rfl (hb hby d6_23) rfl (teq hc23_2).1 (by decide) (by decide) ?_
          exact kZ
        refine Go.via (T' := T1.setTop (mkF m 23 #[.val (.ref o0), .val (.ref cA), .val (.int (4 : Int32)), .val (.int (3 : Int32)), .val (.int (fF (3 : Int32).toNatClampNeg))] [(.int (1 : Int32)), (.int (fF (3 : Int32).toNatClampNeg))])) (fun tZ kZ => ?_) ?_
        · show Steps p.tables e below (T1.setTop (mkF m 28 #[.val (.ref o0), .val (.ref cA), .val (.int (4 : Int32)), .val (.int (2 : Int32)), .val (.int (fF (2 : Int32).toNatClampNeg))] [])) _
          refine XS.iinc X1.here hx rfl (hb hby d6_28) rfl (l' := #[.val (.ref o0), .val (.ref cA), .val (.int (4 : Int32)), .val (.int (3 : Int32)), .val (.int (fF (2 : Int32).toNatClampNeg))]) rfl ?_
          show Steps p.tables e below (T1.setTop (mkF m 31 #[.val (.ref o0), .val (.ref cA), .val (.int (4 : Int32)), .val (.int (3 : Int32)), .val (.int (fF (2 : Int32).toNatClampNeg))] [])) _
          refine XS.goto X1.here hx rfl (pc0 := 31) (pc' := 10) rfl (hb hby d6_31) (by decide) (by decide) ?_
          show Steps p.tables e below (T1.setTop (mkF m 10 #[.val (.ref o0), .val (.ref cA), .val (.int (4 : Int32)), .val (.int (3 : Int32)), .val (.int (fF (2 : Int32).toNatClampNeg))] [])) _
          refine XS.iloadN X1.here hx rfl (hb hby d6_10) rfl ?_
          show Steps p.tables e below (T1.setTop (mkF m 11 #[.val (.ref o0), .val (.ref cA), .val (.int (4 : Int32)), .val (.int (3 : Int32)), .val (.int (fF (2 : Int32).toNatClampNeg))] [(.int (3 : Int32))])) _
          refine XS.iloadN X1.here hx rfl (hb hby d6_11) rfl ?_
          show Steps p.tables e below (T1.setTop (mkF m 12 #[.val (.ref o0), .val (.ref cA), .val (.int (4 : Int32)), .val (.int (3 : Int32)), .val (.int (fF (2 : Int32).toNatClampNeg))] [(.int (4 : Int32)), (.int (3 : Int32))])) _
          refine XS.icmpNo X1.here hx rfl (hb hby d6_12) rfl (tlt (by decide)).2.1 ?_
          show Steps p.tables e below (T1.setTop (mkF m 15 #[.val (.ref o0), .val (.ref cA), .val (.int (4 : Int32)), .val (.int (3 : Int32)), .val (.int (fF (2 : Int32).toNatClampNeg))] [])) _
          refine XS.aloadN X1.here hx rfl (hb hby d6_15) rfl rfl ?_
          show Steps p.tables e below (T1.setTop (mkF m 16 #[.val (.ref o0), .val (.ref cA), .val (.int (4 : Int32)), .val (.int (3 : Int32)), .val (.int (fF (2 : Int32).toNatClampNeg))] [(.ref cA)])) _
          refine XS.iloadN X1.here hx rfl (hb hby d6_16) rfl ?_
          show Steps p.tables e below (T1.setTop (mkF m 17 #[.val (.ref o0), .val (.ref cA), .val (.int (4 : Int32)), .val (.int (3 : Int32)), .val (.int (fF (2 : Int32).toNatClampNeg))] [(.int (3 : Int32)), (.ref cA)])) _
          refine AV.iaload ha1 X1 hx hZ e1 (j := (3 : Int32)) (by decide) (hb hby d6_17) ?_
          show Steps p.tables e below (T1.setTop (mkF m 18 #[.val (.ref o0), .val (.ref cA), .val (.int (4 : Int32)), .val (.int (3 : Int32)), .val (.int (fF (2 : Int32).toNatClampNeg))] [(.int (fF (3 : Int32).toNatClampNeg))])) _
          refine XS.istore X1.here hx rfl (hb hby d6_18) rfl (l' := #[.val (.ref o0), .val (.ref cA), .val (.int (4 : Int32)), .val (.int (3 : Int32)), .val (.int (fF (3 : Int32).toNatClampNeg))]) rfl ?_
          show Steps p.tables e below (T1.setTop (mkF m 20 #[.val (.ref o0), .val (.ref cA), .val (.int (4 : Int32)), .val (.int (3 : Int32)), .val (.int (fF (3 : Int32).toNatClampNeg))] [])) _
          refine XS.iload X1.here hx rfl (hb hby d6_20) rfl ?_
          show Steps p.tables e below (T1.setTop (mkF m 22 #[.val (.ref o0), .val (.ref cA), .val (.int (4 : Int32)), .val (.int (3 : Int32)), .val (.int (fF (3 : Int32).toNatClampNeg))] [(.int (fF (3 : Int32).toNatClampNeg))])) _
          refine XS.iconst X1.here hx rfl (hb hby d6_22) ?_
          show Steps p.tables e below (T1.setTop (mkF m 23 #[.val (.ref o0), .val (.ref cA), .val (.int (4 : Int32)), .val (.int (3 : Int32)), .val (.int (fF (3 : Int32).toNatClampNeg))] [(.int (1 : Int32)), (.int (fF (3 : Int32).toNatClampNeg))])) _
          exact kZ
        by_cases hc23_3 : (fF (3 : Int32).toNatClampNeg) = (1 : Int32)
        · refine Go.via (T' := T1.setTop (mkF m 28 #[.val (.ref o0), .val (.ref cA), .val (.int (4 : Int32)), .val (.int (3 : Int32)), .val (.int (fF (3 : Int32).toNatClampNeg))] [])) (fun tZ kZ => ?_) ?_
          · show Steps p.tables e below (T1.setTop (mkF m 23 #[.val (.ref o0), .val (.ref cA), .val (.int (4 : Int32)), .val (.int (3 : Int32)), .val (.int (fF (3 : Int32).toNatClampNeg))] [(.int (1 : Int32)), (.int (fF (3 : Int32).toNatClampNeg))])) _
            refine XS.icmpYes X1.here hx rfl (pc0 := 23) (pc' := 28) rfl (hb hby d6_23) rfl (teq hc23_3).1 (by decide) (by decide) ?_
            exact kZ
          refine Go.via (T' := T1.setTop (mkF m 35 #[.val (.ref o0), .val (.ref cA), .val (.int (4 : Int32)), .val (.int (4 : Int32)), .val (.int (fF (3 : Int32).toNatClampNeg))] [(.int (1 : Int32))])) (fun tZ kZ => ?_) ?_
          · show Steps p.tables e below (T1.setTop (mkF m 28 #[.val (.ref o0), .val (.ref cA), .val (.int (4 : Int32)), .val (.int (3 : Int32)), .val (.int (fF (3 : Int32).toNatClampNeg))] [])) _
            refine XS.iinc X1.here hx rfl (hb hby d6_28) rfl (l' := #[.val (.ref o0), .val (.ref cA), .val (.int (4 : Int32)), .val (.int (4 : Int32)), .val (.int (fF (3 : Int32).toNatClampNeg))]) rfl ?_
            show Steps p.tables e below (T1.setTop (mkF m 31 #[.val (.ref o0), .val (.ref cA), .val (.int (4 : Int32)), .val (.int (4 : Int32)), .val (.int (fF (3 : Int32).toNatClampNeg))] [])) _
            refine XS.goto X1.here hx rfl (pc0 := 31) (pc' := 10) rfl (hb hby d6_31) (by decide) (by decide) ?_
            show Steps p.tables e below (T1.setTop (mkF m 10 #[.val (.ref o0), .val (.ref cA), .val (.int (4 : Int32)), .val (.int (4 : Int32)), .val (.int (fF (3 : Int32).toNatClampNeg))] [])) _
            refine XS.iloadN X1.here hx rfl (hb hby d6_10) rfl ?_
            show Steps p.tables e below (T1.setTop (mkF m 11 #[.val (.ref o0), .val (.ref cA), .val (.int (4 : Int32)), .val (.int (4 : Int32)), .val (.int (fF (3 : Int32).toNatClampNeg))] [(.int (4 : Int32))])) _
            refine XS.iloadN X1.here hx rfl (hb hby d6_11) rfl ?_
            show Steps p.tables e below (T1.setTop (mkF m 12 #[.val (.ref o0), .val (.ref cA), .val (.int (4 : Int32)), .val (.int (4 : Int32)), .val (.int (fF (3 : Int32).toNatClampNeg))] [(.int (4 : Int32)), (.int (4 : Int32))])) _
            refine XS.icmpYes X1.here hx rfl (pc0 := 12) (pc' := 34) rfl (hb hby d6_12) rfl (flt (by decide)).2.1 (by decide) (by decide) ?_
            show Steps p.tables e below (T1.setTop (mkF m 34 #[.val (.ref o0), .val (.ref cA), .val (.int (4 : Int32)), .val (.int (4 : Int32)), .val (.int (fF (3 : Int32).toNatClampNeg))] [])) _
            refine XS.iconst X1.here hx rfl (hb hby d6_34) ?_
            show Steps p.tables e below (T1.setTop (mkF m 35 #[.val (.ref o0), .val (.ref cA), .val (.int (4 : Int32)), .val (.int (4 : Int32)), .val (.int (fF (3 : Int32).toNatClampNeg))] [(.int (1 : Int32))])) _
            exact kZ
          refine Go.retN X1 hx Bd.notSynchronized (t := .boolean) Bd.returns (by simp) (hb hby d6_35) (by decide) (by decide) ?_
          refine ⟨?_, N0, e1⟩
          show some ((Value.int (nar .boolean (1 : Int32))) : Value) = some (.int (f6n4 o0 cA fF))
          unfold f6n4; rw [if_pos hc23, if_pos hc23_1, if_pos hc23_2, if_pos hc23_3] <;> rfl
        · refine Go.via (T' := T1.setTop (mkF m 26 #[.val (.ref o0), .val (.ref cA), .val (.int (4 : Int32)), .val (.int (3 : Int32)), .val (.int (fF (3 : Int32).toNatClampNeg))] [])) (fun tZ kZ => ?_) ?_
          · show Steps p.tables e below (T1.setTop (mkF m 23 #[.val (.ref o0), .val (.ref cA), .val (.int (4 : Int32)), .val (.int (3 : Int32)), .val (.int (fF (3 : Int32).toNatClampNeg))] [(.int (1 : Int32)), (.int (fF (3 : Int32).toNatClampNeg))])) _
            refine XS.icmpNo X1.here hx rfl (hb hby d6_23) rfl (feq hc23_3).1 ?_
            exact kZ
          refine Go.via (T' := T1.setTop (mkF m 27 #[.val (.ref o0), .val (.ref cA), .val (.int (4 : Int32)), .val (.int (3 : Int32)), .val (.int (fF (3 : Int32).toNatClampNeg))] [(.int (0 : Int32))])) (fun tZ kZ => ?_) ?_
          · show Steps p.tables e below (T1.setTop (mkF m 26 #[.val (.ref o0), .val (.ref cA), .val (.int (4 : Int32)), .val (.int (3 : Int32)), .val (.int (fF (3 : Int32).toNatClampNeg))] [])) _
            refine XS.iconst X1.here hx rfl (hb hby d6_26) ?_
            show Steps p.tables e below (T1.setTop (mkF m 27 #[.val (.ref o0), .val (.ref cA), .val (.int (4 : Int32)), .val (.int (3 : Int32)), .val (.int (fF (3 : Int32).toNatClampNeg))] [(.int (0 : Int32))])) _
            exact kZ
          refine Go.retN X1 hx Bd.notSynchronized (t := .boolean) Bd.returns (by simp) (hb hby d6_27) (by decide) (by decide) ?_
          refine ⟨?_, N0, e1⟩
          show some ((Value.int (nar .boolean (0 : Int32))) : Value) = some (.int (f6n4 o0 cA fF))
          unfold f6n4; rw [if_pos hc23, if_pos hc23_1, if_pos hc23_2, if_neg hc23_3] <;> rfl
      · refine Go.via (T' := T1.setTop (mkF m 26 #[.val (.ref o0), .val (.ref cA), .val (.int (4 : Int32)), .val (.int (2 : Int32)), .val (.int (fF (2 : Int32).toNatClampNeg))] [])) (fun tZ kZ => ?_) ?_
        · show Steps p.tables e below (T1.setTop (mkF m 23 #[.val (.ref o0), .val (.ref cA), .val (.int (4 : Int32)), .val (.int (2 : Int32)), .val (.int (fF (2 : Int32).toNatClampNeg))] [(.int (1 : Int32)), (.int (fF (2 : Int32).toNatClampNeg))])) _
          refine XS.icmpNo X1.here hx rfl (hb hby d6_23) rfl (feq hc23_2).1 ?_
          exact kZ
        refine Go.via (T' := T1.setTop (mkF m 27 #[.val (.ref o0), .val (.ref cA), .val (.int (4 : Int32)), .val (.int (2 : Int32)), .val (.int (fF (2 : Int32).toNatClampNeg))] [(.int (0 : Int32))])) (fun tZ kZ => ?_) ?_
        · show Steps p.tables e below (T1.setTop (mkF m 26 #[.val (.ref o0), .val (.ref cA), .val (.int (4 : Int32)), .val (.int (2 : Int32)), .val (.int (fF (2 : Int32).toNatClampNeg))] [])) _
          refine XS.iconst X1.here hx rfl (hb hby d6_26) ?_
          show Steps p.tables e below (T1.setTop (mkF m 27 #[.val (.ref o0), .val (.ref cA), .val (.int (4 : Int32)), .val (.int (2 : Int32)), .val (.int (fF (2 : Int32).toNatClampNeg))] [(.int (0 : Int32))])) _
          exact kZ
        refine Go.retN X1 hx Bd.notSynchronized (t := .boolean) Bd.returns (by simp) (hb hby d6_27) (by decide) (by decide) ?_
        refine ⟨?_, N0, e1⟩
        show some ((Value.int (nar .boolean (0 : Int32))) : Value) = some (.int (f6n4 o0 cA fF))
        unfold f6n4; rw [if_pos hc23, if_pos hc23_1, if_neg hc23_2] <;> rfl
    · refine Go.via (T' := T1.setTop (mkF m 26 #[.val (.ref o0), .val (.ref cA), .val (.int (4 : Int32)), .val (.int (1 : Int32)), .val (.int (fF (1 : Int32).toNatClampNeg))] [])) (fun tZ kZ => ?_) ?_
      · show Steps p.tables e below (T1.setTop (mkF m 23 #[.val (.ref o0), .val (.ref cA), .val (.int (4 : Int32)), .val (.int (1 : Int32)), .val (.int (fF (1 : Int32).toNatClampNeg))] [(.int (1 : Int32)), (.int (fF (1 : Int32).toNatClampNeg))])) _
        refine XS.icmpNo X1.here hx rfl (hb hby d6_23) rfl (feq hc23_1).1 ?_
        exact kZ
      refine Go.via (T' := T1.setTop (mkF m 27 #[.val (.ref o0), .val (.ref cA), .val (.int (4 : Int32)), .val (.int (1 : Int32)), .val (.int (fF (1 : Int32).toNatClampNeg))] [(.int (0 : Int32))])) (fun tZ kZ => ?_) ?_
      · show Steps p.tables e below (T1.setTop (mkF m 26 #[.val (.ref o0), .val (.ref cA), .val (.int (4 : Int32)), .val (.int (1 : Int32)), .val (.int (fF (1 : Int32).toNatClampNeg))] [])) _
        refine XS.iconst X1.here hx rfl (hb hby d6_26) ?_
        show Steps p.tables e below (T1.setTop (mkF m 27 #[.val (.ref o0), .val (.ref cA), .val (.int (4 : Int32)), .val (.int (1 : Int32)), .val (.int (fF (1 : Int32).toNatClampNeg))] [(.int (0 : Int32))])) _
        exact kZ
      refine Go.retN X1 hx Bd.notSynchronized (t := .boolean) Bd.returns (by simp) (hb hby d6_27) (by decide) (by decide) ?_
      refine ⟨?_, N0, e1⟩
      show some ((Value.int (nar .boolean (0 : Int32))) : Value) = some (.int (f6n4 o0 cA fF))
      unfold f6n4; rw [if_pos hc23, if_neg hc23_1] <;> rfl
  · refine Go.via (T' := T1.setTop (mkF m 26 #[.val (.ref o0), .val (.ref cA), .val (.int (4 : Int32)), .val (.int (0 : Int32)), .val (.int (fF (0 : Int32).toNatClampNeg))] [])) (fun tZ kZ => ?_) ?_
    · show Steps p.tables e below (T1.setTop (mkF m 23 #[.val (.ref o0), .val (.ref cA), .val (.int (4 : Int32)), .val (.int (0 : Int32)), .val (.int (fF (0 : Int32).toNatClampNeg))] [(.int (1 : Int32)), (.int (fF (0 : Int32).toNatClampNeg))])) _
      refine XS.icmpNo X1.here hx rfl (hb hby d6_23) rfl (feq hc23).1 ?_
      exact kZ
    refine Go.via (T' := T1.setTop (mkF m 27 #[.val (.ref o0), .val (.ref cA), .val (.int (4 : Int32)), .val (.int (0 : Int32)), .val (.int (fF (0 : Int32).toNatClampNeg))] [(.int (0 : Int32))])) (fun tZ kZ => ?_) ?_
    · show Steps p.tables e below (T1.setTop (mkF m 26 #[.val (.ref o0), .val (.ref cA), .val (.int (4 : Int32)), .val (.int (0 : Int32)), .val (.int (fF (0 : Int32).toNatClampNeg))] [])) _
      refine XS.iconst X1.here hx rfl (hb hby d6_26) ?_
      show Steps p.tables e below (T1.setTop (mkF m 27 #[.val (.ref o0), .val (.ref cA), .val (.int (4 : Int32)), .val (.int (0 : Int32)), .val (.int (fF (0 : Int32).toNatClampNeg))] [(.int (0 : Int32))])) _
      exact kZ
    refine Go.retN X1 hx Bd.notSynchronized (t := .boolean) Bd.returns (by simp) (hb hby d6_27) (by decide) (by decide) ?_
    refine ⟨?_, N0, e1⟩
    show some ((Value.int (nar .boolean (0 : Int32))) : Value) = some (.int (f6n4 o0 cA fF))
    unfold f6n4; rw [if_neg hc23] <;> rfl
theorem own_75 (x : Int32) : (x &&& 7) % 5 = 0 ∨ (x &&& 7) % 5 = 1 ∨ (x &&& 7) % 5 = 2 ∨ (x &&& 7) % 5 = 3 ∨ (x &&& 7) % 5 = 4 := by
  have e := Jvm.Kit.i32_mask x 7 (k := 3) (by decide) (by decide)
  have r := Jvm.Kit.i32_rem_nonneg (x := x &&& 7) (y := 5) (by rw [e]; omega)
  have e3 : (5 : Int32).toInt = 5 := rfl
  rw [e3] at r
  have : ((x &&& 7) % 5).toInt = 0 ∨ ((x &&& 7) % 5).toInt = 1 ∨ ((x &&& 7) % 5).toInt = 2 ∨ ((x &&& 7) % 5).toInt = 3 ∨ ((x &&& 7) % 5).toInt = 4 := by omega
  rcases this with q | q | q | q | q
  · left; exact Int32.toInt_inj.mp q
  · right; left; exact Int32.toInt_inj.mp q
  · right; right; left; exact Int32.toInt_inj.mp q
  · right; right; right; left; exact Int32.toInt_inj.mp q
  · right; right; right; right; exact Int32.toInt_inj.mp q
def Q0 (n0 : Nat) (v : Option Value) (h : Heap) (L : List Loc) : Prop := v = some (.int 1) ∧ Fr n0 L
def w0_0 (p0 : Int32) (p1 : Int32) : Int32 := (if (((p0.toUInt32 >>> ((3 : Int32) &&& 31).toUInt32).toInt32) &&& (1 : Int32)) = (0 : Int32) then p1 else (1 : Int32))
def w0_1 (p0 : Int32) (p2 : Int32) : Int32 := (if (((p0.toUInt32 >>> ((4 : Int32) &&& 31).toUInt32).toInt32) &&& (1 : Int32)) = (0 : Int32) then p2 else (1 : Int32))
def w0_2 (p0 : Int32) (p3 : Int32) : Int32 := (if (((p0.toUInt32 >>> ((5 : Int32) &&& 31).toUInt32).toInt32) &&& (1 : Int32)) = (0 : Int32) then p3 else (1 : Int32))
def w0_3 (p0 : Int32) (p4 : Int32) : Int32 := (if (((p0.toUInt32 >>> ((6 : Int32) &&& 31).toUInt32).toInt32) &&& (1 : Int32)) = (0 : Int32) then p4 else (1 : Int32))
theorem pd_0 : parseMethodDescriptor "([I)V" = some ⟨[(.array .int)], none⟩ := by decide +kernel
theorem pd_3 : parseMethodDescriptor "()Z" = some ⟨[], some .boolean⟩ := by decide +kernel
def w0_4 (p0 : Int32) (p1 : Int32) : Int32 := (if (w0_0 p0 p1) = (1 : Int32) then (1 : Int32) else (0 : Int32))
def w0_5 (p0 : Int32) (p2 : Int32) : Int32 := (if (w0_1 p0 p2) = (1 : Int32) then (1 : Int32) else (0 : Int32))
def w0_6 (p0 : Int32) (p1 : Int32) (p2 : Int32) : Int32 := (if (w0_0 p0 p1) = (1 : Int32) then (w0_5 p0 p2) else (0 : Int32))
def w0_7 (p0 : Int32) (p3 : Int32) : Int32 := (if (w0_2 p0 p3) = (1 : Int32) then (1 : Int32) else (0 : Int32))
def w0_8 (p0 : Int32) (p2 : Int32) (p3 : Int32) : Int32 := (if (w0_1 p0 p2) = (1 : Int32) then (w0_7 p0 p3) else (0 : Int32))
def w0_9 (p0 : Int32) (p1 : Int32) (p2 : Int32) (p3 : Int32) : Int32 := (if (w0_0 p0 p1) = (1 : Int32) then (w0_8 p0 p2 p3) else (0 : Int32))
def w0_10 (p0 : Int32) (p4 : Int32) : Int32 := (if (w0_3 p0 p4) = (1 : Int32) then (1 : Int32) else (0 : Int32))
def w0_11 (p0 : Int32) (p3 : Int32) (p4 : Int32) : Int32 := (if (w0_2 p0 p3) = (1 : Int32) then (w0_10 p0 p4) else (0 : Int32))
def w0_12 (p0 : Int32) (p2 : Int32) (p3 : Int32) (p4 : Int32) : Int32 := (if (w0_1 p0 p2) = (1 : Int32) then (w0_11 p0 p3 p4) else (0 : Int32))
def w0_13 (p0 : Int32) (p1 : Int32) (p2 : Int32) (p3 : Int32) (p4 : Int32) : Int32 := (if (w0_0 p0 p1) = (1 : Int32) then (w0_12 p0 p2 p3 p4) else (0 : Int32))
theorem pn_4 : plainName "com/example/ltlconv/ltlconv/dra/RabinDraftIsRabinPinLaw" = true := by first | (simp [plainName, overriddenIn]; done) | decide +kernel
theorem ef_0_aaaaa (m : MethodId) (x0 : Int32) (x1 : Int32) (x2 : Int32) (x3 : Int32) (x4 : Int32) : entryFrame m #[(.int x0), (.int x1), (.int x2), (.int x3), (.int x4)] maxLocals = mkF m 0 #[.val (.int x0), .val (.int x1), .val (.int x2), .val (.int x3), .val (.int x4), .unset, .unset, .unset, .unset, .unset, .unset, .unset, .unset] [] := by first | (simp [entryFrame, mkF, argsToLocals, Value.category, maxLocals]; done) | rfl
set_option maxRecDepth 65536 in
set_option maxHeartbeats 40000000 in
theorem rm0 (l : Launch) (Z : State) (a0 : Array Value) (hw : ∀ d ∈ tables_1, d.before a0 Z = true) (ws : List Jvm.Cond) (p0 : Int32) (p1 : Int32) (p2 : Int32) (p3 : Int32) (p4 : Int32) (aD : Addr) (h0 : Heap) (n0 : Nat) (Z0 : n0 ≤ h0.size) (ha0 : Sta Z Z.heap "java/util/ArrayList" "DEFAULTCAPACITY_EMPTY_ELEMENTDATA" "[Ljava/lang/Object;" (.ref aD)) (ha1 : Old Z n0 h0) :
    MetFree l x (head1 (Jvm.Cond.code x code maxLocals ret :: ws) room_1) (fun a U => a = #[(.int p0), (.int p1), (.int p2), (.int p3), (.int p4)] ∧ Z.Warmed39 U.vm ∧ U.heap = h0) (fun _ _ _ _ _ => True) (fun _ U o U' => ∃ v L, o = .returned v ∧ Q0 n0 v U'.heap L ∧ FrameEnd U o U' L 24 128) := by
  refine MetFree.of_bodySF (plainFor_of_name pn_4) hisR ?_
  intro p e s m args below meth c s₁ Bd hml0 hP hK
  obtain ⟨rfl, hZ, hh⟩ := hP
  have hx := Bd.exec
  have hby := Bd.bytes
  have hml : c.maxLocals = 13 := hml0
  have hown : s.vm.findClass "com/example/ltlconv/ltlconv/dra/RabinDraftIsRabinPinLaw" = some m.cls := findClass_of_methodNamed Bd.named
  have hnm := (name_of_methodNamed Bd.named Bd.method).1
  have X0 : Stand p l e room_1 s m #[(.int p0), (.int p1), (.int p2), (.int p3), (.int p4)] below meth c s₁ [] 0 0 := Stand.of_body Bd
  have e0 : s₁.heap = h0 := by rw [← hh, Bd.state]; rfl
  have N0 := Fr.nil n0
  refine Go.into (P := fun oo uu => ∃ v L, oo = .returned v ∧ Q0 n0 v uu.heap L ∧ FrameEnd s oo uu L 24 128) (ef_0_aaaaa m p0 p1 p2 p3 p4) ?_
  show Go p e below _ (s₁.setTop (mkF m 0 #[.val (.int p0), .val (.int p1), .val (.int p2), .val (.int p3), .val (.int p4), .unset, .unset, .unset, .unset, .unset, .unset, .unset, .unset] []))
  refine Go.via (T' := s₁.setTop (mkF m 8 #[.val (.int p0), .val (.int p1), .val (.int p2), .val (.int p3), .val (.int p4), .val (.int ((p0 &&& (7 : Int32)) % (5 : Int32))), .unset, .unset, .unset, .unset, .unset, .unset, .unset] [])) (fun tZ kZ => ?_) ?_
  · show Steps p.tables e below (s₁.setTop (mkF m 0 #[.val (.int p0), .val (.int p1), .val (.int p2), .val (.int p3), .val (.int p4), .unset, .unset, .unset, .unset, .unset, .unset, .unset, .unset] [])) _
    refine XS.iloadN X0.here hx rfl (hb hby at_0) rfl ?_
    show Steps p.tables e below (s₁.setTop (mkF m 1 #[.val (.int p0), .val (.int p1), .val (.int p2), .val (.int p3), .val (.int p4), .unset, .unset, .unset, .unset, .unset, .unset, .unset, .unset] [(.int p0)])) _
    refine XS.bipush X0.here hx rfl (hb hby at_1) ?_
    show Steps p.tables e below (s₁.setTop (mkF m 3 #[.val (.int p0), .val (.int p1), .val (.int p2), .val (.int p3), .val (.int p4), .unset, .unset, .unset, .unset, .unset, .unset, .unset, .unset] [(.int (7 : Int32)), (.int p0)])) _
    refine XS.iand X0.here hx rfl (hb hby at_3) rfl ?_
    show Steps p.tables e below (s₁.setTop (mkF m 4 #[.val (.int p0), .val (.int p1), .val (.int p2), .val (.int p3), .val (.int p4), .unset, .unset, .unset, .unset, .unset, .unset, .unset, .unset] [(.int (p0 &&& (7 : Int32)))])) _
    refine XS.iconst X0.here hx rfl (hb hby at_4) ?_
    show Steps p.tables e below (s₁.setTop (mkF m 5 #[.val (.int p0), .val (.int p1), .val (.int p2), .val (.int p3), .val (.int p4), .unset, .unset, .unset, .unset, .unset, .unset, .unset, .unset] [(.int (5 : Int32)), (.int (p0 &&& (7 : Int32)))])) _
    refine iremM X0 hx rfl (hb hby at_5) rfl (by decide) ?_
    show Steps p.tables e below (s₁.setTop (mkF m 6 #[.val (.int p0), .val (.int p1), .val (.int p2), .val (.int p3), .val (.int p4), .unset, .unset, .unset, .unset, .unset, .unset, .unset, .unset] [(.int ((p0 &&& (7 : Int32)) % (5 : Int32)))])) _
    refine XS.istore X0.here hx rfl (hb hby at_6) rfl (l' := #[.val (.int p0), .val (.int p1), .val (.int p2), .val (.int p3), .val (.int p4), .val (.int ((p0 &&& (7 : Int32)) % (5 : Int32))), .unset, .unset, .unset, .unset, .unset, .unset, .unset]) rfl ?_
    show Steps p.tables e below (s₁.setTop (mkF m 8 #[.val (.int p0), .val (.int p1), .val (.int p2), .val (.int p3), .val (.int p4), .val (.int ((p0 &&& (7 : Int32)) % (5 : Int32))), .unset, .unset, .unset, .unset, .unset, .unset, .unset] [])) _
    exact kZ
  rcases own_75 p0 with hi | hi | hi | hi | hi
  · rw [hi]
    show Go p e below _ (s₁.setTop (mkF m 8 #[.val (.int p0), .val (.int p1), .val (.int p2), .val (.int p3), .val (.int p4), .val (.int (0 : Int32)), .unset, .unset, .unset, .unset, .unset, .unset, .unset] []))
    refine Go.via (T' := s₁.setTop (mkF m 72 #[.val (.int p0), .val (.int p1), .val (.int p2), .val (.int p3), .val (.int p4), .val (.int (0 : Int32)), .val (.int (w0_0 p0 p1)), .val (.int (w0_1 p0 p2)), .val (.int (w0_2 p0 p3)), .val (.int (w0_3 p0 p4)), .unset, .unset, .unset] [(.int (0 : Int32))])) (fun tZ kZ => ?_) ?_
    · show Steps p.tables e below (s₁.setTop (mkF m 8 #[.val (.int p0), .val (.int p1), .val (.int p2), .val (.int p3), .val (.int p4), .val (.int (0 : Int32)), .unset, .unset, .unset, .unset, .unset, .unset, .unset] [])) _
      refine XS.iloadN X0.here hx rfl (hb hby at_8) rfl ?_
      show Steps p.tables e below (s₁.setTop (mkF m 9 #[.val (.int p0), .val (.int p1), .val (.int p2), .val (.int p3), .val (.int p4), .val (.int (0 : Int32)), .unset, .unset, .unset, .unset, .unset, .unset, .unset] [(.int p0)])) _
      refine XS.iconst X0.here hx rfl (hb hby at_9) ?_
      show Steps p.tables e below (s₁.setTop (mkF m 10 #[.val (.int p0), .val (.int p1), .val (.int p2), .val (.int p3), .val (.int p4), .val (.int (0 : Int32)), .unset, .unset, .unset, .unset, .unset, .unset, .unset] [(.int (3 : Int32)), (.int p0)])) _
      refine XS.iushr X0.here hx rfl (hb hby at_10) rfl ?_
      show Steps p.tables e below (s₁.setTop (mkF m 11 #[.val (.int p0), .val (.int p1), .val (.int p2), .val (.int p3), .val (.int p4), .val (.int (0 : Int32)), .unset, .unset, .unset, .unset, .unset, .unset, .unset] [(.int ((p0.toUInt32 >>> ((3 : Int32) &&& 31).toUInt32).toInt32))])) _
      refine XS.iconst X0.here hx rfl (hb hby at_11) ?_
      show Steps p.tables e below (s₁.setTop (mkF m 12 #[.val (.int p0), .val (.int p1), .val (.int p2), .val (.int p3), .val (.int p4), .val (.int (0 : Int32)), .unset, .unset, .unset, .unset, .unset, .unset, .unset] [(.int (1 : Int32)), (.int ((p0.toUInt32 >>> ((3 : Int32) &&& 31).toUInt32).toInt32))])) _
      refine XS.iand X0.here hx rfl (hb hby at_12) rfl ?_
      show Steps p.tables e below (s₁.setTop (mkF m 13 #[.val (.int p0), .val (.int p1), .val (.int p2), .val (.int p3), .val (.int p4), .val (.int (0 : Int32)), .unset, .unset, .unset, .unset, .unset, .unset, .unset] [(.int (((p0.toUInt32 >>> ((3 : Int32) &&& 31).toUInt32).toInt32) &&& (1 : Int32)))])) _
      have sg13 : Steps p.tables e below (s₁.setTop (mkF m 21 #[.val (.int p0), .val (.int p1), .val (.int p2), .val (.int p3), .val (.int p4), .val (.int (0 : Int32)), .unset, .unset, .unset, .unset, .unset, .unset, .unset] [(.int (if (((p0.toUInt32 >>> ((3 : Int32) &&& 31).toUInt32).toInt32) &&& (1 : Int32)) = (0 : Int32) then p1 else (1 : Int32)))])) tZ → Steps p.tables e below (s₁.setTop (mkF m 13 #[.val (.int p0), .val (.int p1), .val (.int p2), .val (.int p3), .val (.int p4), .val (.int (0 : Int32)), .unset, .unset, .unset, .unset, .unset, .unset, .unset] [(.int (((p0.toUInt32 >>> ((3 : Int32) &&& 31).toUInt32).toInt32) &&& (1 : Int32)))])) tZ := by
        intro kj
        by_cases hc13 : (((p0.toUInt32 >>> ((3 : Int32) &&& 31).toUInt32).toInt32) &&& (1 : Int32)) = (0 : Int32)
        · try simp only [if_pos hc13] at kj
          refine XS.ifYes X0.here hx rfl (pc0 := 13) (pc' := 20) rfl (hb hby at_13) rfl ((if0 _ _).trans (teq hc13).1) (by decide) (by decide) ?_
          show Steps p.tables e below (s₁.setTop (mkF m 20 #[.val (.int p0), .val (.int p1), .val (.int p2), .val (.int p3), .val (.int p4), .val (.int (0 : Int32)), .unset, .unset, .unset, .unset, .unset, .unset, .unset] [])) _
          refine XS.iloadN X0.here hx rfl (hb hby at_20) rfl ?_
          show Steps p.tables e below (s₁.setTop (mkF m 21 #[.val (.int p0), .val (.int p1), .val (.int p2), .val (.int p3), .val (.int p4), .val (.int (0 : Int32)), .unset, .unset, .unset, .unset, .unset, .unset, .unset] [(.int p1)])) _
          exact kj
        · try simp only [if_neg hc13] at kj
          refine XS.ifNo X0.here hx rfl (hb hby at_13) rfl ((if0 _ _).trans (feq hc13).1) ?_
          show Steps p.tables e below (s₁.setTop (mkF m 16 #[.val (.int p0), .val (.int p1), .val (.int p2), .val (.int p3), .val (.int p4), .val (.int (0 : Int32)), .unset, .unset, .unset, .unset, .unset, .unset, .unset] [])) _
          refine XS.iconst X0.here hx rfl (hb hby at_16) ?_
          show Steps p.tables e below (s₁.setTop (mkF m 17 #[.val (.int p0), .val (.int p1), .val (.int p2), .val (.int p3), .val (.int p4), .val (.int (0 : Int32)), .unset, .unset, .unset, .unset, .unset, .unset, .unset] [(.int (1 : Int32))])) _
          refine XS.goto X0.here hx rfl (pc0 := 17) (pc' := 21) rfl (hb hby at_17) (by decide) (by decide) ?_
          show Steps p.tables e below (s₁.setTop (mkF m 21 #[.val (.int p0), .val (.int p1), .val (.int p2), .val (.int p3), .val (.int p4), .val (.int (0 : Int32)), .unset, .unset, .unset, .unset, .unset, .unset, .unset] [(.int (1 : Int32))])) _
          exact kj
      refine sg13 ?_
      show Steps p.tables e below (s₁.setTop (mkF m 21 #[.val (.int p0), .val (.int p1), .val (.int p2), .val (.int p3), .val (.int p4), .val (.int (0 : Int32)), .unset, .unset, .unset, .unset, .unset, .unset, .unset] [(.int (w0_0 p0 p1))])) _
      refine XS.istore X0.here hx rfl (hb hby at_21) rfl (l' := #[.val (.int p0), .val (.int p1), .val (.int p2), .val (.int p3), .val (.int p4), .val (.int (0 : Int32)), .val (.int (w0_0 p0 p1)), .unset, .unset, .unset, .unset, .unset, .unset]) rfl ?_
      show Steps p.tables e below (s₁.setTop (mkF m 23 #[.val (.int p0), .val (.int p1), .val (.int p2), .val (.int p3), .val (.int p4), .val (.int (0 : Int32)), .val (.int (w0_0 p0 p1)), .unset, .unset, .unset, .unset, .unset, .unset] [])) _
      refine XS.iloadN X0.here hx rfl (hb hby at_23) rfl ?_
      show Steps p.tables e below (s₁.setTop (mkF m 24 #[.val (.int p0), .val (.int p1), .val (.int p2), .val (.int p3), .val (.int p4), .val (.int (0 : Int32)), .val (.int (w0_0 p0 p1)), .unset, .unset, .unset, .unset, .unset, .unset] [(.int p0)])) _
      refine XS.iconst X0.here hx rfl (hb hby at_24) ?_
      show Steps p.tables e below (s₁.setTop (mkF m 25 #[.val (.int p0), .val (.int p1), .val (.int p2), .val (.int p3), .val (.int p4), .val (.int (0 : Int32)), .val (.int (w0_0 p0 p1)), .unset, .unset, .unset, .unset, .unset, .unset] [(.int (4 : Int32)), (.int p0)])) _
      refine XS.iushr X0.here hx rfl (hb hby at_25) rfl ?_
      show Steps p.tables e below (s₁.setTop (mkF m 26 #[.val (.int p0), .val (.int p1), .val (.int p2), .val (.int p3), .val (.int p4), .val (.int (0 : Int32)), .val (.int (w0_0 p0 p1)), .unset, .unset, .unset, .unset, .unset, .unset] [(.int ((p0.toUInt32 >>> ((4 : Int32) &&& 31).toUInt32).toInt32))])) _
      refine XS.iconst X0.here hx rfl (hb hby at_26) ?_
      show Steps p.tables e below (s₁.setTop (mkF m 27 #[.val (.int p0), .val (.int p1), .val (.int p2), .val (.int p3), .val (.int p4), .val (.int (0 : Int32)), .val (.int (w0_0 p0 p1)), .unset, .unset, .unset, .unset, .unset, .unset] [(.int (1 : Int32)), (.int ((p0.toUInt32 >>> ((4 : Int32) &&& 31).toUInt32).toInt32))])) _
      refine XS.iand X0.here hx rfl (hb hby at_27) rfl ?_
      show Steps p.tables e below (s₁.setTop (mkF m 28 #[.val (.int p0), .val (.int p1), .val (.int p2), .val (.int p3), .val (.int p4), .val (.int (0 : Int32)), .val (.int (w0_0 p0 p1)), .unset, .unset, .unset, .unset, .unset, .unset] [(.int (((p0.toUInt32 >>> ((4 : Int32) &&& 31).toUInt32).toInt32) &&& (1 : Int32)))])) _
      have sg28 : Steps p.tables e below (s₁.setTop (mkF m 36 #[.val (.int p0), .val (.int p1), .val (.int p2), .val (.int p3), .val (.int p4), .val (.int (0 : Int32)), .val (.int (w0_0 p0 p1)), .unset, .unset, .unset, .unset, .unset, .unset] [(.int (if (((p0.toUInt32 >>> ((4 : Int32) &&& 31).toUInt32).toInt32) &&& (1 : Int32)) = (0 : Int32) then p2 else (1 : Int32)))])) tZ → Steps p.tables e below (s₁.setTop (mkF m 28 #[.val (.int p0), .val (.int p1), .val (.int p2), .val (.int p3), .val (.int p4), .val (.int (0 : Int32)), .val (.int (w0_0 p0 p1)), .unset, .unset, .unset, .unset, .unset, .unset] [(.int (((p0.toUInt32 >>> ((4 : Int32) &&& 31).toUInt32).toInt32) &&& (1 : Int32)))])) tZ := by
        intro kj
        by_cases hc28 : (((p0.toUInt32 >>> ((4 : Int32) &&& 31).toUInt32).toInt32) &&& (1 : Int32)) = (0 : Int32)
        · try simp only [if_pos hc28] at kj
          refine XS.ifYes X0.here hx rfl (pc0 := 28) (pc' := 35) rfl (hb hby at_28) rfl ((if0 _ _).trans (teq hc28).1) (by decide) (by decide) ?_
          show Steps p.tables e below (s₁.setTop (mkF m 35 #[.val (.int p0), .val (.int p1), .val (.int p2), .val (.int p3), .val (.int p4), .val (.int (0 : Int32)), .val (.int (w0_0 p0 p1)), .unset, .unset, .unset, .unset, .unset, .unset] [])) _
          refine XS.iloadN X0.here hx rfl (hb hby at_35) rfl ?_
          show Steps p.tables e below (s₁.setTop (mkF m 36 #[.val (.int p0), .val (.int p1), .val (.int p2), .val (.int p3), .val (.int p4), .val (.int (0 : Int32)), .val (.int (w0_0 p0 p1)), .unset, .unset, .unset, .unset, .unset, .unset] [(.int p2)])) _
          exact kj
        · try simp only [if_neg hc28] at kj
          refine XS.ifNo X0.here hx rfl (hb hby at_28) rfl ((if0 _ _).trans (feq hc28).1) ?_
          show Steps p.tables e below (s₁.setTop (mkF m 31 #[.val (.int p0), .val (.int p1), .val (.int p2), .val (.int p3), .val (.int p4), .val (.int (0 : Int32)), .val (.int (w0_0 p0 p1)), .unset, .unset, .unset, .unset, .unset, .unset] [])) _
          refine XS.iconst X0.here hx rfl (hb hby at_31) ?_
          show Steps p.tables e below (s₁.setTop (mkF m 32 #[.val (.int p0), .val (.int p1), .val (.int p2), .val (.int p3), .val (.int p4), .val (.int (0 : Int32)), .val (.int (w0_0 p0 p1)), .unset, .unset, .unset, .unset, .unset, .unset] [(.int (1 : Int32))])) _
          refine XS.goto X0.here hx rfl (pc0 := 32) (pc' := 36) rfl (hb hby at_32) (by decide) (by decide) ?_
          show Steps p.tables e below (s₁.setTop (mkF m 36 #[.val (.int p0), .val (.int p1), .val (.int p2), .val (.int p3), .val (.int p4), .val (.int (0 : Int32)), .val (.int (w0_0 p0 p1)), .unset, .unset, .unset, .unset, .unset, .unset] [(.int (1 : Int32))])) _
          exact kj
      refine sg28 ?_
      show Steps p.tables e below (s₁.setTop (mkF m 36 #[.val (.int p0), .val (.int p1), .val (.int p2), .val (.int p3), .val (.int p4), .val (.int (0 : Int32)), .val (.int (w0_0 p0 p1)), .unset, .unset, .unset, .unset, .unset, .unset] [(.int (w0_1 p0 p2))])) _
      refine XS.istore X0.here hx rfl (hb hby at_36) rfl (l' := #[.val (.int p0), .val (.int p1), .val (.int p2), .val (.int p3), .val (.int p4), .val (.int (0 : Int32)), .val (.int (w0_0 p0 p1)), .val (.int (w0_1 p0 p2)), .unset, .unset, .unset, .unset, .unset]) rfl ?_
      show Steps p.tables e below (s₁.setTop (mkF m 38 #[.val (.int p0), .val (.int p1), .val (.int p2), .val (.int p3), .val (.int p4), .val (.int (0 : Int32)), .val (.int (w0_0 p0 p1)), .val (.int (w0_1 p0 p2)), .unset, .unset, .unset, .unset, .unset] [])) _
      refine XS.iloadN X0.here hx rfl (hb hby at_38) rfl ?_
      show Steps p.tables e below (s₁.setTop (mkF m 39 #[.val (.int p0), .val (.int p1), .val (.int p2), .val (.int p3), .val (.int p4), .val (.int (0 : Int32)), .val (.int (w0_0 p0 p1)), .val (.int (w0_1 p0 p2)), .unset, .unset, .unset, .unset, .unset] [(.int p0)])) _
      refine XS.iconst X0.here hx rfl (hb hby at_39) ?_
      show Steps p.tables e below (s₁.setTop (mkF m 40 #[.val (.int p0), .val (.int p1), .val (.int p2), .val (.int p3), .val (.int p4), .val (.int (0 : Int32)), .val (.int (w0_0 p0 p1)), .val (.int (w0_1 p0 p2)), .unset, .unset, .unset, .unset, .unset] [(.int (5 : Int32)), (.int p0)])) _
      refine XS.iushr X0.here hx rfl (hb hby at_40) rfl ?_
      show Steps p.tables e below (s₁.setTop (mkF m 41 #[.val (.int p0), .val (.int p1), .val (.int p2), .val (.int p3), .val (.int p4), .val (.int (0 : Int32)), .val (.int (w0_0 p0 p1)), .val (.int (w0_1 p0 p2)), .unset, .unset, .unset, .unset, .unset] [(.int ((p0.toUInt32 >>> ((5 : Int32) &&& 31).toUInt32).toInt32))])) _
      refine XS.iconst X0.here hx rfl (hb hby at_41) ?_
      show Steps p.tables e below (s₁.setTop (mkF m 42 #[.val (.int p0), .val (.int p1), .val (.int p2), .val (.int p3), .val (.int p4), .val (.int (0 : Int32)), .val (.int (w0_0 p0 p1)), .val (.int (w0_1 p0 p2)), .unset, .unset, .unset, .unset, .unset] [(.int (1 : Int32)), (.int ((p0.toUInt32 >>> ((5 : Int32) &&& 31).toUInt32).toInt32))])) _
      refine XS.iand X0.here hx rfl (hb hby at_42) rfl ?_
      show Steps p.tables e below (s₁.setTop (mkF m 43 #[.val (.int p0), .val (.int p1), .val (.int p2), .val (.int p3), .val (.int p4), .val (.int (0 : Int32)), .val (.int (w0_0 p0 p1)), .val (.int (w0_1 p0 p2)), .unset, .unset, .unset, .unset, .unset] [(.int (((p0.toUInt32 >>> ((5 : Int32) &&& 31).toUInt32).toInt32) &&& (1 : Int32)))])) _
      have sg43 : Steps p.tables e below (s₁.setTop (mkF m 51 #[.val (.int p0), .val (.int p1), .val (.int p2), .val (.int p3), .val (.int p4), .val (.int (0 : Int32)), .val (.int (w0_0 p0 p1)), .val (.int (w0_1 p0 p2)), .unset, .unset, .unset, .unset, .unset] [(.int (if (((p0.toUInt32 >>> ((5 : Int32) &&& 31).toUInt32).toInt32) &&& (1 : Int32)) = (0 : Int32) then p3 else (1 : Int32)))])) tZ → Steps p.tables e below (s₁.setTop (mkF m 43 #[.val (.int p0), .val (.int p1), .val (.int p2), .val (.int p3), .val (.int p4), .val (.int (0 : Int32)), .val (.int (w0_0 p0 p1)), .val (.int (w0_1 p0 p2)), .unset, .unset, .unset, .unset, .unset] [(.int (((p0.toUInt32 >>> ((5 : Int32) &&& 31).toUInt32).toInt32) &&& (1 : Int32)))])) tZ := by
        intro kj
        by_cases hc43 : (((p0.toUInt32 >>> ((5 : Int32) &&& 31).toUInt32).toInt32) &&& (1 : Int32)) = (0 : Int32)
        · try simp only [if_pos hc43] at kj
          refine XS.ifYes X0.here hx rfl (pc0 := 43) (pc' := 50) rfl (hb hby at_43) rfl ((if0 _ _).trans (teq hc43).1) (by decide) (by decide) ?_
          show Steps p.tables e below (s₁.setTop (mkF m 50 #[.val (.int p0), .val (.int p1), .val (.int p2), .val (.int p3), .val (.int p4), .val (.int (0 : Int32)), .val (.int (w0_0 p0 p1)), .val (.int (w0_1 p0 p2)), .unset, .unset, .unset, .unset, .unset] [])) _
          refine XS.iloadN X0.here hx rfl (hb hby at_50) rfl ?_
          show Steps p.tables e below (s₁.setTop (mkF m 51 #[.val (.int p0), .val (.int p1), .val (.int p2), .val (.int p3), .val (.int p4), .val (.int (0 : Int32)), .val (.int (w0_0 p0 p1)), .val (.int (w0_1 p0 p2)), .unset, .unset, .unset, .unset, .unset] [(.int p3)])) _
          exact kj
        · try simp only [if_neg hc43] at kj
          refine XS.ifNo X0.here hx rfl (hb hby at_43) rfl ((if0 _ _).trans (feq hc43).1) ?_
          show Steps p.tables e below (s₁.setTop (mkF m 46 #[.val (.int p0), .val (.int p1), .val (.int p2), .val (.int p3), .val (.int p4), .val (.int (0 : Int32)), .val (.int (w0_0 p0 p1)), .val (.int (w0_1 p0 p2)), .unset, .unset, .unset, .unset, .unset] [])) _
          refine XS.iconst X0.here hx rfl (hb hby at_46) ?_
          show Steps p.tables e below (s₁.setTop (mkF m 47 #[.val (.int p0), .val (.int p1), .val (.int p2), .val (.int p3), .val (.int p4), .val (.int (0 : Int32)), .val (.int (w0_0 p0 p1)), .val (.int (w0_1 p0 p2)), .unset, .unset, .unset, .unset, .unset] [(.int (1 : Int32))])) _
          refine XS.goto X0.here hx rfl (pc0 := 47) (pc' := 51) rfl (hb hby at_47) (by decide) (by decide) ?_
          show Steps p.tables e below (s₁.setTop (mkF m 51 #[.val (.int p0), .val (.int p1), .val (.int p2), .val (.int p3), .val (.int p4), .val (.int (0 : Int32)), .val (.int (w0_0 p0 p1)), .val (.int (w0_1 p0 p2)), .unset, .unset, .unset, .unset, .unset] [(.int (1 : Int32))])) _
          exact kj
      refine sg43 ?_
      show Steps p.tables e below (s₁.setTop (mkF m 51 #[.val (.int p0), .val (.int p1), .val (.int p2), .val (.int p3), .val (.int p4), .val (.int (0 : Int32)), .val (.int (w0_0 p0 p1)), .val (.int (w0_1 p0 p2)), .unset, .unset, .unset, .unset, .unset] [(.int (w0_2 p0 p3))])) _
      refine XS.istore X0.here hx rfl (hb hby at_51) rfl (l' := #[.val (.int p0), .val (.int p1), .val (.int p2), .val (.int p3), .val (.int p4), .val (.int (0 : Int32)), .val (.int (w0_0 p0 p1)), .val (.int (w0_1 p0 p2)), .val (.int (w0_2 p0 p3)), .unset, .unset, .unset, .unset]) rfl ?_
      show Steps p.tables e below (s₁.setTop (mkF m 53 #[.val (.int p0), .val (.int p1), .val (.int p2), .val (.int p3), .val (.int p4), .val (.int (0 : Int32)), .val (.int (w0_0 p0 p1)), .val (.int (w0_1 p0 p2)), .val (.int (w0_2 p0 p3)), .unset, .unset, .unset, .unset] [])) _
      refine XS.iloadN X0.here hx rfl (hb hby at_53) rfl ?_
      show Steps p.tables e below (s₁.setTop (mkF m 54 #[.val (.int p0), .val (.int p1), .val (.int p2), .val (.int p3), .val (.int p4), .val (.int (0 : Int32)), .val (.int (w0_0 p0 p1)), .val (.int (w0_1 p0 p2)), .val (.int (w0_2 p0 p3)), .unset, .unset, .unset, .unset] [(.int p0)])) _
      refine XS.bipush X0.here hx rfl (hb hby at_54) ?_
      show Steps p.tables e below (s₁.setTop (mkF m 56 #[.val (.int p0), .val (.int p1), .val (.int p2), .val (.int p3), .val (.int p4), .val (.int (0 : Int32)), .val (.int (w0_0 p0 p1)), .val (.int (w0_1 p0 p2)), .val (.int (w0_2 p0 p3)), .unset, .unset, .unset, .unset] [(.int (6 : Int32)), (.int p0)])) _
      refine XS.iushr X0.here hx rfl (hb hby at_56) rfl ?_
      show Steps p.tables e below (s₁.setTop (mkF m 57 #[.val (.int p0), .val (.int p1), .val (.int p2), .val (.int p3), .val (.int p4), .val (.int (0 : Int32)), .val (.int (w0_0 p0 p1)), .val (.int (w0_1 p0 p2)), .val (.int (w0_2 p0 p3)), .unset, .unset, .unset, .unset] [(.int ((p0.toUInt32 >>> ((6 : Int32) &&& 31).toUInt32).toInt32))])) _
      refine XS.iconst X0.here hx rfl (hb hby at_57) ?_
      show Steps p.tables e below (s₁.setTop (mkF m 58 #[.val (.int p0), .val (.int p1), .val (.int p2), .val (.int p3), .val (.int p4), .val (.int (0 : Int32)), .val (.int (w0_0 p0 p1)), .val (.int (w0_1 p0 p2)), .val (.int (w0_2 p0 p3)), .unset, .unset, .unset, .unset] [(.int (1 : Int32)), (.int ((p0.toUInt32 >>> ((6 : Int32) &&& 31).toUInt32).toInt32))])) _
      refine XS.iand X0.here hx rfl (hb hby at_58) rfl ?_
      show Steps p.tables e below (s₁.setTop (mkF m 59 #[.val (.int p0), .val (.int p1), .val (.int p2), .val (.int p3), .val (.int p4), .val (.int (0 : Int32)), .val (.int (w0_0 p0 p1)), .val (.int (w0_1 p0 p2)), .val (.int (w0_2 p0 p3)), .unset, .unset, .unset, .unset] [(.int (((p0.toUInt32 >>> ((6 : Int32) &&& 31).toUInt32).toInt32) &&& (1 : Int32)))])) _
      have sg59 : Steps p.tables e below (s₁.setTop (mkF m 68 #[.val (.int p0), .val (.int p1), .val (.int p2), .val (.int p3), .val (.int p4), .val (.int (0 : Int32)), .val (.int (w0_0 p0 p1)), .val (.int (w0_1 p0 p2)), .val (.int (w0_2 p0 p3)), .unset, .unset, .unset, .unset] [(.int (if (((p0.toUInt32 >>> ((6 : Int32) &&& 31).toUInt32).toInt32) &&& (1 : Int32)) = (0 : Int32) then p4 else (1 : Int32)))])) tZ → Steps p.tables e below (s₁.setTop (mkF m 59 #[.val (.int p0), .val (.int p1), .val (.int p2), .val (.int p3), .val (.int p4), .val (.int (0 : Int32)), .val (.int (w0_0 p0 p1)), .val (.int (w0_1 p0 p2)), .val (.int (w0_2 p0 p3)), .unset, .unset, .unset, .unset] [(.int (((p0.toUInt32 >>> ((6 : Int32) &&& 31).toUInt32).toInt32) &&& (1 : Int32)))])) tZ := by
        intro kj
        by_cases hc59 : (((p0.toUInt32 >>> ((6 : Int32) &&& 31).toUInt32).toInt32) &&& (1 : Int32)) = (0 : Int32)
        · try simp only [if_pos hc59] at kj
          refine XS.ifYes X0.here hx rfl (pc0 := 59) (pc' := 66) rfl (hb hby at_59) rfl ((if0 _ _).trans (teq hc59).1) (by decide) (by decide) ?_
          show Steps p.tables e below (s₁.setTop (mkF m 66 #[.val (.int p0), .val (.int p1), .val (.int p2), .val (.int p3), .val (.int p4), .val (.int (0 : Int32)), .val (.int (w0_0 p0 p1)), .val (.int (w0_1 p0 p2)), .val (.int (w0_2 p0 p3)), .unset, .unset, .unset, .unset] [])) _
          refine XS.iload X0.here hx rfl (hb hby at_66) rfl ?_
          show Steps p.tables e below (s₁.setTop (mkF m 68 #[.val (.int p0), .val (.int p1), .val (.int p2), .val (.int p3), .val (.int p4), .val (.int (0 : Int32)), .val (.int (w0_0 p0 p1)), .val (.int (w0_1 p0 p2)), .val (.int (w0_2 p0 p3)), .unset, .unset, .unset, .unset] [(.int p4)])) _
          exact kj
        · try simp only [if_neg hc59] at kj
          refine XS.ifNo X0.here hx rfl (hb hby at_59) rfl ((if0 _ _).trans (feq hc59).1) ?_
          show Steps p.tables e below (s₁.setTop (mkF m 62 #[.val (.int p0), .val (.int p1), .val (.int p2), .val (.int p3), .val (.int p4), .val (.int (0 : Int32)), .val (.int (w0_0 p0 p1)), .val (.int (w0_1 p0 p2)), .val (.int (w0_2 p0 p3)), .unset, .unset, .unset, .unset] [])) _
          refine XS.iconst X0.here hx rfl (hb hby at_62) ?_
          show Steps p.tables e below (s₁.setTop (mkF m 63 #[.val (.int p0), .val (.int p1), .val (.int p2), .val (.int p3), .val (.int p4), .val (.int (0 : Int32)), .val (.int (w0_0 p0 p1)), .val (.int (w0_1 p0 p2)), .val (.int (w0_2 p0 p3)), .unset, .unset, .unset, .unset] [(.int (1 : Int32))])) _
          refine XS.goto X0.here hx rfl (pc0 := 63) (pc' := 68) rfl (hb hby at_63) (by decide) (by decide) ?_
          show Steps p.tables e below (s₁.setTop (mkF m 68 #[.val (.int p0), .val (.int p1), .val (.int p2), .val (.int p3), .val (.int p4), .val (.int (0 : Int32)), .val (.int (w0_0 p0 p1)), .val (.int (w0_1 p0 p2)), .val (.int (w0_2 p0 p3)), .unset, .unset, .unset, .unset] [(.int (1 : Int32))])) _
          exact kj
      refine sg59 ?_
      show Steps p.tables e below (s₁.setTop (mkF m 68 #[.val (.int p0), .val (.int p1), .val (.int p2), .val (.int p3), .val (.int p4), .val (.int (0 : Int32)), .val (.int (w0_0 p0 p1)), .val (.int (w0_1 p0 p2)), .val (.int (w0_2 p0 p3)), .unset, .unset, .unset, .unset] [(.int (w0_3 p0 p4))])) _
      refine XS.istore X0.here hx rfl (hb hby at_68) rfl (l' := #[.val (.int p0), .val (.int p1), .val (.int p2), .val (.int p3), .val (.int p4), .val (.int (0 : Int32)), .val (.int (w0_0 p0 p1)), .val (.int (w0_1 p0 p2)), .val (.int (w0_2 p0 p3)), .val (.int (w0_3 p0 p4)), .unset, .unset, .unset]) rfl ?_
      show Steps p.tables e below (s₁.setTop (mkF m 70 #[.val (.int p0), .val (.int p1), .val (.int p2), .val (.int p3), .val (.int p4), .val (.int (0 : Int32)), .val (.int (w0_0 p0 p1)), .val (.int (w0_1 p0 p2)), .val (.int (w0_2 p0 p3)), .val (.int (w0_3 p0 p4)), .unset, .unset, .unset] [])) _
      refine XS.iload X0.here hx rfl (hb hby at_70) rfl ?_
      show Steps p.tables e below (s₁.setTop (mkF m 72 #[.val (.int p0), .val (.int p1), .val (.int p2), .val (.int p3), .val (.int p4), .val (.int (0 : Int32)), .val (.int (w0_0 p0 p1)), .val (.int (w0_1 p0 p2)), .val (.int (w0_2 p0 p3)), .val (.int (w0_3 p0 p4)), .unset, .unset, .unset] [(.int (0 : Int32))])) _
      exact kZ
    obtain ⟨T1, h1, k1, X1, e1, E1, A1, B1, st1⟩ := newPE X0 hx hZ (hw _ (List.mem_of_getElem? (i := 0) rfl)) e0 (g := (mkF m 72 #[.val (.int p0), .val (.int p1), .val (.int p2), .val (.int p3), .val (.int p4), .val (.int (0 : Int32)), .val (.int (w0_0 p0 p1)), .val (.int (w0_1 p0 p2)), .val (.int (w0_2 p0 p3)), .val (.int (w0_3 p0 p4)), .unset, .unset, .unset] [(.int (0 : Int32))])) rfl (hb hby at_72) rfl (by decide) (cap := 0) (by decide) (by decide) (by decide) (by decide) (ad := "[I") rfl
    obtain ⟨b1, g1⟩ : ∃ z, z = h0.size := ⟨_, rfl⟩
    rw [← g1] at A1 B1 st1
    have g_b1 : n0 ≤ b1 := Nat.le_trans Z0 (Nat.le_of_eq g1.symm)
    have sz_b1 : h0.size ≤ b1 := Nat.le_trans ((Keep.refl h0 [])).1 (Nat.le_of_eq g1.symm)
    have c2_1 := ha1.ext E1
    have c2_0 := ha0.ext c2_1.2
    have K1 : Keep h0 h1 [] := (Keep.refl h0 []).ext E1
    have Z1 : n0 ≤ h1.size := Nat.le_trans Z0 E1.1
    have V1 : AV Z h1 b1 .int 0 (fun k => .int ((fun _ => (0 : Int32)) k)) := by have q := AV.new A1; exact q
    refine Go.via st1 ?_
    show Go p e below _ (T1.setTop (mkF m 74 #[.val (.int p0), .val (.int p1), .val (.int p2), .val (.int p3), .val (.int p4), .val (.int (0 : Int32)), .val (.int (w0_0 p0 p1)), .val (.int (w0_1 p0 p2)), .val (.int (w0_2 p0 p3)), .val (.int (w0_3 p0 p4)), .unset, .unset, .unset] [(.ref b1)]))
    refine Go.via (T' := T1.setTop (mkF m 123 #[.val (.int p0), .val (.int p1), .val (.int p2), .val (.int p3), .val (.int p4), .val (.int (0 : Int32)), .val (.int (w0_0 p0 p1)), .val (.int (w0_1 p0 p2)), .val (.int (w0_2 p0 p3)), .val (.int (w0_3 p0 p4)), .val (.ref b1), .unset, .unset] [])) (fun tZ kZ => ?_) ?_
    · show Steps p.tables e below (T1.setTop (mkF m 74 #[.val (.int p0), .val (.int p1), .val (.int p2), .val (.int p3), .val (.int p4), .val (.int (0 : Int32)), .val (.int (w0_0 p0 p1)), .val (.int (w0_1 p0 p2)), .val (.int (w0_2 p0 p3)), .val (.int (w0_3 p0 p4)), .unset, .unset, .unset] [(.ref b1)])) _
      refine XS.astore X1.here hx rfl (hb hby at_74) rfl rfl (l' := #[.val (.int p0), .val (.int p1), .val (.int p2), .val (.int p3), .val (.int p4), .val (.int (0 : Int32)), .val (.int (w0_0 p0 p1)), .val (.int (w0_1 p0 p2)), .val (.int (w0_2 p0 p3)), .val (.int (w0_3 p0 p4)), .val (.ref b1), .unset, .unset]) rfl ?_
      show Steps p.tables e below (T1.setTop (mkF m 76 #[.val (.int p0), .val (.int p1), .val (.int p2), .val (.int p3), .val (.int p4), .val (.int (0 : Int32)), .val (.int (w0_0 p0 p1)), .val (.int (w0_1 p0 p2)), .val (.int (w0_2 p0 p3)), .val (.int (w0_3 p0 p4)), .val (.ref b1), .unset, .unset] [])) _
      refine XS.iload X1.here hx rfl (hb hby at_76) rfl ?_
      show Steps p.tables e below (T1.setTop (mkF m 78 #[.val (.int p0), .val (.int p1), .val (.int p2), .val (.int p3), .val (.int p4), .val (.int (0 : Int32)), .val (.int (w0_0 p0 p1)), .val (.int (w0_1 p0 p2)), .val (.int (w0_2 p0 p3)), .val (.int (w0_3 p0 p4)), .val (.ref b1), .unset, .unset] [(.int (0 : Int32))])) _
      refine XS.ifYes X1.here hx rfl (pc0 := 78) (pc' := 87) rfl (hb hby at_78) rfl ((if0 _ _).trans (flt (by decide)).2.2.2) (by decide) (by decide) ?_
      show Steps p.tables e below (T1.setTop (mkF m 87 #[.val (.int p0), .val (.int p1), .val (.int p2), .val (.int p3), .val (.int p4), .val (.int (0 : Int32)), .val (.int (w0_0 p0 p1)), .val (.int (w0_1 p0 p2)), .val (.int (w0_2 p0 p3)), .val (.int (w0_3 p0 p4)), .val (.ref b1), .unset, .unset] [])) _
      refine XS.iload X1.here hx rfl (hb hby at_87) rfl ?_
      show Steps p.tables e below (T1.setTop (mkF m 89 #[.val (.int p0), .val (.int p1), .val (.int p2), .val (.int p3), .val (.int p4), .val (.int (0 : Int32)), .val (.int (w0_0 p0 p1)), .val (.int (w0_1 p0 p2)), .val (.int (w0_2 p0 p3)), .val (.int (w0_3 p0 p4)), .val (.ref b1), .unset, .unset] [(.int (0 : Int32))])) _
      refine XS.iconst X1.here hx rfl (hb hby at_89) ?_
      show Steps p.tables e below (T1.setTop (mkF m 90 #[.val (.int p0), .val (.int p1), .val (.int p2), .val (.int p3), .val (.int p4), .val (.int (0 : Int32)), .val (.int (w0_0 p0 p1)), .val (.int (w0_1 p0 p2)), .val (.int (w0_2 p0 p3)), .val (.int (w0_3 p0 p4)), .val (.ref b1), .unset, .unset] [(.int (1 : Int32)), (.int (0 : Int32))])) _
      refine XS.icmpYes X1.here hx rfl (pc0 := 90) (pc' := 99) rfl (hb hby at_90) rfl (flt (by decide)).2.2.2 (by decide) (by decide) ?_
      show Steps p.tables e below (T1.setTop (mkF m 99 #[.val (.int p0), .val (.int p1), .val (.int p2), .val (.int p3), .val (.int p4), .val (.int (0 : Int32)), .val (.int (w0_0 p0 p1)), .val (.int (w0_1 p0 p2)), .val (.int (w0_2 p0 p3)), .val (.int (w0_3 p0 p4)), .val (.ref b1), .unset, .unset] [])) _
      refine XS.iload X1.here hx rfl (hb hby at_99) rfl ?_
      show Steps p.tables e below (T1.setTop (mkF m 101 #[.val (.int p0), .val (.int p1), .val (.int p2), .val (.int p3), .val (.int p4), .val (.int (0 : Int32)), .val (.int (w0_0 p0 p1)), .val (.int (w0_1 p0 p2)), .val (.int (w0_2 p0 p3)), .val (.int (w0_3 p0 p4)), .val (.ref b1), .unset, .unset] [(.int (0 : Int32))])) _
      refine XS.iconst X1.here hx rfl (hb hby at_101) ?_
      show Steps p.tables e below (T1.setTop (mkF m 102 #[.val (.int p0), .val (.int p1), .val (.int p2), .val (.int p3), .val (.int p4), .val (.int (0 : Int32)), .val (.int (w0_0 p0 p1)), .val (.int (w0_1 p0 p2)), .val (.int (w0_2 p0 p3)), .val (.int (w0_3 p0 p4)), .val (.ref b1), .unset, .unset] [(.int (2 : Int32)), (.int (0 : Int32))])) _
      refine XS.icmpYes X1.here hx rfl (pc0 := 102) (pc' := 111) rfl (hb hby at_102) rfl (flt (by decide)).2.2.2 (by decide) (by decide) ?_
      show Steps p.tables e below (T1.setTop (mkF m 111 #[.val (.int p0), .val (.int p1), .val (.int p2), .val (.int p3), .val (.int p4), .val (.int (0 : Int32)), .val (.int (w0_0 p0 p1)), .val (.int (w0_1 p0 p2)), .val (.int (w0_2 p0 p3)), .val (.int (w0_3 p0 p4)), .val (.ref b1), .unset, .unset] [])) _
      refine XS.iload X1.here hx rfl (hb hby at_111) rfl ?_
      show Steps p.tables e below (T1.setTop (mkF m 113 #[.val (.int p0), .val (.int p1), .val (.int p2), .val (.int p3), .val (.int p4), .val (.int (0 : Int32)), .val (.int (w0_0 p0 p1)), .val (.int (w0_1 p0 p2)), .val (.int (w0_2 p0 p3)), .val (.int (w0_3 p0 p4)), .val (.ref b1), .unset, .unset] [(.int (0 : Int32))])) _
      refine XS.iconst X1.here hx rfl (hb hby at_113) ?_
      show Steps p.tables e below (T1.setTop (mkF m 114 #[.val (.int p0), .val (.int p1), .val (.int p2), .val (.int p3), .val (.int p4), .val (.int (0 : Int32)), .val (.int (w0_0 p0 p1)), .val (.int (w0_1 p0 p2)), .val (.int (w0_2 p0 p3)), .val (.int (w0_3 p0 p4)), .val (.ref b1), .unset, .unset] [(.int (3 : Int32)), (.int (0 : Int32))])) _
      refine XS.icmpYes X1.here hx rfl (pc0 := 114) (pc' := 123) rfl (hb hby at_114) rfl (flt (by decide)).2.2.2 (by decide) (by decide) ?_
      show Steps p.tables e below (T1.setTop (mkF m 123 #[.val (.int p0), .val (.int p1), .val (.int p2), .val (.int p3), .val (.int p4), .val (.int (0 : Int32)), .val (.int (w0_0 p0 p1)), .val (.int (w0_1 p0 p2)), .val (.int (w0_2 p0 p3)), .val (.int (w0_3 p0 p4)), .val (.ref b1), .unset, .unset] [])) _
      exact kZ
    obtain ⟨T3, h3, X3, e3, E3, A3, D3, -, st3⟩ := newO X1 hx hZ hown (hw _ (List.mem_of_getElem? (i := 1) rfl)) (hw _ (List.mem_of_getElem? (i := 2) rfl)) (hw _ (List.mem_of_getElem? (i := 3) rfl)) e1 (g := (mkF m 123 #[.val (.int p0), .val (.int p1), .val (.int p2), .val (.int p3), .val (.int p4), .val (.int (0 : Int32)), .val (.int (w0_0 p0 p1)), .val (.int (w0_1 p0 p2)), .val (.int (w0_2 p0 p3)), .val (.int (w0_3 p0 p4)), .val (.ref b1), .unset, .unset] [])) rfl (hb hby at_123) (by decide) (by decide)
    obtain ⟨b3, g3⟩ : ∃ z, z = h1.size := ⟨_, rfl⟩
    rw [← g3] at A3 D3 st3
    have g_b3 : n0 ≤ b3 := Nat.le_trans Z1 (Nat.le_of_eq g3.symm)
    have sz_b3 : h0.size ≤ b3 := Nat.le_trans (K1).1 (Nat.le_of_eq g3.symm)
    have ne_b1_b3 : b1 ≠ b3 := Nat.ne_of_lt (Nat.lt_of_lt_of_le B1.lt (Nat.le_of_eq g3.symm))
    have c4_1 := c2_1.ext E3
    have c4_0 := ha0.ext c4_1.2
    have c4_3 := B1.ext E3
    have c4_4 := V1.ext E3
    have K3 : Keep h0 h3 [] := K1.ext E3
    have Z3 : n0 ≤ h3.size := Nat.le_trans Z1 E3.1
    have F3_transitions : Fld Z h3 b3 "com/example/ltlconv/ltlconv/dra/RabinDraft" "transitions" "Ljava/util/List;" .null := D3 (Or.inr (hw _ (List.mem_of_getElem? (i := 35) rfl))) (ty := (.object "java/util/List")) (by decide)
    have F3_infiniteCounts : Fld Z h3 b3 "com/example/ltlconv/ltlconv/dra/RabinDraft" "infiniteCounts" "[I" .null := D3 (Or.inr (hw _ (List.mem_of_getElem? (i := 46) rfl))) (ty := (.array .int)) (by decide)
    have F3_finiteSets : Fld Z h3 b3 "com/example/ltlconv/ltlconv/dra/RabinDraft" "finiteSets" "[I" .null := D3 (Or.inr (hw _ (List.mem_of_getElem? (i := 48) rfl))) (ty := (.array .int)) (by decide)
    refine Go.via st3 ?_
    show Go p e below _ (T3.setTop (mkF m 126 #[.val (.int p0), .val (.int p1), .val (.int p2), .val (.int p3), .val (.int p4), .val (.int (0 : Int32)), .val (.int (w0_0 p0 p1)), .val (.int (w0_1 p0 p2)), .val (.int (w0_2 p0 p3)), .val (.int (w0_3 p0 p4)), .val (.ref b1), .unset, .unset] [(.ref b3)]))
    refine Go.via (T' := T3.setTop (mkF m 129 #[.val (.int p0), .val (.int p1), .val (.int p2), .val (.int p3), .val (.int p4), .val (.int (0 : Int32)), .val (.int (w0_0 p0 p1)), .val (.int (w0_1 p0 p2)), .val (.int (w0_2 p0 p3)), .val (.int (w0_3 p0 p4)), .val (.ref b1), .unset, .unset] [(.ref b1), (.ref b3), (.ref b3)])) (fun tZ kZ => ?_) ?_
    · show Steps p.tables e below (T3.setTop (mkF m 126 #[.val (.int p0), .val (.int p1), .val (.int p2), .val (.int p3), .val (.int p4), .val (.int (0 : Int32)), .val (.int (w0_0 p0 p1)), .val (.int (w0_1 p0 p2)), .val (.int (w0_2 p0 p3)), .val (.int (w0_3 p0 p4)), .val (.ref b1), .unset, .unset] [(.ref b3)])) _
      refine XS.dup X3.here hx rfl (hb hby at_126) rfl rfl ?_
      show Steps p.tables e below (T3.setTop (mkF m 127 #[.val (.int p0), .val (.int p1), .val (.int p2), .val (.int p3), .val (.int p4), .val (.int (0 : Int32)), .val (.int (w0_0 p0 p1)), .val (.int (w0_1 p0 p2)), .val (.int (w0_2 p0 p3)), .val (.int (w0_3 p0 p4)), .val (.ref b1), .unset, .unset] [(.ref b3), (.ref b3)])) _
      refine XS.aload X3.here hx rfl (hb hby at_127) rfl rfl ?_
      show Steps p.tables e below (T3.setTop (mkF m 129 #[.val (.int p0), .val (.int p1), .val (.int p2), .val (.int p3), .val (.int p4), .val (.int (0 : Int32)), .val (.int (w0_0 p0 p1)), .val (.int (w0_1 p0 p2)), .val (.int (w0_2 p0 p3)), .val (.int (w0_3 p0 p4)), .val (.ref b1), .unset, .unset] [(.ref b1), (.ref b3), (.ref b3)])) _
      exact kZ
    obtain ⟨_, _, ⟨T5, L5, k5, n5⟩, -, X5, ⟨Lc5, hQ5, l5, y5, z5⟩, st5⟩ := X3.specialBack hx (y := (⟨"com/example/ltlconv/ltlconv/dra/RabinDraft", "<init>", "([I)V"⟩ : MethodName)) rfl hown (mvT hZ (hw _ (List.mem_of_getElem? (i := 4) rfl))) (mvT hZ (hw _ (List.mem_of_getElem? (i := 5) rfl))) (mvT hZ (hw _ (List.mem_of_getElem? (i := 6) rfl))) (by decide) (backOf (W := 1) (rm1n0 l Z a0 hw [] b3 b1 (fun _ => (0 : Int32)) aD h3 n0 Z3 A3 F3_transitions F3_infiniteCounts F3_finiteSets g_b3 c4_4 c4_3 c4_0 (Ne.symm ne_b1_b3)) hZ (hw _ (List.mem_of_getElem? (i := 6) rfl)) (hw _ (List.mem_of_getElem? (i := 3) rfl)) (by decide) (by decide)) (g := (mkF m 129 #[.val (.int p0), .val (.int p1), .val (.int p2), .val (.int p3), .val (.int p4), .val (.int (0 : Int32)), .val (.int (w0_0 p0 p1)), .val (.int (w0_1 p0 p2)), .val (.int (w0_2 p0 p3)), .val (.int (w0_3 p0 p4)), .val (.ref b1), .unset, .unset] [(.ref b1), (.ref b3), (.ref b3)])) rfl (by rw [hml]; rfl) (Steps.refl _) (a := b3) (argsL := [(.ref b1)]) (rest := [(.ref b3)]) (lenOf pd_0 rfl) rfl (by show 2 * 0 + _ ≤ _; exact Nat.le_of_eq rfl) (hb hby at_129) (fun _ _ => ⟨rfl, e3, (by decide : 0 + 1 + 1 + 3 ≤ _), (by decide : 0 + 0 + 4 + 3 ≤ _)⟩)
    dsimp only [Pt.U, Pt.locs, Pt.cells, Pt.slots] at X5 l5 y5 z5 st5 hQ5
    subst l5 y5 z5
    obtain ⟨rfl, N5q, b5_0, hz_b5_0, Kq5, f5_0, f5_1, f5_2, f5_3, f5_4, f5_5, f5_6⟩ := hQ5
    have g_b5_0 : n0 ≤ b5_0 := Nat.le_trans Z3 hz_b5_0
    have sz_b5_0 : h0.size ≤ b5_0 := Nat.le_trans (K3).1 hz_b5_0
    have ne_b1_b5_0 : b1 ≠ b5_0 := Nat.ne_of_lt (Nat.lt_of_lt_of_le c4_3.lt hz_b5_0)
    have ne_b3_b5_0 : b3 ≠ b5_0 := Nat.ne_of_lt (Nat.lt_of_lt_of_le A3.lt hz_b5_0)
    have c6_1 := c4_1.keep Kq5 (allS g_b3 all0)
    have K5 : Keep h0 T5.heap [] := K3.trans Kq5 (allS (Or.inr sz_b3) all0)
    have Z5 : n0 ≤ T5.heap.size := Nat.le_trans Z3 Kq5.1
    have N5 := Fr.app N0 N5q
    refine Go.via (fun t k => st5.trans k) ?_
    show Go p e below _ (T5.setTop (mkF m 132 #[.val (.int p0), .val (.int p1), .val (.int p2), .val (.int p3), .val (.int p4), .val (.int (0 : Int32)), .val (.int (w0_0 p0 p1)), .val (.int (w0_1 p0 p2)), .val (.int (w0_2 p0 p3)), .val (.int (w0_3 p0 p4)), .val (.ref b1), .unset, .unset] [(.ref b3)]))
    refine Go.via (T' := T5.setTop (mkF m 191 #[.val (.int p0), .val (.int p1), .val (.int p2), .val (.int p3), .val (.int p4), .val (.int (0 : Int32)), .val (.int (w0_0 p0 p1)), .val (.int (w0_1 p0 p2)), .val (.int (w0_2 p0 p3)), .val (.int (w0_3 p0 p4)), .val (.ref b1), .val (.ref b3), .val (.int (1 : Int32))] [(.ref b3)])) (fun tZ kZ => ?_) ?_
    · show Steps p.tables e below (T5.setTop (mkF m 132 #[.val (.int p0), .val (.int p1), .val (.int p2), .val (.int p3), .val (.int p4), .val (.int (0 : Int32)), .val (.int (w0_0 p0 p1)), .val (.int (w0_1 p0 p2)), .val (.int (w0_2 p0 p3)), .val (.int (w0_3 p0 p4)), .val (.ref b1), .unset, .unset] [(.ref b3)])) _
      refine XS.astore X5.here hx rfl (hb hby at_132) rfl rfl (l' := #[.val (.int p0), .val (.int p1), .val (.int p2), .val (.int p3), .val (.int p4), .val (.int (0 : Int32)), .val (.int (w0_0 p0 p1)), .val (.int (w0_1 p0 p2)), .val (.int (w0_2 p0 p3)), .val (.int (w0_3 p0 p4)), .val (.ref b1), .val (.ref b3), .unset]) rfl ?_
      show Steps p.tables e below (T5.setTop (mkF m 134 #[.val (.int p0), .val (.int p1), .val (.int p2), .val (.int p3), .val (.int p4), .val (.int (0 : Int32)), .val (.int (w0_0 p0 p1)), .val (.int (w0_1 p0 p2)), .val (.int (w0_2 p0 p3)), .val (.int (w0_3 p0 p4)), .val (.ref b1), .val (.ref b3), .unset] [])) _
      refine XS.iload X5.here hx rfl (hb hby at_134) rfl ?_
      show Steps p.tables e below (T5.setTop (mkF m 136 #[.val (.int p0), .val (.int p1), .val (.int p2), .val (.int p3), .val (.int p4), .val (.int (0 : Int32)), .val (.int (w0_0 p0 p1)), .val (.int (w0_1 p0 p2)), .val (.int (w0_2 p0 p3)), .val (.int (w0_3 p0 p4)), .val (.ref b1), .val (.ref b3), .unset] [(.int (0 : Int32))])) _
      refine XS.iconst X5.here hx rfl (hb hby at_136) ?_
      show Steps p.tables e below (T5.setTop (mkF m 137 #[.val (.int p0), .val (.int p1), .val (.int p2), .val (.int p3), .val (.int p4), .val (.int (0 : Int32)), .val (.int (w0_0 p0 p1)), .val (.int (w0_1 p0 p2)), .val (.int (w0_2 p0 p3)), .val (.int (w0_3 p0 p4)), .val (.ref b1), .val (.ref b3), .unset] [(.int (1 : Int32)), (.int (0 : Int32))])) _
      refine XS.icmpYes X5.here hx rfl (pc0 := 137) (pc' := 146) rfl (hb hby at_137) rfl (tlt (by decide)).1 (by decide) (by decide) ?_
      show Steps p.tables e below (T5.setTop (mkF m 146 #[.val (.int p0), .val (.int p1), .val (.int p2), .val (.int p3), .val (.int p4), .val (.int (0 : Int32)), .val (.int (w0_0 p0 p1)), .val (.int (w0_1 p0 p2)), .val (.int (w0_2 p0 p3)), .val (.int (w0_3 p0 p4)), .val (.ref b1), .val (.ref b3), .unset] [])) _
      refine XS.iload X5.here hx rfl (hb hby at_146) rfl ?_
      show Steps p.tables e below (T5.setTop (mkF m 148 #[.val (.int p0), .val (.int p1), .val (.int p2), .val (.int p3), .val (.int p4), .val (.int (0 : Int32)), .val (.int (w0_0 p0 p1)), .val (.int (w0_1 p0 p2)), .val (.int (w0_2 p0 p3)), .val (.int (w0_3 p0 p4)), .val (.ref b1), .val (.ref b3), .unset] [(.int (0 : Int32))])) _
      refine XS.iconst X5.here hx rfl (hb hby at_148) ?_
      show Steps p.tables e below (T5.setTop (mkF m 149 #[.val (.int p0), .val (.int p1), .val (.int p2), .val (.int p3), .val (.int p4), .val (.int (0 : Int32)), .val (.int (w0_0 p0 p1)), .val (.int (w0_1 p0 p2)), .val (.int (w0_2 p0 p3)), .val (.int (w0_3 p0 p4)), .val (.ref b1), .val (.ref b3), .unset] [(.int (2 : Int32)), (.int (0 : Int32))])) _
      refine XS.icmpYes X5.here hx rfl (pc0 := 149) (pc' := 158) rfl (hb hby at_149) rfl (tlt (by decide)).1 (by decide) (by decide) ?_
      show Steps p.tables e below (T5.setTop (mkF m 158 #[.val (.int p0), .val (.int p1), .val (.int p2), .val (.int p3), .val (.int p4), .val (.int (0 : Int32)), .val (.int (w0_0 p0 p1)), .val (.int (w0_1 p0 p2)), .val (.int (w0_2 p0 p3)), .val (.int (w0_3 p0 p4)), .val (.ref b1), .val (.ref b3), .unset] [])) _
      refine XS.iload X5.here hx rfl (hb hby at_158) rfl ?_
      show Steps p.tables e below (T5.setTop (mkF m 160 #[.val (.int p0), .val (.int p1), .val (.int p2), .val (.int p3), .val (.int p4), .val (.int (0 : Int32)), .val (.int (w0_0 p0 p1)), .val (.int (w0_1 p0 p2)), .val (.int (w0_2 p0 p3)), .val (.int (w0_3 p0 p4)), .val (.ref b1), .val (.ref b3), .unset] [(.int (0 : Int32))])) _
      refine XS.iconst X5.here hx rfl (hb hby at_160) ?_
      show Steps p.tables e below (T5.setTop (mkF m 161 #[.val (.int p0), .val (.int p1), .val (.int p2), .val (.int p3), .val (.int p4), .val (.int (0 : Int32)), .val (.int (w0_0 p0 p1)), .val (.int (w0_1 p0 p2)), .val (.int (w0_2 p0 p3)), .val (.int (w0_3 p0 p4)), .val (.ref b1), .val (.ref b3), .unset] [(.int (3 : Int32)), (.int (0 : Int32))])) _
      refine XS.icmpYes X5.here hx rfl (pc0 := 161) (pc' := 170) rfl (hb hby at_161) rfl (tlt (by decide)).1 (by decide) (by decide) ?_
      show Steps p.tables e below (T5.setTop (mkF m 170 #[.val (.int p0), .val (.int p1), .val (.int p2), .val (.int p3), .val (.int p4), .val (.int (0 : Int32)), .val (.int (w0_0 p0 p1)), .val (.int (w0_1 p0 p2)), .val (.int (w0_2 p0 p3)), .val (.int (w0_3 p0 p4)), .val (.ref b1), .val (.ref b3), .unset] [])) _
      refine XS.iload X5.here hx rfl (hb hby at_170) rfl ?_
      show Steps p.tables e below (T5.setTop (mkF m 172 #[.val (.int p0), .val (.int p1), .val (.int p2), .val (.int p3), .val (.int p4), .val (.int (0 : Int32)), .val (.int (w0_0 p0 p1)), .val (.int (w0_1 p0 p2)), .val (.int (w0_2 p0 p3)), .val (.int (w0_3 p0 p4)), .val (.ref b1), .val (.ref b3), .unset] [(.int (0 : Int32))])) _
      refine XS.iconst X5.here hx rfl (hb hby at_172) ?_
      show Steps p.tables e below (T5.setTop (mkF m 173 #[.val (.int p0), .val (.int p1), .val (.int p2), .val (.int p3), .val (.int p4), .val (.int (0 : Int32)), .val (.int (w0_0 p0 p1)), .val (.int (w0_1 p0 p2)), .val (.int (w0_2 p0 p3)), .val (.int (w0_3 p0 p4)), .val (.ref b1), .val (.ref b3), .unset] [(.int (4 : Int32)), (.int (0 : Int32))])) _
      refine XS.icmpYes X5.here hx rfl (pc0 := 173) (pc' := 182) rfl (hb hby at_173) rfl (tlt (by decide)).1 (by decide) (by decide) ?_
      show Steps p.tables e below (T5.setTop (mkF m 182 #[.val (.int p0), .val (.int p1), .val (.int p2), .val (.int p3), .val (.int p4), .val (.int (0 : Int32)), .val (.int (w0_0 p0 p1)), .val (.int (w0_1 p0 p2)), .val (.int (w0_2 p0 p3)), .val (.int (w0_3 p0 p4)), .val (.ref b1), .val (.ref b3), .unset] [])) _
      refine XS.iconst X5.here hx rfl (hb hby at_182) ?_
      show Steps p.tables e below (T5.setTop (mkF m 183 #[.val (.int p0), .val (.int p1), .val (.int p2), .val (.int p3), .val (.int p4), .val (.int (0 : Int32)), .val (.int (w0_0 p0 p1)), .val (.int (w0_1 p0 p2)), .val (.int (w0_2 p0 p3)), .val (.int (w0_3 p0 p4)), .val (.ref b1), .val (.ref b3), .unset] [(.int (1 : Int32))])) _
      refine XS.goto X5.here hx rfl (pc0 := 183) (pc' := 187) rfl (hb hby at_183) (by decide) (by decide) ?_
      show Steps p.tables e below (T5.setTop (mkF m 187 #[.val (.int p0), .val (.int p1), .val (.int p2), .val (.int p3), .val (.int p4), .val (.int (0 : Int32)), .val (.int (w0_0 p0 p1)), .val (.int (w0_1 p0 p2)), .val (.int (w0_2 p0 p3)), .val (.int (w0_3 p0 p4)), .val (.ref b1), .val (.ref b3), .unset] [(.int (1 : Int32))])) _
      refine XS.istore X5.here hx rfl (hb hby at_187) rfl (l' := #[.val (.int p0), .val (.int p1), .val (.int p2), .val (.int p3), .val (.int p4), .val (.int (0 : Int32)), .val (.int (w0_0 p0 p1)), .val (.int (w0_1 p0 p2)), .val (.int (w0_2 p0 p3)), .val (.int (w0_3 p0 p4)), .val (.ref b1), .val (.ref b3), .val (.int (1 : Int32))]) rfl ?_
      show Steps p.tables e below (T5.setTop (mkF m 189 #[.val (.int p0), .val (.int p1), .val (.int p2), .val (.int p3), .val (.int p4), .val (.int (0 : Int32)), .val (.int (w0_0 p0 p1)), .val (.int (w0_1 p0 p2)), .val (.int (w0_2 p0 p3)), .val (.int (w0_3 p0 p4)), .val (.ref b1), .val (.ref b3), .val (.int (1 : Int32))] [])) _
      refine XS.aload X5.here hx rfl (hb hby at_189) rfl rfl ?_
      show Steps p.tables e below (T5.setTop (mkF m 191 #[.val (.int p0), .val (.int p1), .val (.int p2), .val (.int p3), .val (.int p4), .val (.int (0 : Int32)), .val (.int (w0_0 p0 p1)), .val (.int (w0_1 p0 p2)), .val (.int (w0_2 p0 p3)), .val (.int (w0_3 p0 p4)), .val (.ref b1), .val (.ref b3), .val (.int (1 : Int32))] [(.ref b3)])) _
      exact kZ
    obtain ⟨cq7, kq7, q7a, q7b, q7c⟩ := isOf hZ rfl f5_0
    obtain ⟨_, _, ⟨T7, L7, k7, n7⟩, -, X7, ⟨Lc7, hQ7, l7, y7, z7⟩, st7⟩ := X5.virtualBack hx (y := (⟨"com/example/ltlconv/ltlconv/dra/RabinDraft", "isRabin", "()Z"⟩ : MethodName)) (z := (⟨"com/example/ltlconv/ltlconv/dra/RabinDraft", "isRabin", "()Z"⟩ : MethodName)) hown (mvT hZ (hw _ (List.mem_of_getElem? (i := 49) rfl))) (mvT hZ (hw _ (List.mem_of_getElem? (i := 50) rfl))) (notFace_of_selects (args := #[]) (mvT hZ (hw _ (List.mem_of_getElem? (i := 52) rfl)))) (mvT hZ (hw _ (List.mem_of_getElem? (i := 52) rfl))) (mvT hZ (hw _ (List.mem_of_getElem? (i := 51) rfl))) (by decide) (backOf (W := 0) (rm6n0 l Z a0 hw [] b3 b5_0 (fun _ => (0 : Int32)) T5.heap n0 Z5 f5_1 f5_5) hZ (hw _ (List.mem_of_getElem? (i := 53) rfl)) (hw _ (List.mem_of_getElem? (i := 3) rfl)) (by decide) (by decide)) q7a q7c (g := (mkF m 191 #[.val (.int p0), .val (.int p1), .val (.int p2), .val (.int p3), .val (.int p4), .val (.int (0 : Int32)), .val (.int (w0_0 p0 p1)), .val (.int (w0_1 p0 p2)), .val (.int (w0_2 p0 p3)), .val (.int (w0_3 p0 p4)), .val (.ref b1), .val (.ref b3), .val (.int (1 : Int32))] [(.ref b3)])) rfl (by rw [hml]; rfl) (Steps.refl _) (argsL := []) (rest := []) (lenOf pd_3 rfl) rfl (by show 2 * 0 + _ ≤ _; exact Nat.le_of_eq rfl) (hb hby at_191) (fun _ _ => ⟨rfl, rfl, (by decide : 0 + 1 + 1 + 3 + 0 ≤ _), (by decide : 0 + 0 + 4 + 3 + 0 ≤ _)⟩)
    dsimp only [Pt.U, Pt.locs, Pt.cells, Pt.slots] at X7 l7 y7 z7 st7 hQ7
    subst l7 y7 z7
    obtain ⟨rfl, N7q, e7⟩ := hQ7
    have N7 := Fr.app N5 N7q
    refine Go.via (fun t k => st7.trans k) ?_
    show Go p e below _ (T7.setTop (mkF m 194 #[.val (.int p0), .val (.int p1), .val (.int p2), .val (.int p3), .val (.int p4), .val (.int (0 : Int32)), .val (.int (w0_0 p0 p1)), .val (.int (w0_1 p0 p2)), .val (.int (w0_2 p0 p3)), .val (.int (w0_3 p0 p4)), .val (.ref b1), .val (.ref b3), .val (.int (1 : Int32))] [(.int (f6n0 b3 b5_0 (fun _ => (0 : Int32))))]))
    refine Go.via (T' := T7.setTop (mkF m 204 #[.val (.int p0), .val (.int p1), .val (.int p2), .val (.int p3), .val (.int p4), .val (.int (0 : Int32)), .val (.int (w0_0 p0 p1)), .val (.int (w0_1 p0 p2)), .val (.int (w0_2 p0 p3)), .val (.int (w0_3 p0 p4)), .val (.ref b1), .val (.ref b3), .val (.int (1 : Int32))] [(.int (1 : Int32))])) (fun tZ kZ => ?_) ?_
    · show Steps p.tables e below (T7.setTop (mkF m 194 #[.val (.int p0), .val (.int p1), .val (.int p2), .val (.int p3), .val (.int p4), .val (.int (0 : Int32)), .val (.int (w0_0 p0 p1)), .val (.int (w0_1 p0 p2)), .val (.int (w0_2 p0 p3)), .val (.int (w0_3 p0 p4)), .val (.ref b1), .val (.ref b3), .val (.int (1 : Int32))] [(.int (f6n0 b3 b5_0 (fun _ => (0 : Int32))))])) _
      refine XS.iload X7.here hx rfl (hb hby at_194) rfl ?_
      show Steps p.tables e below (T7.setTop (mkF m 196 #[.val (.int p0), .val (.int p1), .val (.int p2), .val (.int p3), .val (.int p4), .val (.int (0 : Int32)), .val (.int (w0_0 p0 p1)), .val (.int (w0_1 p0 p2)), .val (.int (w0_2 p0 p3)), .val (.int (w0_3 p0 p4)), .val (.ref b1), .val (.ref b3), .val (.int (1 : Int32))] [(.int (1 : Int32)), (.int (f6n0 b3 b5_0 (fun _ => (0 : Int32))))])) _
      refine XS.icmpNo X7.here hx rfl (hb hby at_196) rfl (teq (by first | (simp [f6n0, up, nar, Int32.toNatClampNeg]; done) | (simp [f6n0, up, nar, Int32.toNatClampNeg]; rfl))).2 ?_
      show Steps p.tables e below (T7.setTop (mkF m 199 #[.val (.int p0), .val (.int p1), .val (.int p2), .val (.int p3), .val (.int p4), .val (.int (0 : Int32)), .val (.int (w0_0 p0 p1)), .val (.int (w0_1 p0 p2)), .val (.int (w0_2 p0 p3)), .val (.int (w0_3 p0 p4)), .val (.ref b1), .val (.ref b3), .val (.int (1 : Int32))] [])) _
      refine XS.iconst X7.here hx rfl (hb hby at_199) ?_
      show Steps p.tables e below (T7.setTop (mkF m 200 #[.val (.int p0), .val (.int p1), .val (.int p2), .val (.int p3), .val (.int p4), .val (.int (0 : Int32)), .val (.int (w0_0 p0 p1)), .val (.int (w0_1 p0 p2)), .val (.int (w0_2 p0 p3)), .val (.int (w0_3 p0 p4)), .val (.ref b1), .val (.ref b3), .val (.int (1 : Int32))] [(.int (1 : Int32))])) _
      refine XS.goto X7.here hx rfl (pc0 := 200) (pc' := 204) rfl (hb hby at_200) (by decide) (by decide) ?_
      show Steps p.tables e below (T7.setTop (mkF m 204 #[.val (.int p0), .val (.int p1), .val (.int p2), .val (.int p3), .val (.int p4), .val (.int (0 : Int32)), .val (.int (w0_0 p0 p1)), .val (.int (w0_1 p0 p2)), .val (.int (w0_2 p0 p3)), .val (.int (w0_3 p0 p4)), .val (.ref b1), .val (.ref b3), .val (.int (1 : Int32))] [(.int (1 : Int32))])) _
      exact kZ
    refine Go.retN X7 hx Bd.notSynchronized (t := .boolean) Bd.returns (by simp) (hb hby at_204) (by decide) (by decide) ?_
    exact ⟨rfl, N7⟩
  · rw [hi]
    show Go p e below _ (s₁.setTop (mkF m 8 #[.val (.int p0), .val (.int p1), .val (.int p2), .val (.int p3), .val (.int p4), .val (.int (1 : Int32)), .unset, .unset, .unset, .unset, .unset, .unset, .unset] []))
    refine Go.via (T' := s₁.setTop (mkF m 72 #[.val (.int p0), .val (.int p1), .val (.int p2), .val (.int p3), .val (.int p4), .val (.int (1 : Int32)), .val (.int (w0_0 p0 p1)), .val (.int (w0_1 p0 p2)), .val (.int (w0_2 p0 p3)), .val (.int (w0_3 p0 p4)), .unset, .unset, .unset] [(.int (1 : Int32))])) (fun tZ kZ => ?_) ?_
    · show Steps p.tables e below (s₁.setTop (mkF m 8 #[.val (.int p0), .val (.int p1), .val (.int p2), .val (.int p3), .val (.int p4), .val (.int (1 : Int32)), .unset, .unset, .unset, .unset, .unset, .unset, .unset] [])) _
      refine XS.iloadN X0.here hx rfl (hb hby at_8) rfl ?_
      show Steps p.tables e below (s₁.setTop (mkF m 9 #[.val (.int p0), .val (.int p1), .val (.int p2), .val (.int p3), .val (.int p4), .val (.int (1 : Int32)), .unset, .unset, .unset, .unset, .unset, .unset, .unset] [(.int p0)])) _
      refine XS.iconst X0.here hx rfl (hb hby at_9) ?_
      show Steps p.tables e below (s₁.setTop (mkF m 10 #[.val (.int p0), .val (.int p1), .val (.int p2), .val (.int p3), .val (.int p4), .val (.int (1 : Int32)), .unset, .unset, .unset, .unset, .unset, .unset, .unset] [(.int (3 : Int32)), (.int p0)])) _
      refine XS.iushr X0.here hx rfl (hb hby at_10) rfl ?_
      show Steps p.tables e below (s₁.setTop (mkF m 11 #[.val (.int p0), .val (.int p1), .val (.int p2), .val (.int p3), .val (.int p4), .val (.int (1 : Int32)), .unset, .unset, .unset, .unset, .unset, .unset, .unset] [(.int ((p0.toUInt32 >>> ((3 : Int32) &&& 31).toUInt32).toInt32))])) _
      refine XS.iconst X0.here hx rfl (hb hby at_11) ?_
      show Steps p.tables e below (s₁.setTop (mkF m 12 #[.val (.int p0), .val (.int p1), .val (.int p2), .val (.int p3), .val (.int p4), .val (.int (1 : Int32)), .unset, .unset, .unset, .unset, .unset, .unset, .unset] [(.int (1 : Int32)), (.int ((p0.toUInt32 >>> ((3 : Int32) &&& 31).toUInt32).toInt32))])) _
      refine XS.iand X0.here hx rfl (hb hby at_12) rfl ?_
      show Steps p.tables e below (s₁.setTop (mkF m 13 #[.val (.int p0), .val (.int p1), .val (.int p2), .val (.int p3), .val (.int p4), .val (.int (1 : Int32)), .unset, .unset, .unset, .unset, .unset, .unset, .unset] [(.int (((p0.toUInt32 >>> ((3 : Int32) &&& 31).toUInt32).toInt32) &&& (1 : Int32)))])) _
      have sg13 : Steps p.tables e below (s₁.setTop (mkF m 21 #[.val (.int p0), .val (.int p1), .val (.int p2), .val (.int p3), .val (.int p4), .val (.int (1 : Int32)), .unset, .unset, .unset, .unset, .unset, .unset, .unset] [(.int (if (((p0.toUInt32 >>> ((3 : Int32) &&& 31).toUInt32).toInt32) &&& (1 : Int32)) = (0 : Int32) then p1 else (1 : Int32)))])) tZ → Steps p.tables e below (s₁.setTop (mkF m 13 #[.val (.int p0), .val (.int p1), .val (.int p2), .val (.int p3), .val (.int p4), .val (.int (1 : Int32)), .unset, .unset, .unset, .unset, .unset, .unset, .unset] [(.int (((p0.toUInt32 >>> ((3 : Int32) &&& 31).toUInt32).toInt32) &&& (1 : Int32)))])) tZ := by
        intro kj
        by_cases hc13 : (((p0.toUInt32 >>> ((3 : Int32) &&& 31).toUInt32).toInt32) &&& (1 : Int32)) = (0 : Int32)
        · try simp only [if_pos hc13] at kj
          refine XS.ifYes X0.here hx rfl (pc0 := 13) (pc' := 20) rfl (hb hby at_13) rfl ((if0 _ _).trans (teq hc13).1) (by decide) (by decide) ?_
          show Steps p.tables e below (s₁.setTop (mkF m 20 #[.val (.int p0), .val (.int p1), .val (.int p2), .val (.int p3), .val (.int p4), .val (.int (1 : Int32)), .unset, .unset, .unset, .unset, .unset, .unset, .unset] [])) _
          refine XS.iloadN X0.here hx rfl (hb hby at_20) rfl ?_
          show Steps p.tables e below (s₁.setTop (mkF m 21 #[.val (.int p0), .val (.int p1), .val (.int p2), .val (.int p3), .val (.int p4), .val (.int (1 : Int32)), .unset, .unset, .unset, .unset, .unset, .unset, .unset] [(.int p1)])) _
          exact kj
        · try simp only [if_neg hc13] at kj
          refine XS.ifNo X0.here hx rfl (hb hby at_13) rfl ((if0 _ _).trans (feq hc13).1) ?_
          show Steps p.tables e below (s₁.setTop (mkF m 16 #[.val (.int p0), .val (.int p1), .val (.int p2), .val (.int p3), .val (.int p4), .val (.int (1 : Int32)), .unset, .unset, .unset, .unset, .unset, .unset, .unset] [])) _
          refine XS.iconst X0.here hx rfl (hb hby at_16) ?_
          show Steps p.tables e below (s₁.setTop (mkF m 17 #[.val (.int p0), .val (.int p1), .val (.int p2), .val (.int p3), .val (.int p4), .val (.int (1 : Int32)), .unset, .unset, .unset, .unset, .unset, .unset, .unset] [(.int (1 : Int32))])) _
          refine XS.goto X0.here hx rfl (pc0 := 17) (pc' := 21) rfl (hb hby at_17) (by decide) (by decide) ?_
          show Steps p.tables e below (s₁.setTop (mkF m 21 #[.val (.int p0), .val (.int p1), .val (.int p2), .val (.int p3), .val (.int p4), .val (.int (1 : Int32)), .unset, .unset, .unset, .unset, .unset, .unset, .unset] [(.int (1 : Int32))])) _
          exact kj
      refine sg13 ?_
      show Steps p.tables e below (s₁.setTop (mkF m 21 #[.val (.int p0), .val (.int p1), .val (.int p2), .val (.int p3), .val (.int p4), .val (.int (1 : Int32)), .unset, .unset, .unset, .unset, .unset, .unset, .unset] [(.int (w0_0 p0 p1))])) _
      refine XS.istore X0.here hx rfl (hb hby at_21) rfl (l' := #[.val (.int p0), .val (.int p1), .val (.int p2), .val (.int p3), .val (.int p4), .val (.int (1 : Int32)), .val (.int (w0_0 p0 p1)), .unset, .unset, .unset, .unset, .unset, .unset]) rfl ?_
      show Steps p.tables e below (s₁.setTop (mkF m 23 #[.val (.int p0), .val (.int p1), .val (.int p2), .val (.int p3), .val (.int p4), .val (.int (1 : Int32)), .val (.int (w0_0 p0 p1)), .unset, .unset, .unset, .unset, .unset, .unset] [])) _
      refine XS.iloadN X0.here hx rfl (hb hby at_23) rfl ?_
      show Steps p.tables e below (s₁.setTop (mkF m 24 #[.val (.int p0), .val (.int p1), .val (.int p2), .val (.int p3), .val (.int p4), .val (.int (1 : Int32)), .val (.int (w0_0 p0 p1)), .unset, .unset, .unset, .unset, .unset, .unset] [(.int p0)])) _
      refine XS.iconst X0.here hx rfl (hb hby at_24) ?_
      show Steps p.tables e below (s₁.setTop (mkF m 25 #[.val (.int p0), .val (.int p1), .val (.int p2), .val (.int p3), .val (.int p4), .val (.int (1 : Int32)), .val (.int (w0_0 p0 p1)), .unset, .unset, .unset, .unset, .unset, .unset] [(.int (4 : Int32)), (.int p0)])) _
      refine XS.iushr X0.here hx rfl (hb hby at_25) rfl ?_
      show Steps p.tables e below (s₁.setTop (mkF m 26 #[.val (.int p0), .val (.int p1), .val (.int p2), .val (.int p3), .val (.int p4), .val (.int (1 : Int32)), .val (.int (w0_0 p0 p1)), .unset, .unset, .unset, .unset, .unset, .unset] [(.int ((p0.toUInt32 >>> ((4 : Int32) &&& 31).toUInt32).toInt32))])) _
      refine XS.iconst X0.here hx rfl (hb hby at_26) ?_
      show Steps p.tables e below (s₁.setTop (mkF m 27 #[.val (.int p0), .val (.int p1), .val (.int p2), .val (.int p3), .val (.int p4), .val (.int (1 : Int32)), .val (.int (w0_0 p0 p1)), .unset, .unset, .unset, .unset, .unset, .unset] [(.int (1 : Int32)), (.int ((p0.toUInt32 >>> ((4 : Int32) &&& 31).toUInt32).toInt32))])) _
      refine XS.iand X0.here hx rfl (hb hby at_27) rfl ?_
      show Steps p.tables e below (s₁.setTop (mkF m 28 #[.val (.int p0), .val (.int p1), .val (.int p2), .val (.int p3), .val (.int p4), .val (.int (1 : Int32)), .val (.int (w0_0 p0 p1)), .unset, .unset, .unset, .unset, .unset, .unset] [(.int (((p0.toUInt32 >>> ((4 : Int32) &&& 31).toUInt32).toInt32) &&& (1 : Int32)))])) _
      have sg28 : Steps p.tables e below (s₁.setTop (mkF m 36 #[.val (.int p0), .val (.int p1), .val (.int p2), .val (.int p3), .val (.int p4), .val (.int (1 : Int32)), .val (.int (w0_0 p0 p1)), .unset, .unset, .unset, .unset, .unset, .unset] [(.int (if (((p0.toUInt32 >>> ((4 : Int32) &&& 31).toUInt32).toInt32) &&& (1 : Int32)) = (0 : Int32) then p2 else (1 : Int32)))])) tZ → Steps p.tables e below (s₁.setTop (mkF m 28 #[.val (.int p0), .val (.int p1), .val (.int p2), .val (.int p3), .val (.int p4), .val (.int (1 : Int32)), .val (.int (w0_0 p0 p1)), .unset, .unset, .unset, .unset, .unset, .unset] [(.int (((p0.toUInt32 >>> ((4 : Int32) &&& 31).toUInt32).toInt32) &&& (1 : Int32)))])) tZ := by
        intro kj
        by_cases hc28 : (((p0.toUInt32 >>> ((4 : Int32) &&& 31).toUInt32).toInt32) &&& (1 : Int32)) = (0 : Int32)
        · try simp only [if_pos hc28] at kj
          refine XS.ifYes X0.here hx rfl (pc0 := 28) (pc' := 35) rfl (hb hby at_28) rfl ((if0 _ _).trans (teq hc28).1) (by decide) (by decide) ?_
          show Steps p.tables e below (s₁.setTop (mkF m 35 #[.val (.int p0), .val (.int p1), .val (.int p2), .val (.int p3), .val (.int p4), .val (.int (1 : Int32)), .val (.int (w0_0 p0 p1)), .unset, .unset, .unset, .unset, .unset, .unset] [])) _
          refine XS.iloadN X0.here hx rfl (hb hby at_35) rfl ?_
          show Steps p.tables e below (s₁.setTop (mkF m 36 #[.val (.int p0), .val (.int p1), .val (.int p2), .val (.int p3), .val (.int p4), .val (.int (1 : Int32)), .val (.int (w0_0 p0 p1)), .unset, .unset, .unset, .unset, .unset, .unset] [(.int p2)])) _
          exact kj
        · try simp only [if_neg hc28] at kj
          refine XS.ifNo X0.here hx rfl (hb hby at_28) rfl ((if0 _ _).trans (feq hc28).1) ?_
          show Steps p.tables e below (s₁.setTop (mkF m 31 #[.val (.int p0), .val (.int p1), .val (.int p2), .val (.int p3), .val (.int p4), .val (.int (1 : Int32)), .val (.int (w0_0 p0 p1)), .unset, .unset, .unset, .unset, .unset, .unset] [])) _
          refine XS.iconst X0.here hx rfl (hb hby at_31) ?_
          show Steps p.tables e below (s₁.setTop (mkF m 32 #[.val (.int p0), .val (.int p1), .val (.int p2), .val (.int p3), .val (.int p4), .val (.int (1 : Int32)), .val (.int (w0_0 p0 p1)), .unset, .unset, .unset, .unset, .unset, .unset] [(.int (1 : Int32))])) _
          refine XS.goto X0.here hx rfl (pc0 := 32) (pc' := 36) rfl (hb hby at_32) (by decide) (by decide) ?_
          show Steps p.tables e below (s₁.setTop (mkF m 36 #[.val (.int p0), .val (.int p1), .val (.int p2), .val (.int p3), .val (.int p4), .val (.int (1 : Int32)), .val (.int (w0_0 p0 p1)), .unset, .unset, .unset, .unset, .unset, .unset] [(.int (1 : Int32))])) _
          exact kj
      refine sg28 ?_
      show Steps p.tables e below (s₁.setTop (mkF m 36 #[.val (.int p0), .val (.int p1), .val (.int p2), .val (.int p3), .val (.int p4), .val (.int (1 : Int32)), .val (.int (w0_0 p0 p1)), .unset, .unset, .unset, .unset, .unset, .unset] [(.int (w0_1 p0 p2))])) _
      refine XS.istore X0.here hx rfl (hb hby at_36) rfl (l' := #[.val (.int p0), .val (.int p1), .val (.int p2), .val (.int p3), .val (.int p4), .val (.int (1 : Int32)), .val (.int (w0_0 p0 p1)), .val (.int (w0_1 p0 p2)), .unset, .unset, .unset, .unset, .unset]) rfl ?_
      show Steps p.tables e below (s₁.setTop (mkF m 38 #[.val (.int p0), .val (.int p1), .val (.int p2), .val (.int p3), .val (.int p4), .val (.int (1 : Int32)), .val (.int (w0_0 p0 p1)), .val (.int (w0_1 p0 p2)), .unset, .unset, .unset, .unset, .unset] [])) _
      refine XS.iloadN X0.here hx rfl (hb hby at_38) rfl ?_
      show Steps p.tables e below (s₁.setTop (mkF m 39 #[.val (.int p0), .val (.int p1), .val (.int p2), .val (.int p3), .val (.int p4), .val (.int (1 : Int32)), .val (.int (w0_0 p0 p1)), .val (.int (w0_1 p0 p2)), .unset, .unset, .unset, .unset, .unset] [(.int p0)])) _
      refine XS.iconst X0.here hx rfl (hb hby at_39) ?_
      show Steps p.tables e below (s₁.setTop (mkF m 40 #[.val (.int p0), .val (.int p1), .val (.int p2), .val (.int p3), .val (.int p4), .val (.int (1 : Int32)), .val (.int (w0_0 p0 p1)), .val (.int (w0_1 p0 p2)), .unset, .unset, .unset, .unset, .unset] [(.int (5 : Int32)), (.int p0)])) _
      refine XS.iushr X0.here hx rfl (hb hby at_40) rfl ?_
      show Steps p.tables e below (s₁.setTop (mkF m 41 #[.val (.int p0), .val (.int p1), .val (.int p2), .val (.int p3), .val (.int p4), .val (.int (1 : Int32)), .val (.int (w0_0 p0 p1)), .val (.int (w0_1 p0 p2)), .unset, .unset, .unset, .unset, .unset] [(.int ((p0.toUInt32 >>> ((5 : Int32) &&& 31).toUInt32).toInt32))])) _
      refine XS.iconst X0.here hx rfl (hb hby at_41) ?_
      show Steps p.tables e below (s₁.setTop (mkF m 42 #[.val (.int p0), .val (.int p1), .val (.int p2), .val (.int p3), .val (.int p4), .val (.int (1 : Int32)), .val (.int (w0_0 p0 p1)), .val (.int (w0_1 p0 p2)), .unset, .unset, .unset, .unset, .unset] [(.int (1 : Int32)), (.int ((p0.toUInt32 >>> ((5 : Int32) &&& 31).toUInt32).toInt32))])) _
      refine XS.iand X0.here hx rfl (hb hby at_42) rfl ?_
      show Steps p.tables e below (s₁.setTop (mkF m 43 #[.val (.int p0), .val (.int p1), .val (.int p2), .val (.int p3), .val (.int p4), .val (.int (1 : Int32)), .val (.int (w0_0 p0 p1)), .val (.int (w0_1 p0 p2)), .unset, .unset, .unset, .unset, .unset] [(.int (((p0.toUInt32 >>> ((5 : Int32) &&& 31).toUInt32).toInt32) &&& (1 : Int32)))])) _
      have sg43 : Steps p.tables e below (s₁.setTop (mkF m 51 #[.val (.int p0), .val (.int p1), .val (.int p2), .val (.int p3), .val (.int p4), .val (.int (1 : Int32)), .val (.int (w0_0 p0 p1)), .val (.int (w0_1 p0 p2)), .unset, .unset, .unset, .unset, .unset] [(.int (if (((p0.toUInt32 >>> ((5 : Int32) &&& 31).toUInt32).toInt32) &&& (1 : Int32)) = (0 : Int32) then p3 else (1 : Int32)))])) tZ → Steps p.tables e below (s₁.setTop (mkF m 43 #[.val (.int p0), .val (.int p1), .val (.int p2), .val (.int p3), .val (.int p4), .val (.int (1 : Int32)), .val (.int (w0_0 p0 p1)), .val (.int (w0_1 p0 p2)), .unset, .unset, .unset, .unset, .unset] [(.int (((p0.toUInt32 >>> ((5 : Int32) &&& 31).toUInt32).toInt32) &&& (1 : Int32)))])) tZ := by
        intro kj
        by_cases hc43 : (((p0.toUInt32 >>> ((5 : Int32) &&& 31).toUInt32).toInt32) &&& (1 : Int32)) = (0 : Int32)
        · try simp only [if_pos hc43] at kj
          refine XS.ifYes X0.here hx rfl (pc0 := 43) (pc' := 50) rfl (hb hby at_43) rfl ((if0 _ _).trans (teq hc43).1) (by decide) (by decide) ?_
          show Steps p.tables e below (s₁.setTop (mkF m 50 #[.val (.int p0), .val (.int p1), .val (.int p2), .val (.int p3), .val (.int p4), .val (.int (1 : Int32)), .val (.int (w0_0 p0 p1)), .val (.int (w0_1 p0 p2)), .unset, .unset, .unset, .unset, .unset] [])) _
          refine XS.iloadN X0.here hx rfl (hb hby at_50) rfl ?_
          show Steps p.tables e below (s₁.setTop (mkF m 51 #[.val (.int p0), .val (.int p1), .val (.int p2), .val (.int p3), .val (.int p4), .val (.int (1 : Int32)), .val (.int (w0_0 p0 p1)), .val (.int (w0_1 p0 p2)), .unset, .unset, .unset, .unset, .unset] [(.int p3)])) _
          exact kj
        · try simp only [if_neg hc43] at kj
          refine XS.ifNo X0.here hx rfl (hb hby at_43) rfl ((if0 _ _).trans (feq hc43).1) ?_
          show Steps p.tables e below (s₁.setTop (mkF m 46 #[.val (.int p0), .val (.int p1), .val (.int p2), .val (.int p3), .val (.int p4), .val (.int (1 : Int32)), .val (.int (w0_0 p0 p1)), .val (.int (w0_1 p0 p2)), .unset, .unset, .unset, .unset, .unset] [])) _
          refine XS.iconst X0.here hx rfl (hb hby at_46) ?_
          show Steps p.tables e below (s₁.setTop (mkF m 47 #[.val (.int p0), .val (.int p1), .val (.int p2), .val (.int p3), .val (.int p4), .val (.int (1 : Int32)), .val (.int (w0_0 p0 p1)), .val (.int (w0_1 p0 p2)), .unset, .unset, .unset, .unset, .unset] [(.int (1 : Int32))])) _
          refine XS.goto X0.here hx rfl (pc0 := 47) (pc' := 51) rfl (hb hby at_47) (by decide) (by decide) ?_
          show Steps p.tables e below (s₁.setTop (mkF m 51 #[.val (.int p0), .val (.int p1), .val (.int p2), .val (.int p3), .val (.int p4), .val (.int (1 : Int32)), .val (.int (w0_0 p0 p1)), .val (.int (w0_1 p0 p2)), .unset, .unset, .unset, .unset, .unset] [(.int (1 : Int32))])) _
          exact kj
      refine sg43 ?_
      show Steps p.tables e below (s₁.setTop (mkF m 51 #[.val (.int p0), .val (.int p1), .val (.int p2), .val (.int p3), .val (.int p4), .val (.int (1 : Int32)), .val (.int (w0_0 p0 p1)), .val (.int (w0_1 p0 p2)), .unset, .unset, .unset, .unset, .unset] [(.int (w0_2 p0 p3))])) _
      refine XS.istore X0.here hx rfl (hb hby at_51) rfl (l' := #[.val (.int p0), .val (.int p1), .val (.int p2), .val (.int p3), .val (.int p4), .val (.int (1 : Int32)), .val (.int (w0_0 p0 p1)), .val (.int (w0_1 p0 p2)), .val (.int (w0_2 p0 p3)), .unset, .unset, .unset, .unset]) rfl ?_
      show Steps p.tables e below (s₁.setTop (mkF m 53 #[.val (.int p0), .val (.int p1), .val (.int p2), .val (.int p3), .val (.int p4), .val (.int (1 : Int32)), .val (.int (w0_0 p0 p1)), .val (.int (w0_1 p0 p2)), .val (.int (w0_2 p0 p3)), .unset, .unset, .unset, .unset] [])) _
      refine XS.iloadN X0.here hx rfl (hb hby at_53) rfl ?_
      show Steps p.tables e below (s₁.setTop (mkF m 54 #[.val (.int p0), .val (.int p1), .val (.int p2), .val (.int p3), .val (.int p4), .val (.int (1 : Int32)), .val (.int (w0_0 p0 p1)), .val (.int (w0_1 p0 p2)), .val (.int (w0_2 p0 p3)), .unset, .unset, .unset, .unset] [(.int p0)])) _
      refine XS.bipush X0.here hx rfl (hb hby at_54) ?_
      show Steps p.tables e below (s₁.setTop (mkF m 56 #[.val (.int p0), .val (.int p1), .val (.int p2), .val (.int p3), .val (.int p4), .val (.int (1 : Int32)), .val (.int (w0_0 p0 p1)), .val (.int (w0_1 p0 p2)), .val (.int (w0_2 p0 p3)), .unset, .unset, .unset, .unset] [(.int (6 : Int32)), (.int p0)])) _
      refine XS.iushr X0.here hx rfl (hb hby at_56) rfl ?_
      show Steps p.tables e below (s₁.setTop (mkF m 57 #[.val (.int p0), .val (.int p1), .val (.int p2), .val (.int p3), .val (.int p4), .val (.int (1 : Int32)), .val (.int (w0_0 p0 p1)), .val (.int (w0_1 p0 p2)), .val (.int (w0_2 p0 p3)), .unset, .unset, .unset, .unset] [(.int ((p0.toUInt32 >>> ((6 : Int32) &&& 31).toUInt32).toInt32))])) _
      refine XS.iconst X0.here hx rfl (hb hby at_57) ?_
      show Steps p.tables e below (s₁.setTop (mkF m 58 #[.val (.int p0), .val (.int p1), .val (.int p2), .val (.int p3), .val (.int p4), .val (.int (1 : Int32)), .val (.int (w0_0 p0 p1)), .val (.int (w0_1 p0 p2)), .val (.int (w0_2 p0 p3)), .unset, .unset, .unset, .unset] [(.int (1 : Int32)), (.int ((p0.toUInt32 >>> ((6 : Int32) &&& 31).toUInt32).toInt32))])) _
      refine XS.iand X0.here hx rfl (hb hby at_58) rfl ?_
      show Steps p.tables e below (s₁.setTop (mkF m 59 #[.val (.int p0), .val (.int p1), .val (.int p2), .val (.int p3), .val (.int p4), .val (.int (1 : Int32)), .val (.int (w0_0 p0 p1)), .val (.int (w0_1 p0 p2)), .val (.int (w0_2 p0 p3)), .unset, .unset, .unset, .unset] [(.int (((p0.toUInt32 >>> ((6 : Int32) &&& 31).toUInt32).toInt32) &&& (1 : Int32)))])) _
      have sg59 : Steps p.tables e below (s₁.setTop (mkF m 68 #[.val (.int p0), .val (.int p1), .val (.int p2), .val (.int p3), .val (.int p4), .val (.int (1 : Int32)), .val (.int (w0_0 p0 p1)), .val (.int (w0_1 p0 p2)), .val (.int (w0_2 p0 p3)), .unset, .unset, .unset, .unset] [(.int (if (((p0.toUInt32 >>> ((6 : Int32) &&& 31).toUInt32).toInt32) &&& (1 : Int32)) = (0 : Int32) then p4 else (1 : Int32)))])) tZ → Steps p.tables e below (s₁.setTop (mkF m 59 #[.val (.int p0), .val (.int p1), .val (.int p2), .val (.int p3), .val (.int p4), .val (.int (1 : Int32)), .val (.int (w0_0 p0 p1)), .val (.int (w0_1 p0 p2)), .val (.int (w0_2 p0 p3)), .unset, .unset, .unset, .unset] [(.int (((p0.toUInt32 >>> ((6 : Int32) &&& 31).toUInt32).toInt32) &&& (1 : Int32)))])) tZ := by
        intro kj
        by_cases hc59 : (((p0.toUInt32 >>> ((6 : Int32) &&& 31).toUInt32).toInt32) &&& (1 : Int32)) = (0 : Int32)
        · try simp only [if_pos hc59] at kj
          refine XS.ifYes X0.here hx rfl (pc0 := 59) (pc' := 66) rfl (hb hby at_59) rfl ((if0 _ _).trans (teq hc59).1) (by decide) (by decide) ?_
          show Steps p.tables e below (s₁.setTop (mkF m 66 #[.val (.int p0), .val (.int p1), .val (.int p2), .val (.int p3), .val (.int p4), .val (.int (1 : Int32)), .val (.int (w0_0 p0 p1)), .val (.int (w0_1 p0 p2)), .val (.int (w0_2 p0 p3)), .unset, .unset, .unset, .unset] [])) _
          refine XS.iload X0.here hx rfl (hb hby at_66) rfl ?_
          show Steps p.tables e below (s₁.setTop (mkF m 68 #[.val (.int p0), .val (.int p1), .val (.int p2), .val (.int p3), .val (.int p4), .val (.int (1 : Int32)), .val (.int (w0_0 p0 p1)), .val (.int (w0_1 p0 p2)), .val (.int (w0_2 p0 p3)), .unset, .unset, .unset, .unset] [(.int p4)])) _
          exact kj
        · try simp only [if_neg hc59] at kj
          refine XS.ifNo X0.here hx rfl (hb hby at_59) rfl ((if0 _ _).trans (feq hc59).1) ?_
          show Steps p.tables e below (s₁.setTop (mkF m 62 #[.val (.int p0), .val (.int p1), .val (.int p2), .val (.int p3), .val (.int p4), .val (.int (1 : Int32)), .val (.int (w0_0 p0 p1)), .val (.int (w0_1 p0 p2)), .val (.int (w0_2 p0 p3)), .unset, .unset, .unset, .unset] [])) _
          refine XS.iconst X0.here hx rfl (hb hby at_62) ?_
          show Steps p.tables e below (s₁.setTop (mkF m 63 #[.val (.int p0), .val (.int p1), .val (.int p2), .val (.int p3), .val (.int p4), .val (.int (1 : Int32)), .val (.int (w0_0 p0 p1)), .val (.int (w0_1 p0 p2)), .val (.int (w0_2 p0 p3)), .unset, .unset, .unset, .unset] [(.int (1 : Int32))])) _
          refine XS.goto X0.here hx rfl (pc0 := 63) (pc' := 68) rfl (hb hby at_63) (by decide) (by decide) ?_
          show Steps p.tables e below (s₁.setTop (mkF m 68 #[.val (.int p0), .val (.int p1), .val (.int p2), .val (.int p3), .val (.int p4), .val (.int (1 : Int32)), .val (.int (w0_0 p0 p1)), .val (.int (w0_1 p0 p2)), .val (.int (w0_2 p0 p3)), .unset, .unset, .unset, .unset] [(.int (1 : Int32))])) _
          exact kj
      refine sg59 ?_
      show Steps p.tables e below (s₁.setTop (mkF m 68 #[.val (.int p0), .val (.int p1), .val (.int p2), .val (.int p3), .val (.int p4), .val (.int (1 : Int32)), .val (.int (w0_0 p0 p1)), .val (.int (w0_1 p0 p2)), .val (.int (w0_2 p0 p3)), .unset, .unset, .unset, .unset] [(.int (w0_3 p0 p4))])) _
      refine XS.istore X0.here hx rfl (hb hby at_68) rfl (l' := #[.val (.int p0), .val (.int p1), .val (.int p2), .val (.int p3), .val (.int p4), .val (.int (1 : Int32)), .val (.int (w0_0 p0 p1)), .val (.int (w0_1 p0 p2)), .val (.int (w0_2 p0 p3)), .val (.int (w0_3 p0 p4)), .unset, .unset, .unset]) rfl ?_
      show Steps p.tables e below (s₁.setTop (mkF m 70 #[.val (.int p0), .val (.int p1), .val (.int p2), .val (.int p3), .val (.int p4), .val (.int (1 : Int32)), .val (.int (w0_0 p0 p1)), .val (.int (w0_1 p0 p2)), .val (.int (w0_2 p0 p3)), .val (.int (w0_3 p0 p4)), .unset, .unset, .unset] [])) _
      refine XS.iload X0.here hx rfl (hb hby at_70) rfl ?_
      show Steps p.tables e below (s₁.setTop (mkF m 72 #[.val (.int p0), .val (.int p1), .val (.int p2), .val (.int p3), .val (.int p4), .val (.int (1 : Int32)), .val (.int (w0_0 p0 p1)), .val (.int (w0_1 p0 p2)), .val (.int (w0_2 p0 p3)), .val (.int (w0_3 p0 p4)), .unset, .unset, .unset] [(.int (1 : Int32))])) _
      exact kZ
    obtain ⟨T8, h8, k8, X8, e8, E8, A8, B8, st8⟩ := newPE X0 hx hZ (hw _ (List.mem_of_getElem? (i := 0) rfl)) e0 (g := (mkF m 72 #[.val (.int p0), .val (.int p1), .val (.int p2), .val (.int p3), .val (.int p4), .val (.int (1 : Int32)), .val (.int (w0_0 p0 p1)), .val (.int (w0_1 p0 p2)), .val (.int (w0_2 p0 p3)), .val (.int (w0_3 p0 p4)), .unset, .unset, .unset] [(.int (1 : Int32))])) rfl (hb hby at_72) rfl (by decide) (cap := 1) (by decide) (by decide) (by decide) (by decide) (ad := "[I") rfl
    obtain ⟨b8, g8⟩ : ∃ z, z = h0.size := ⟨_, rfl⟩
    rw [← g8] at A8 B8 st8
    have g_b8 : n0 ≤ b8 := Nat.le_trans Z0 (Nat.le_of_eq g8.symm)
    have sz_b8 : h0.size ≤ b8 := Nat.le_trans ((Keep.refl h0 [])).1 (Nat.le_of_eq g8.symm)
    have c9_1 := ha1.ext E8
    have c9_0 := ha0.ext c9_1.2
    have K8 : Keep h0 h8 [] := (Keep.refl h0 []).ext E8
    have Z8 : n0 ≤ h8.size := Nat.le_trans Z0 E8.1
    have V8 : AV Z h8 b8 .int 1 (fun k => .int ((fun _ => (0 : Int32)) k)) := by have q := AV.new A8; exact q
    refine Go.via st8 ?_
    show Go p e below _ (T8.setTop (mkF m 74 #[.val (.int p0), .val (.int p1), .val (.int p2), .val (.int p3), .val (.int p4), .val (.int (1 : Int32)), .val (.int (w0_0 p0 p1)), .val (.int (w0_1 p0 p2)), .val (.int (w0_2 p0 p3)), .val (.int (w0_3 p0 p4)), .unset, .unset, .unset] [(.ref b8)]))
    refine Go.via (T' := T8.setTop (mkF m 86 #[.val (.int p0), .val (.int p1), .val (.int p2), .val (.int p3), .val (.int p4), .val (.int (1 : Int32)), .val (.int (w0_0 p0 p1)), .val (.int (w0_1 p0 p2)), .val (.int (w0_2 p0 p3)), .val (.int (w0_3 p0 p4)), .val (.ref b8), .unset, .unset] [(.int (w0_0 p0 p1)), (.int (0 : Int32)), (.ref b8)])) (fun tZ kZ => ?_) ?_
    · show Steps p.tables e below (T8.setTop (mkF m 74 #[.val (.int p0), .val (.int p1), .val (.int p2), .val (.int p3), .val (.int p4), .val (.int (1 : Int32)), .val (.int (w0_0 p0 p1)), .val (.int (w0_1 p0 p2)), .val (.int (w0_2 p0 p3)), .val (.int (w0_3 p0 p4)), .unset, .unset, .unset] [(.ref b8)])) _
      refine XS.astore X8.here hx rfl (hb hby at_74) rfl rfl (l' := #[.val (.int p0), .val (.int p1), .val (.int p2), .val (.int p3), .val (.int p4), .val (.int (1 : Int32)), .val (.int (w0_0 p0 p1)), .val (.int (w0_1 p0 p2)), .val (.int (w0_2 p0 p3)), .val (.int (w0_3 p0 p4)), .val (.ref b8), .unset, .unset]) rfl ?_
      show Steps p.tables e below (T8.setTop (mkF m 76 #[.val (.int p0), .val (.int p1), .val (.int p2), .val (.int p3), .val (.int p4), .val (.int (1 : Int32)), .val (.int (w0_0 p0 p1)), .val (.int (w0_1 p0 p2)), .val (.int (w0_2 p0 p3)), .val (.int (w0_3 p0 p4)), .val (.ref b8), .unset, .unset] [])) _
      refine XS.iload X8.here hx rfl (hb hby at_76) rfl ?_
      show Steps p.tables e below (T8.setTop (mkF m 78 #[.val (.int p0), .val (.int p1), .val (.int p2), .val (.int p3), .val (.int p4), .val (.int (1 : Int32)), .val (.int (w0_0 p0 p1)), .val (.int (w0_1 p0 p2)), .val (.int (w0_2 p0 p3)), .val (.int (w0_3 p0 p4)), .val (.ref b8), .unset, .unset] [(.int (1 : Int32))])) _
      refine XS.ifNo X8.here hx rfl (hb hby at_78) rfl ((if0 _ _).trans (tlt (by decide)).2.2.2) ?_
      show Steps p.tables e below (T8.setTop (mkF m 81 #[.val (.int p0), .val (.int p1), .val (.int p2), .val (.int p3), .val (.int p4), .val (.int (1 : Int32)), .val (.int (w0_0 p0 p1)), .val (.int (w0_1 p0 p2)), .val (.int (w0_2 p0 p3)), .val (.int (w0_3 p0 p4)), .val (.ref b8), .unset, .unset] [])) _
      refine XS.aload X8.here hx rfl (hb hby at_81) rfl rfl ?_
      show Steps p.tables e below (T8.setTop (mkF m 83 #[.val (.int p0), .val (.int p1), .val (.int p2), .val (.int p3), .val (.int p4), .val (.int (1 : Int32)), .val (.int (w0_0 p0 p1)), .val (.int (w0_1 p0 p2)), .val (.int (w0_2 p0 p3)), .val (.int (w0_3 p0 p4)), .val (.ref b8), .unset, .unset] [(.ref b8)])) _
      refine XS.iconst X8.here hx rfl (hb hby at_83) ?_
      show Steps p.tables e below (T8.setTop (mkF m 84 #[.val (.int p0), .val (.int p1), .val (.int p2), .val (.int p3), .val (.int p4), .val (.int (1 : Int32)), .val (.int (w0_0 p0 p1)), .val (.int (w0_1 p0 p2)), .val (.int (w0_2 p0 p3)), .val (.int (w0_3 p0 p4)), .val (.ref b8), .unset, .unset] [(.int (0 : Int32)), (.ref b8)])) _
      refine XS.iload X8.here hx rfl (hb hby at_84) rfl ?_
      show Steps p.tables e below (T8.setTop (mkF m 86 #[.val (.int p0), .val (.int p1), .val (.int p2), .val (.int p3), .val (.int p4), .val (.int (1 : Int32)), .val (.int (w0_0 p0 p1)), .val (.int (w0_1 p0 p2)), .val (.int (w0_2 p0 p3)), .val (.int (w0_3 p0 p4)), .val (.ref b8), .unset, .unset] [(.int (w0_0 p0 p1)), (.int (0 : Int32)), (.ref b8)])) _
      exact kZ
    obtain ⟨T10, h10, X10, e10, W10, V10, st10⟩ := AV.iastore V8 X8 hx hZ e8 (j := (0 : Int32)) (by decide) (Ls := #[.val (.int p0), .val (.int p1), .val (.int p2), .val (.int p3), .val (.int p4), .val (.int (1 : Int32)), .val (.int (w0_0 p0 p1)), .val (.int (w0_1 p0 p2)), .val (.int (w0_2 p0 p3)), .val (.int (w0_3 p0 p4)), .val (.ref b8), .unset, .unset]) (rest := []) (hb hby at_86) (x := (w0_0 p0 p1))
    have N10 := Fr.snoc X10 N0 g_b8
    have c11_1 := c9_1.wr W10 g_b8
    have c11_0 := ha0.ext c11_1.2
    have c11_3 := B8.wr W10
    have K10 : Keep h0 h10 [] := K8.wr W10 (Or.inr sz_b8)
    have Z10 : n0 ≤ h10.size := Nat.le_trans Z8 (Keep.of_wr W10).1
    refine Go.via st10 ?_
    show Go p e below _ (T10.setTop (mkF m 87 #[.val (.int p0), .val (.int p1), .val (.int p2), .val (.int p3), .val (.int p4), .val (.int (1 : Int32)), .val (.int (w0_0 p0 p1)), .val (.int (w0_1 p0 p2)), .val (.int (w0_2 p0 p3)), .val (.int (w0_3 p0 p4)), .val (.ref b8), .unset, .unset] []))
    refine Go.via (T' := T10.setTop (mkF m 123 #[.val (.int p0), .val (.int p1), .val (.int p2), .val (.int p3), .val (.int p4), .val (.int (1 : Int32)), .val (.int (w0_0 p0 p1)), .val (.int (w0_1 p0 p2)), .val (.int (w0_2 p0 p3)), .val (.int (w0_3 p0 p4)), .val (.ref b8), .unset, .unset] [])) (fun tZ kZ => ?_) ?_
    · show Steps p.tables e below (T10.setTop (mkF m 87 #[.val (.int p0), .val (.int p1), .val (.int p2), .val (.int p3), .val (.int p4), .val (.int (1 : Int32)), .val (.int (w0_0 p0 p1)), .val (.int (w0_1 p0 p2)), .val (.int (w0_2 p0 p3)), .val (.int (w0_3 p0 p4)), .val (.ref b8), .unset, .unset] [])) _
      refine XS.iload X10.here hx rfl (hb hby at_87) rfl ?_
      show Steps p.tables e below (T10.setTop (mkF m 89 #[.val (.int p0), .val (.int p1), .val (.int p2), .val (.int p3), .val (.int p4), .val (.int (1 : Int32)), .val (.int (w0_0 p0 p1)), .val (.int (w0_1 p0 p2)), .val (.int (w0_2 p0 p3)), .val (.int (w0_3 p0 p4)), .val (.ref b8), .unset, .unset] [(.int (1 : Int32))])) _
      refine XS.iconst X10.here hx rfl (hb hby at_89) ?_
      show Steps p.tables e below (T10.setTop (mkF m 90 #[.val (.int p0), .val (.int p1), .val (.int p2), .val (.int p3), .val (.int p4), .val (.int (1 : Int32)), .val (.int (w0_0 p0 p1)), .val (.int (w0_1 p0 p2)), .val (.int (w0_2 p0 p3)), .val (.int (w0_3 p0 p4)), .val (.ref b8), .unset, .unset] [(.int (1 : Int32)), (.int (1 : Int32))])) _
      refine XS.icmpYes X10.here hx rfl (pc0 := 90) (pc' := 99) rfl (hb hby at_90) rfl (flt (by decide)).2.2.2 (by decide) (by decide) ?_
      show Steps p.tables e below (T10.setTop (mkF m 99 #[.val (.int p0), .val (.int p1), .val (.int p2), .val (.int p3), .val (.int p4), .val (.int (1 : Int32)), .val (.int (w0_0 p0 p1)), .val (.int (w0_1 p0 p2)), .val (.int (w0_2 p0 p3)), .val (.int (w0_3 p0 p4)), .val (.ref b8), .unset, .unset] [])) _
      refine XS.iload X10.here hx rfl (hb hby at_99) rfl ?_
      show Steps p.tables e below (T10.setTop (mkF m 101 #[.val (.int p0), .val (.int p1), .val (.int p2), .val (.int p3), .val (.int p4), .val (.int (1 : Int32)), .val (.int (w0_0 p0 p1)), .val (.int (w0_1 p0 p2)), .val (.int (w0_2 p0 p3)), .val (.int (w0_3 p0 p4)), .val (.ref b8), .unset, .unset] [(.int (1 : Int32))])) _
      refine XS.iconst X10.here hx rfl (hb hby at_101) ?_
      show Steps p.tables e below (T10.setTop (mkF m 102 #[.val (.int p0), .val (.int p1), .val (.int p2), .val (.int p3), .val (.int p4), .val (.int (1 : Int32)), .val (.int (w0_0 p0 p1)), .val (.int (w0_1 p0 p2)), .val (.int (w0_2 p0 p3)), .val (.int (w0_3 p0 p4)), .val (.ref b8), .unset, .unset] [(.int (2 : Int32)), (.int (1 : Int32))])) _
      refine XS.icmpYes X10.here hx rfl (pc0 := 102) (pc' := 111) rfl (hb hby at_102) rfl (flt (by decide)).2.2.2 (by decide) (by decide) ?_
      show Steps p.tables e below (T10.setTop (mkF m 111 #[.val (.int p0), .val (.int p1), .val (.int p2), .val (.int p3), .val (.int p4), .val (.int (1 : Int32)), .val (.int (w0_0 p0 p1)), .val (.int (w0_1 p0 p2)), .val (.int (w0_2 p0 p3)), .val (.int (w0_3 p0 p4)), .val (.ref b8), .unset, .unset] [])) _
      refine XS.iload X10.here hx rfl (hb hby at_111) rfl ?_
      show Steps p.tables e below (T10.setTop (mkF m 113 #[.val (.int p0), .val (.int p1), .val (.int p2), .val (.int p3), .val (.int p4), .val (.int (1 : Int32)), .val (.int (w0_0 p0 p1)), .val (.int (w0_1 p0 p2)), .val (.int (w0_2 p0 p3)), .val (.int (w0_3 p0 p4)), .val (.ref b8), .unset, .unset] [(.int (1 : Int32))])) _
      refine XS.iconst X10.here hx rfl (hb hby at_113) ?_
      show Steps p.tables e below (T10.setTop (mkF m 114 #[.val (.int p0), .val (.int p1), .val (.int p2), .val (.int p3), .val (.int p4), .val (.int (1 : Int32)), .val (.int (w0_0 p0 p1)), .val (.int (w0_1 p0 p2)), .val (.int (w0_2 p0 p3)), .val (.int (w0_3 p0 p4)), .val (.ref b8), .unset, .unset] [(.int (3 : Int32)), (.int (1 : Int32))])) _
      refine XS.icmpYes X10.here hx rfl (pc0 := 114) (pc' := 123) rfl (hb hby at_114) rfl (flt (by decide)).2.2.2 (by decide) (by decide) ?_
      show Steps p.tables e below (T10.setTop (mkF m 123 #[.val (.int p0), .val (.int p1), .val (.int p2), .val (.int p3), .val (.int p4), .val (.int (1 : Int32)), .val (.int (w0_0 p0 p1)), .val (.int (w0_1 p0 p2)), .val (.int (w0_2 p0 p3)), .val (.int (w0_3 p0 p4)), .val (.ref b8), .unset, .unset] [])) _
      exact kZ
    obtain ⟨T12, h12, X12, e12, E12, A12, D12, -, st12⟩ := newO X10 hx hZ hown (hw _ (List.mem_of_getElem? (i := 1) rfl)) (hw _ (List.mem_of_getElem? (i := 2) rfl)) (hw _ (List.mem_of_getElem? (i := 3) rfl)) e10 (g := (mkF m 123 #[.val (.int p0), .val (.int p1), .val (.int p2), .val (.int p3), .val (.int p4), .val (.int (1 : Int32)), .val (.int (w0_0 p0 p1)), .val (.int (w0_1 p0 p2)), .val (.int (w0_2 p0 p3)), .val (.int (w0_3 p0 p4)), .val (.ref b8), .unset, .unset] [])) rfl (hb hby at_123) (by decide) (by decide)
    obtain ⟨b12, g12⟩ : ∃ z, z = h10.size := ⟨_, rfl⟩
    rw [← g12] at A12 D12 st12
    have g_b12 : n0 ≤ b12 := Nat.le_trans Z10 (Nat.le_of_eq g12.symm)
    have sz_b12 : h0.size ≤ b12 := Nat.le_trans (K10).1 (Nat.le_of_eq g12.symm)
    have ne_b8_b12 : b8 ≠ b12 := Nat.ne_of_lt (Nat.lt_of_lt_of_le c11_3.lt (Nat.le_of_eq g12.symm))
    have c13_1 := c11_1.ext E12
    have c13_0 := ha0.ext c13_1.2
    have c13_3 := c11_3.ext E12
    have c13_4 := V10.ext E12
    have K12 : Keep h0 h12 [] := K10.ext E12
    have Z12 : n0 ≤ h12.size := Nat.le_trans Z10 E12.1
    have F12_transitions : Fld Z h12 b12 "com/example/ltlconv/ltlconv/dra/RabinDraft" "transitions" "Ljava/util/List;" .null := D12 (Or.inr (hw _ (List.mem_of_getElem? (i := 35) rfl))) (ty := (.object "java/util/List")) (by decide)
    have F12_infiniteCounts : Fld Z h12 b12 "com/example/ltlconv/ltlconv/dra/RabinDraft" "infiniteCounts" "[I" .null := D12 (Or.inr (hw _ (List.mem_of_getElem? (i := 46) rfl))) (ty := (.array .int)) (by decide)
    have F12_finiteSets : Fld Z h12 b12 "com/example/ltlconv/ltlconv/dra/RabinDraft" "finiteSets" "[I" .null := D12 (Or.inr (hw _ (List.mem_of_getElem? (i := 48) rfl))) (ty := (.array .int)) (by decide)
    refine Go.via st12 ?_
    show Go p e below _ (T12.setTop (mkF m 126 #[.val (.int p0), .val (.int p1), .val (.int p2), .val (.int p3), .val (.int p4), .val (.int (1 : Int32)), .val (.int (w0_0 p0 p1)), .val (.int (w0_1 p0 p2)), .val (.int (w0_2 p0 p3)), .val (.int (w0_3 p0 p4)), .val (.ref b8), .unset, .unset] [(.ref b12)]))
    refine Go.via (T' := T12.setTop (mkF m 129 #[.val (.int p0), .val (.int p1), .val (.int p2), .val (.int p3), .val (.int p4), .val (.int (1 : Int32)), .val (.int (w0_0 p0 p1)), .val (.int (w0_1 p0 p2)), .val (.int (w0_2 p0 p3)), .val (.int (w0_3 p0 p4)), .val (.ref b8), .unset, .unset] [(.ref b8), (.ref b12), (.ref b12)])) (fun tZ kZ => ?_) ?_
    · show Steps p.tables e below (T12.setTop (mkF m 126 #[.val (.int p0), .val (.int p1), .val (.int p2), .val (.int p3), .val (.int p4), .val (.int (1 : Int32)), .val (.int (w0_0 p0 p1)), .val (.int (w0_1 p0 p2)), .val (.int (w0_2 p0 p3)), .val (.int (w0_3 p0 p4)), .val (.ref b8), .unset, .unset] [(.ref b12)])) _
      refine XS.dup X12.here hx rfl (hb hby at_126) rfl rfl ?_
      show Steps p.tables e below (T12.setTop (mkF m 127 #[.val (.int p0), .val (.int p1), .val (.int p2), .val (.int p3), .val (.int p4), .val (.int (1 : Int32)), .val (.int (w0_0 p0 p1)), .val (.int (w0_1 p0 p2)), .val (.int (w0_2 p0 p3)), .val (.int (w0_3 p0 p4)), .val (.ref b8), .unset, .unset] [(.ref b12), (.ref b12)])) _
      refine XS.aload X12.here hx rfl (hb hby at_127) rfl rfl ?_
      show Steps p.tables e below (T12.setTop (mkF m 129 #[.val (.int p0), .val (.int p1), .val (.int p2), .val (.int p3), .val (.int p4), .val (.int (1 : Int32)), .val (.int (w0_0 p0 p1)), .val (.int (w0_1 p0 p2)), .val (.int (w0_2 p0 p3)), .val (.int (w0_3 p0 p4)), .val (.ref b8), .unset, .unset] [(.ref b8), (.ref b12), (.ref b12)])) _
      exact kZ
    obtain ⟨_, _, ⟨T14, L14, k14, n14⟩, -, X14, ⟨Lc14, hQ14, l14, y14, z14⟩, st14⟩ := X12.specialBack hx (y := (⟨"com/example/ltlconv/ltlconv/dra/RabinDraft", "<init>", "([I)V"⟩ : MethodName)) rfl hown (mvT hZ (hw _ (List.mem_of_getElem? (i := 4) rfl))) (mvT hZ (hw _ (List.mem_of_getElem? (i := 5) rfl))) (mvT hZ (hw _ (List.mem_of_getElem? (i := 6) rfl))) (by decide) (backOf (W := 1) (rm1n1 l Z a0 hw [] b12 b8 (up (fun _ => (0 : Int32)) (0 : Int32).toNatClampNeg (w0_0 p0 p1)) aD h12 n0 Z12 A12 F12_transitions F12_infiniteCounts F12_finiteSets g_b12 c13_4 c13_3 c13_0 (Ne.symm ne_b8_b12)) hZ (hw _ (List.mem_of_getElem? (i := 6) rfl)) (hw _ (List.mem_of_getElem? (i := 3) rfl)) (by decide) (by decide)) (g := (mkF m 129 #[.val (.int p0), .val (.int p1), .val (.int p2), .val (.int p3), .val (.int p4), .val (.int (1 : Int32)), .val (.int (w0_0 p0 p1)), .val (.int (w0_1 p0 p2)), .val (.int (w0_2 p0 p3)), .val (.int (w0_3 p0 p4)), .val (.ref b8), .unset, .unset] [(.ref b8), (.ref b12), (.ref b12)])) rfl (by rw [hml]; rfl) (Steps.refl _) (a := b12) (argsL := [(.ref b8)]) (rest := [(.ref b12)]) (lenOf pd_0 rfl) rfl (by show 2 * 0 + _ ≤ _; exact Nat.le_of_eq rfl) (hb hby at_129) (fun _ _ => ⟨rfl, e12, (by decide : 0 + 1 + 1 + 3 ≤ _), (by decide : 0 + 1 + 4 + 5 ≤ _)⟩)
    dsimp only [Pt.U, Pt.locs, Pt.cells, Pt.slots] at X14 l14 y14 z14 st14 hQ14
    subst l14 y14 z14
    obtain ⟨rfl, N14q, b14_0, hz_b14_0, Kq14, f14_0, f14_1, f14_2, f14_3, f14_4, f14_5, f14_6⟩ := hQ14
    have g_b14_0 : n0 ≤ b14_0 := Nat.le_trans Z12 hz_b14_0
    have sz_b14_0 : h0.size ≤ b14_0 := Nat.le_trans (K12).1 hz_b14_0
    have ne_b8_b14_0 : b8 ≠ b14_0 := Nat.ne_of_lt (Nat.lt_of_lt_of_le c13_3.lt hz_b14_0)
    have ne_b12_b14_0 : b12 ≠ b14_0 := Nat.ne_of_lt (Nat.lt_of_lt_of_le A12.lt hz_b14_0)
    have c15_1 := c13_1.keep Kq14 (allS g_b12 all0)
    have K14 : Keep h0 T14.heap [] := K12.trans Kq14 (allS (Or.inr sz_b12) all0)
    have Z14 : n0 ≤ T14.heap.size := Nat.le_trans Z12 Kq14.1
    have N14 := Fr.app N10 N14q
    refine Go.via (fun t k => st14.trans k) ?_
    show Go p e below _ (T14.setTop (mkF m 132 #[.val (.int p0), .val (.int p1), .val (.int p2), .val (.int p3), .val (.int p4), .val (.int (1 : Int32)), .val (.int (w0_0 p0 p1)), .val (.int (w0_1 p0 p2)), .val (.int (w0_2 p0 p3)), .val (.int (w0_3 p0 p4)), .val (.ref b8), .unset, .unset] [(.ref b12)]))
    refine Go.via (T' := T14.setTop (mkF m 191 #[.val (.int p0), .val (.int p1), .val (.int p2), .val (.int p3), .val (.int p4), .val (.int (1 : Int32)), .val (.int (w0_0 p0 p1)), .val (.int (w0_1 p0 p2)), .val (.int (w0_2 p0 p3)), .val (.int (w0_3 p0 p4)), .val (.ref b8), .val (.ref b12), .val (.int (w0_4 p0 p1))] [(.ref b12)])) (fun tZ kZ => ?_) ?_
    · show Steps p.tables e below (T14.setTop (mkF m 132 #[.val (.int p0), .val (.int p1), .val (.int p2), .val (.int p3), .val (.int p4), .val (.int (1 : Int32)), .val (.int (w0_0 p0 p1)), .val (.int (w0_1 p0 p2)), .val (.int (w0_2 p0 p3)), .val (.int (w0_3 p0 p4)), .val (.ref b8), .unset, .unset] [(.ref b12)])) _
      refine XS.astore X14.here hx rfl (hb hby at_132) rfl rfl (l' := #[.val (.int p0), .val (.int p1), .val (.int p2), .val (.int p3), .val (.int p4), .val (.int (1 : Int32)), .val (.int (w0_0 p0 p1)), .val (.int (w0_1 p0 p2)), .val (.int (w0_2 p0 p3)), .val (.int (w0_3 p0 p4)), .val (.ref b8), .val (.ref b12), .unset]) rfl ?_
      show Steps p.tables e below (T14.setTop (mkF m 134 #[.val (.int p0), .val (.int p1), .val (.int p2), .val (.int p3), .val (.int p4), .val (.int (1 : Int32)), .val (.int (w0_0 p0 p1)), .val (.int (w0_1 p0 p2)), .val (.int (w0_2 p0 p3)), .val (.int (w0_3 p0 p4)), .val (.ref b8), .val (.ref b12), .unset] [])) _
      refine XS.iload X14.here hx rfl (hb hby at_134) rfl ?_
      show Steps p.tables e below (T14.setTop (mkF m 136 #[.val (.int p0), .val (.int p1), .val (.int p2), .val (.int p3), .val (.int p4), .val (.int (1 : Int32)), .val (.int (w0_0 p0 p1)), .val (.int (w0_1 p0 p2)), .val (.int (w0_2 p0 p3)), .val (.int (w0_3 p0 p4)), .val (.ref b8), .val (.ref b12), .unset] [(.int (1 : Int32))])) _
      refine XS.iconst X14.here hx rfl (hb hby at_136) ?_
      show Steps p.tables e below (T14.setTop (mkF m 137 #[.val (.int p0), .val (.int p1), .val (.int p2), .val (.int p3), .val (.int p4), .val (.int (1 : Int32)), .val (.int (w0_0 p0 p1)), .val (.int (w0_1 p0 p2)), .val (.int (w0_2 p0 p3)), .val (.int (w0_3 p0 p4)), .val (.ref b8), .val (.ref b12), .unset] [(.int (1 : Int32)), (.int (1 : Int32))])) _
      refine XS.icmpNo X14.here hx rfl (hb hby at_137) rfl (flt (by decide)).1 ?_
      show Steps p.tables e below (T14.setTop (mkF m 140 #[.val (.int p0), .val (.int p1), .val (.int p2), .val (.int p3), .val (.int p4), .val (.int (1 : Int32)), .val (.int (w0_0 p0 p1)), .val (.int (w0_1 p0 p2)), .val (.int (w0_2 p0 p3)), .val (.int (w0_3 p0 p4)), .val (.ref b8), .val (.ref b12), .unset] [])) _
      refine XS.iload X14.here hx rfl (hb hby at_140) rfl ?_
      show Steps p.tables e below (T14.setTop (mkF m 142 #[.val (.int p0), .val (.int p1), .val (.int p2), .val (.int p3), .val (.int p4), .val (.int (1 : Int32)), .val (.int (w0_0 p0 p1)), .val (.int (w0_1 p0 p2)), .val (.int (w0_2 p0 p3)), .val (.int (w0_3 p0 p4)), .val (.ref b8), .val (.ref b12), .unset] [(.int (w0_0 p0 p1))])) _
      refine XS.iconst X14.here hx rfl (hb hby at_142) ?_
      show Steps p.tables e below (T14.setTop (mkF m 143 #[.val (.int p0), .val (.int p1), .val (.int p2), .val (.int p3), .val (.int p4), .val (.int (1 : Int32)), .val (.int (w0_0 p0 p1)), .val (.int (w0_1 p0 p2)), .val (.int (w0_2 p0 p3)), .val (.int (w0_3 p0 p4)), .val (.ref b8), .val (.ref b12), .unset] [(.int (1 : Int32)), (.int (w0_0 p0 p1))])) _
      have sg143 : Steps p.tables e below (T14.setTop (mkF m 187 #[.val (.int p0), .val (.int p1), .val (.int p2), .val (.int p3), .val (.int p4), .val (.int (1 : Int32)), .val (.int (w0_0 p0 p1)), .val (.int (w0_1 p0 p2)), .val (.int (w0_2 p0 p3)), .val (.int (w0_3 p0 p4)), .val (.ref b8), .val (.ref b12), .unset] [(.int (if (w0_0 p0 p1) = (1 : Int32) then (1 : Int32) else (0 : Int32)))])) tZ → Steps p.tables e below (T14.setTop (mkF m 143 #[.val (.int p0), .val (.int p1), .val (.int p2), .val (.int p3), .val (.int p4), .val (.int (1 : Int32)), .val (.int (w0_0 p0 p1)), .val (.int (w0_1 p0 p2)), .val (.int (w0_2 p0 p3)), .val (.int (w0_3 p0 p4)), .val (.ref b8), .val (.ref b12), .unset] [(.int (1 : Int32)), (.int (w0_0 p0 p1))])) tZ := by
        intro kj
        by_cases hc143 : (w0_0 p0 p1) = (1 : Int32)
        · try simp only [if_pos hc143] at kj
          refine XS.icmpNo X14.here hx rfl (hb hby at_143) rfl (teq hc143).2 ?_
          show Steps p.tables e below (T14.setTop (mkF m 146 #[.val (.int p0), .val (.int p1), .val (.int p2), .val (.int p3), .val (.int p4), .val (.int (1 : Int32)), .val (.int (w0_0 p0 p1)), .val (.int (w0_1 p0 p2)), .val (.int (w0_2 p0 p3)), .val (.int (w0_3 p0 p4)), .val (.ref b8), .val (.ref b12), .unset] [])) _
          refine XS.iload X14.here hx rfl (hb hby at_146) rfl ?_
          show Steps p.tables e below (T14.setTop (mkF m 148 #[.val (.int p0), .val (.int p1), .val (.int p2), .val (.int p3), .val (.int p4), .val (.int (1 : Int32)), .val (.int (w0_0 p0 p1)), .val (.int (w0_1 p0 p2)), .val (.int (w0_2 p0 p3)), .val (.int (w0_3 p0 p4)), .val (.ref b8), .val (.ref b12), .unset] [(.int (1 : Int32))])) _
          refine XS.iconst X14.here hx rfl (hb hby at_148) ?_
          show Steps p.tables e below (T14.setTop (mkF m 149 #[.val (.int p0), .val (.int p1), .val (.int p2), .val (.int p3), .val (.int p4), .val (.int (1 : Int32)), .val (.int (w0_0 p0 p1)), .val (.int (w0_1 p0 p2)), .val (.int (w0_2 p0 p3)), .val (.int (w0_3 p0 p4)), .val (.ref b8), .val (.ref b12), .unset] [(.int (2 : Int32)), (.int (1 : Int32))])) _
          refine XS.icmpYes X14.here hx rfl (pc0 := 149) (pc' := 158) rfl (hb hby at_149) rfl (tlt (by decide)).1 (by decide) (by decide) ?_
          show Steps p.tables e below (T14.setTop (mkF m 158 #[.val (.int p0), .val (.int p1), .val (.int p2), .val (.int p3), .val (.int p4), .val (.int (1 : Int32)), .val (.int (w0_0 p0 p1)), .val (.int (w0_1 p0 p2)), .val (.int (w0_2 p0 p3)), .val (.int (w0_3 p0 p4)), .val (.ref b8), .val (.ref b12), .unset] [])) _
          refine XS.iload X14.here hx rfl (hb hby at_158) rfl ?_
          show Steps p.tables e below (T14.setTop (mkF m 160 #[.val (.int p0), .val (.int p1), .val (.int p2), .val (.int p3), .val (.int p4), .val (.int (1 : Int32)), .val (.int (w0_0 p0 p1)), .val (.int (w0_1 p0 p2)), .val (.int (w0_2 p0 p3)), .val (.int (w0_3 p0 p4)), .val (.ref b8), .val (.ref b12), .unset] [(.int (1 : Int32))])) _
          refine XS.iconst X14.here hx rfl (hb hby at_160) ?_
          show Steps p.tables e below (T14.setTop (mkF m 161 #[.val (.int p0), .val (.int p1), .val (.int p2), .val (.int p3), .val (.int p4), .val (.int (1 : Int32)), .val (.int (w0_0 p0 p1)), .val (.int (w0_1 p0 p2)), .val (.int (w0_2 p0 p3)), .val (.int (w0_3 p0 p4)), .val (.ref b8), .val (.ref b12), .unset] [(.int (3 : Int32)), (.int (1 : Int32))])) _
          refine XS.icmpYes X14.here hx rfl (pc0 := 161) (pc' := 170) rfl (hb hby at_161) rfl (tlt (by decide)).1 (by decide) (by decide) ?_
          show Steps p.tables e below (T14.setTop (mkF m 170 #[.val (.int p0), .val (.int p1), .val (.int p2), .val (.int p3), .val (.int p4), .val (.int (1 : Int32)), .val (.int (w0_0 p0 p1)), .val (.int (w0_1 p0 p2)), .val (.int (w0_2 p0 p3)), .val (.int (w0_3 p0 p4)), .val (.ref b8), .val (.ref b12), .unset] [])) _
          refine XS.iload X14.here hx rfl (hb hby at_170) rfl ?_
          show Steps p.tables e below (T14.setTop (mkF m 172 #[.val (.int p0), .val (.int p1), .val (.int p2), .val (.int p3), .val (.int p4), .val (.int (1 : Int32)), .val (.int (w0_0 p0 p1)), .val (.int (w0_1 p0 p2)), .val (.int (w0_2 p0 p3)), .val (.int (w0_3 p0 p4)), .val (.ref b8), .val (.ref b12), .unset] [(.int (1 : Int32))])) _
          refine XS.iconst X14.here hx rfl (hb hby at_172) ?_
          show Steps p.tables e below (T14.setTop (mkF m 173 #[.val (.int p0), .val (.int p1), .val (.int p2), .val (.int p3), .val (.int p4), .val (.int (1 : Int32)), .val (.int (w0_0 p0 p1)), .val (.int (w0_1 p0 p2)), .val (.int (w0_2 p0 p3)), .val (.int (w0_3 p0 p4)), .val (.ref b8), .val (.ref b12), .unset] [(.int (4 : Int32)), (.int (1 : Int32))])) _
          refine XS.icmpYes X14.here hx rfl (pc0 := 173) (pc' := 182) rfl (hb hby at_173) rfl (tlt (by decide)).1 (by decide) (by decide) ?_
          show Steps p.tables e below (T14.setTop (mkF m 182 #[.val (.int p0), .val (.int p1), .val (.int p2), .val (.int p3), .val (.int p4), .val (.int (1 : Int32)), .val (.int (w0_0 p0 p1)), .val (.int (w0_1 p0 p2)), .val (.int (w0_2 p0 p3)), .val (.int (w0_3 p0 p4)), .val (.ref b8), .val (.ref b12), .unset] [])) _
          refine XS.iconst X14.here hx rfl (hb hby at_182) ?_
          show Steps p.tables e below (T14.setTop (mkF m 183 #[.val (.int p0), .val (.int p1), .val (.int p2), .val (.int p3), .val (.int p4), .val (.int (1 : Int32)), .val (.int (w0_0 p0 p1)), .val (.int (w0_1 p0 p2)), .val (.int (w0_2 p0 p3)), .val (.int (w0_3 p0 p4)), .val (.ref b8), .val (.ref b12), .unset] [(.int (1 : Int32))])) _
          refine XS.goto X14.here hx rfl (pc0 := 183) (pc' := 187) rfl (hb hby at_183) (by decide) (by decide) ?_
          show Steps p.tables e below (T14.setTop (mkF m 187 #[.val (.int p0), .val (.int p1), .val (.int p2), .val (.int p3), .val (.int p4), .val (.int (1 : Int32)), .val (.int (w0_0 p0 p1)), .val (.int (w0_1 p0 p2)), .val (.int (w0_2 p0 p3)), .val (.int (w0_3 p0 p4)), .val (.ref b8), .val (.ref b12), .unset] [(.int (1 : Int32))])) _
          exact kj
        · try simp only [if_neg hc143] at kj
          refine XS.icmpYes X14.here hx rfl (pc0 := 143) (pc' := 186) rfl (hb hby at_143) rfl (feq hc143).2 (by decide) (by decide) ?_
          show Steps p.tables e below (T14.setTop (mkF m 186 #[.val (.int p0), .val (.int p1), .val (.int p2), .val (.int p3), .val (.int p4), .val (.int (1 : Int32)), .val (.int (w0_0 p0 p1)), .val (.int (w0_1 p0 p2)), .val (.int (w0_2 p0 p3)), .val (.int (w0_3 p0 p4)), .val (.ref b8), .val (.ref b12), .unset] [])) _
          refine XS.iconst X14.here hx rfl (hb hby at_186) ?_
          show Steps p.tables e below (T14.setTop (mkF m 187 #[.val (.int p0), .val (.int p1), .val (.int p2), .val (.int p3), .val (.int p4), .val (.int (1 : Int32)), .val (.int (w0_0 p0 p1)), .val (.int (w0_1 p0 p2)), .val (.int (w0_2 p0 p3)), .val (.int (w0_3 p0 p4)), .val (.ref b8), .val (.ref b12), .unset] [(.int (0 : Int32))])) _
          exact kj
      refine sg143 ?_
      show Steps p.tables e below (T14.setTop (mkF m 187 #[.val (.int p0), .val (.int p1), .val (.int p2), .val (.int p3), .val (.int p4), .val (.int (1 : Int32)), .val (.int (w0_0 p0 p1)), .val (.int (w0_1 p0 p2)), .val (.int (w0_2 p0 p3)), .val (.int (w0_3 p0 p4)), .val (.ref b8), .val (.ref b12), .unset] [(.int (w0_4 p0 p1))])) _
      refine XS.istore X14.here hx rfl (hb hby at_187) rfl (l' := #[.val (.int p0), .val (.int p1), .val (.int p2), .val (.int p3), .val (.int p4), .val (.int (1 : Int32)), .val (.int (w0_0 p0 p1)), .val (.int (w0_1 p0 p2)), .val (.int (w0_2 p0 p3)), .val (.int (w0_3 p0 p4)), .val (.ref b8), .val (.ref b12), .val (.int (w0_4 p0 p1))]) rfl ?_
      show Steps p.tables e below (T14.setTop (mkF m 189 #[.val (.int p0), .val (.int p1), .val (.int p2), .val (.int p3), .val (.int p4), .val (.int (1 : Int32)), .val (.int (w0_0 p0 p1)), .val (.int (w0_1 p0 p2)), .val (.int (w0_2 p0 p3)), .val (.int (w0_3 p0 p4)), .val (.ref b8), .val (.ref b12), .val (.int (w0_4 p0 p1))] [])) _
      refine XS.aload X14.here hx rfl (hb hby at_189) rfl rfl ?_
      show Steps p.tables e below (T14.setTop (mkF m 191 #[.val (.int p0), .val (.int p1), .val (.int p2), .val (.int p3), .val (.int p4), .val (.int (1 : Int32)), .val (.int (w0_0 p0 p1)), .val (.int (w0_1 p0 p2)), .val (.int (w0_2 p0 p3)), .val (.int (w0_3 p0 p4)), .val (.ref b8), .val (.ref b12), .val (.int (w0_4 p0 p1))] [(.ref b12)])) _
      exact kZ
    obtain ⟨cq16, kq16, q16a, q16b, q16c⟩ := isOf hZ rfl f14_0
    obtain ⟨_, _, ⟨T16, L16, k16, n16⟩, -, X16, ⟨Lc16, hQ16, l16, y16, z16⟩, st16⟩ := X14.virtualBack hx (y := (⟨"com/example/ltlconv/ltlconv/dra/RabinDraft", "isRabin", "()Z"⟩ : MethodName)) (z := (⟨"com/example/ltlconv/ltlconv/dra/RabinDraft", "isRabin", "()Z"⟩ : MethodName)) hown (mvT hZ (hw _ (List.mem_of_getElem? (i := 49) rfl))) (mvT hZ (hw _ (List.mem_of_getElem? (i := 50) rfl))) (notFace_of_selects (args := #[]) (mvT hZ (hw _ (List.mem_of_getElem? (i := 52) rfl)))) (mvT hZ (hw _ (List.mem_of_getElem? (i := 52) rfl))) (mvT hZ (hw _ (List.mem_of_getElem? (i := 51) rfl))) (by decide) (backOf (W := 0) (rm6n1 l Z a0 hw [] b12 b14_0 (up (fun _ => (0 : Int32)) (0 : Int32).toNatClampNeg (w0_0 p0 p1)) T14.heap n0 Z14 f14_1 f14_5) hZ (hw _ (List.mem_of_getElem? (i := 53) rfl)) (hw _ (List.mem_of_getElem? (i := 3) rfl)) (by decide) (by decide)) q16a q16c (g := (mkF m 191 #[.val (.int p0), .val (.int p1), .val (.int p2), .val (.int p3), .val (.int p4), .val (.int (1 : Int32)), .val (.int (w0_0 p0 p1)), .val (.int (w0_1 p0 p2)), .val (.int (w0_2 p0 p3)), .val (.int (w0_3 p0 p4)), .val (.ref b8), .val (.ref b12), .val (.int (w0_4 p0 p1))] [(.ref b12)])) rfl (by rw [hml]; rfl) (Steps.refl _) (argsL := []) (rest := []) (lenOf pd_3 rfl) rfl (by show 2 * 0 + _ ≤ _; exact Nat.le_of_eq rfl) (hb hby at_191) (fun _ _ => ⟨rfl, rfl, (by decide : 0 + 1 + 1 + 3 + 0 ≤ _), (by decide : 0 + 1 + 4 + 5 + 0 ≤ _)⟩)
    dsimp only [Pt.U, Pt.locs, Pt.cells, Pt.slots] at X16 l16 y16 z16 st16 hQ16
    subst l16 y16 z16
    obtain ⟨rfl, N16q, e16⟩ := hQ16
    have N16 := Fr.app N14 N16q
    refine Go.via (fun t k => st16.trans k) ?_
    show Go p e below _ (T16.setTop (mkF m 194 #[.val (.int p0), .val (.int p1), .val (.int p2), .val (.int p3), .val (.int p4), .val (.int (1 : Int32)), .val (.int (w0_0 p0 p1)), .val (.int (w0_1 p0 p2)), .val (.int (w0_2 p0 p3)), .val (.int (w0_3 p0 p4)), .val (.ref b8), .val (.ref b12), .val (.int (w0_4 p0 p1))] [(.int (f6n1 b12 b14_0 (up (fun _ => (0 : Int32)) (0 : Int32).toNatClampNeg (w0_0 p0 p1))))]))
    refine Go.via (T' := T16.setTop (mkF m 204 #[.val (.int p0), .val (.int p1), .val (.int p2), .val (.int p3), .val (.int p4), .val (.int (1 : Int32)), .val (.int (w0_0 p0 p1)), .val (.int (w0_1 p0 p2)), .val (.int (w0_2 p0 p3)), .val (.int (w0_3 p0 p4)), .val (.ref b8), .val (.ref b12), .val (.int (w0_4 p0 p1))] [(.int (1 : Int32))])) (fun tZ kZ => ?_) ?_
    · show Steps p.tables e below (T16.setTop (mkF m 194 #[.val (.int p0), .val (.int p1), .val (.int p2), .val (.int p3), .val (.int p4), .val (.int (1 : Int32)), .val (.int (w0_0 p0 p1)), .val (.int (w0_1 p0 p2)), .val (.int (w0_2 p0 p3)), .val (.int (w0_3 p0 p4)), .val (.ref b8), .val (.ref b12), .val (.int (w0_4 p0 p1))] [(.int (f6n1 b12 b14_0 (up (fun _ => (0 : Int32)) (0 : Int32).toNatClampNeg (w0_0 p0 p1))))])) _
      refine XS.iload X16.here hx rfl (hb hby at_194) rfl ?_
      show Steps p.tables e below (T16.setTop (mkF m 196 #[.val (.int p0), .val (.int p1), .val (.int p2), .val (.int p3), .val (.int p4), .val (.int (1 : Int32)), .val (.int (w0_0 p0 p1)), .val (.int (w0_1 p0 p2)), .val (.int (w0_2 p0 p3)), .val (.int (w0_3 p0 p4)), .val (.ref b8), .val (.ref b12), .val (.int (w0_4 p0 p1))] [(.int (w0_4 p0 p1)), (.int (f6n1 b12 b14_0 (up (fun _ => (0 : Int32)) (0 : Int32).toNatClampNeg (w0_0 p0 p1))))])) _
      refine XS.icmpNo X16.here hx rfl (hb hby at_196) rfl (teq (by first | (simp [f6n1, up, nar, Int32.toNatClampNeg]; done) | (simp [f6n1, up, nar, Int32.toNatClampNeg]; rfl))).2 ?_
      show Steps p.tables e below (T16.setTop (mkF m 199 #[.val (.int p0), .val (.int p1), .val (.int p2), .val (.int p3), .val (.int p4), .val (.int (1 : Int32)), .val (.int (w0_0 p0 p1)), .val (.int (w0_1 p0 p2)), .val (.int (w0_2 p0 p3)), .val (.int (w0_3 p0 p4)), .val (.ref b8), .val (.ref b12), .val (.int (w0_4 p0 p1))] [])) _
      refine XS.iconst X16.here hx rfl (hb hby at_199) ?_
      show Steps p.tables e below (T16.setTop (mkF m 200 #[.val (.int p0), .val (.int p1), .val (.int p2), .val (.int p3), .val (.int p4), .val (.int (1 : Int32)), .val (.int (w0_0 p0 p1)), .val (.int (w0_1 p0 p2)), .val (.int (w0_2 p0 p3)), .val (.int (w0_3 p0 p4)), .val (.ref b8), .val (.ref b12), .val (.int (w0_4 p0 p1))] [(.int (1 : Int32))])) _
      refine XS.goto X16.here hx rfl (pc0 := 200) (pc' := 204) rfl (hb hby at_200) (by decide) (by decide) ?_
      show Steps p.tables e below (T16.setTop (mkF m 204 #[.val (.int p0), .val (.int p1), .val (.int p2), .val (.int p3), .val (.int p4), .val (.int (1 : Int32)), .val (.int (w0_0 p0 p1)), .val (.int (w0_1 p0 p2)), .val (.int (w0_2 p0 p3)), .val (.int (w0_3 p0 p4)), .val (.ref b8), .val (.ref b12), .val (.int (w0_4 p0 p1))] [(.int (1 : Int32))])) _
      exact kZ
    refine Go.retN X16 hx Bd.notSynchronized (t := .boolean) Bd.returns (by simp) (hb hby at_204) (by decide) (by decide) ?_
    exact ⟨rfl, N16⟩
  · rw [hi]
    show Go p e below _ (s₁.setTop (mkF m 8 #[.val (.int p0), .val (.int p1), .val (.int p2), .val (.int p3), .val (.int p4), .val (.int (2 : Int32)), .unset, .unset, .unset, .unset, .unset, .unset, .unset] []))
    refine Go.via (T' := s₁.setTop (mkF m 72 #[.val (.int p0), .val (.int p1), .val (.int p2), .val (.int p3), .val (.int p4), .val (.int (2 : Int32)), .val (.int (w0_0 p0 p1)), .val (.int (w0_1 p0 p2)), .val (.int (w0_2 p0 p3)), .val (.int (w0_3 p0 p4)), .unset, .unset, .unset] [(.int (2 : Int32))])) (fun tZ kZ => ?_) ?_
    · show Steps p.tables e below (s₁.setTop (mkF m 8 #[.val (.int p0), .val (.int p1), .val (.int p2), .val (.int p3), .val (.int p4), .val (.int (2 : Int32)), .unset, .unset, .unset, .unset, .unset, .unset, .unset] [])) _
      refine XS.iloadN X0.here hx rfl (hb hby at_8) rfl ?_
      show Steps p.tables e below (s₁.setTop (mkF m 9 #[.val (.int p0), .val (.int p1), .val (.int p2), .val (.int p3), .val (.int p4), .val (.int (2 : Int32)), .unset, .unset, .unset, .unset, .unset, .unset, .unset] [(.int p0)])) _
      refine XS.iconst X0.here hx rfl (hb hby at_9) ?_
      show Steps p.tables e below (s₁.setTop (mkF m 10 #[.val (.int p0), .val (.int p1), .val (.int p2), .val (.int p3), .val (.int p4), .val (.int (2 : Int32)), .unset, .unset, .unset, .unset, .unset, .unset, .unset] [(.int (3 : Int32)), (.int p0)])) _
      refine XS.iushr X0.here hx rfl (hb hby at_10) rfl ?_
      show Steps p.tables e below (s₁.setTop (mkF m 11 #[.val (.int p0), .val (.int p1), .val (.int p2), .val (.int p3), .val (.int p4), .val (.int (2 : Int32)), .unset, .unset, .unset, .unset, .unset, .unset, .unset] [(.int ((p0.toUInt32 >>> ((3 : Int32) &&& 31).toUInt32).toInt32))])) _
      refine XS.iconst X0.here hx rfl (hb hby at_11) ?_
      show Steps p.tables e below (s₁.setTop (mkF m 12 #[.val (.int p0), .val (.int p1), .val (.int p2), .val (.int p3), .val (.int p4), .val (.int (2 : Int32)), .unset, .unset, .unset, .unset, .unset, .unset, .unset] [(.int (1 : Int32)), (.int ((p0.toUInt32 >>> ((3 : Int32) &&& 31).toUInt32).toInt32))])) _
      refine XS.iand X0.here hx rfl (hb hby at_12) rfl ?_
      show Steps p.tables e below (s₁.setTop (mkF m 13 #[.val (.int p0), .val (.int p1), .val (.int p2), .val (.int p3), .val (.int p4), .val (.int (2 : Int32)), .unset, .unset, .unset, .unset, .unset, .unset, .unset] [(.int (((p0.toUInt32 >>> ((3 : Int32) &&& 31).toUInt32).toInt32) &&& (1 : Int32)))])) _
      have sg13 : Steps p.tables e below (s₁.setTop (mkF m 21 #[.val (.int p0), .val (.int p1), .val (.int p2), .val (.int p3), .val (.int p4), .val (.int (2 : Int32)), .unset, .unset, .unset, .unset, .unset, .unset, .unset] [(.int (if (((p0.toUInt32 >>> ((3 : Int32) &&& 31).toUInt32).toInt32) &&& (1 : Int32)) = (0 : Int32) then p1 else (1 : Int32)))])) tZ → Steps p.tables e below (s₁.setTop (mkF m 13 #[.val (.int p0), .val (.int p1), .val (.int p2), .val (.int p3), .val (.int p4), .val (.int (2 : Int32)), .unset, .unset, .unset, .unset, .unset, .unset, .unset] [(.int (((p0.toUInt32 >>> ((3 : Int32) &&& 31).toUInt32).toInt32) &&& (1 : Int32)))])) tZ := by
        intro kj
        by_cases hc13 : (((p0.toUInt32 >>> ((3 : Int32) &&& 31).toUInt32).toInt32) &&& (1 : Int32)) = (0 : Int32)
        · try simp only [if_pos hc13] at kj
          refine XS.ifYes X0.here hx rfl (pc0 := 13) (pc' := 20) rfl (hb hby at_13) rfl ((if0 _ _).trans (teq hc13).1) (by decide) (by decide) ?_
          show Steps p.tables e below (s₁.setTop (mkF m 20 #[.val (.int p0), .val (.int p1), .val (.int p2), .val (.int p3), .val (.int p4), .val (.int (2 : Int32)), .unset, .unset, .unset, .unset, .unset, .unset, .unset] [])) _
          refine XS.iloadN X0.here hx rfl (hb hby at_20) rfl ?_
          show Steps p.tables e below (s₁.setTop (mkF m 21 #[.val (.int p0), .val (.int p1), .val (.int p2), .val (.int p3), .val (.int p4), .val (.int (2 : Int32)), .unset, .unset, .unset, .unset, .unset, .unset, .unset] [(.int p1)])) _
          exact kj
        · try simp only [if_neg hc13] at kj
          refine XS.ifNo X0.here hx rfl (hb hby at_13) rfl ((if0 _ _).trans (feq hc13).1) ?_
          show Steps p.tables e below (s₁.setTop (mkF m 16 #[.val (.int p0), .val (.int p1), .val (.int p2), .val (.int p3), .val (.int p4), .val (.int (2 : Int32)), .unset, .unset, .unset, .unset, .unset, .unset, .unset] [])) _
          refine XS.iconst X0.here hx rfl (hb hby at_16) ?_
          show Steps p.tables e below (s₁.setTop (mkF m 17 #[.val (.int p0), .val (.int p1), .val (.int p2), .val (.int p3), .val (.int p4), .val (.int (2 : Int32)), .unset, .unset, .unset, .unset, .unset, .unset, .unset] [(.int (1 : Int32))])) _
          refine XS.goto X0.here hx rfl (pc0 := 17) (pc' := 21) rfl (hb hby at_17) (by decide) (by decide) ?_
          show Steps p.tables e below (s₁.setTop (mkF m 21 #[.val (.int p0), .val (.int p1), .val (.int p2), .val (.int p3), .val (.int p4), .val (.int (2 : Int32)), .unset, .unset, .unset, .unset, .unset, .unset, .unset] [(.int (1 : Int32))])) _
          exact kj
      refine sg13 ?_
      show Steps p.tables e below (s₁.setTop (mkF m 21 #[.val (.int p0), .val (.int p1), .val (.int p2), .val (.int p3), .val (.int p4), .val (.int (2 : Int32)), .unset, .unset, .unset, .unset, .unset, .unset, .unset] [(.int (w0_0 p0 p1))])) _
      refine XS.istore X0.here hx rfl (hb hby at_21) rfl (l' := #[.val (.int p0), .val (.int p1), .val (.int p2), .val (.int p3), .val (.int p4), .val (.int (2 : Int32)), .val (.int (w0_0 p0 p1)), .unset, .unset, .unset, .unset, .unset, .unset]) rfl ?_
      show Steps p.tables e below (s₁.setTop (mkF m 23 #[.val (.int p0), .val (.int p1), .val (.int p2), .val (.int p3), .val (.int p4), .val (.int (2 : Int32)), .val (.int (w0_0 p0 p1)), .unset, .unset, .unset, .unset, .unset, .unset] [])) _
      refine XS.iloadN X0.here hx rfl (hb hby at_23) rfl ?_
      show Steps p.tables e below (s₁.setTop (mkF m 24 #[.val (.int p0), .val (.int p1), .val (.int p2), .val (.int p3), .val (.int p4), .val (.int (2 : Int32)), .val (.int (w0_0 p0 p1)), .unset, .unset, .unset, .unset, .unset, .unset] [(.int p0)])) _
      refine XS.iconst X0.here hx rfl (hb hby at_24) ?_
      show Steps p.tables e below (s₁.setTop (mkF m 25 #[.val (.int p0), .val (.int p1), .val (.int p2), .val (.int p3), .val (.int p4), .val (.int (2 : Int32)), .val (.int (w0_0 p0 p1)), .unset, .unset, .unset, .unset, .unset, .unset] [(.int (4 : Int32)), (.int p0)])) _
      refine XS.iushr X0.here hx rfl (hb hby at_25) rfl ?_
      show Steps p.tables e below (s₁.setTop (mkF m 26 #[.val (.int p0), .val (.int p1), .val (.int p2), .val (.int p3), .val (.int p4), .val (.int (2 : Int32)), .val (.int (w0_0 p0 p1)), .unset, .unset, .unset, .unset, .unset, .unset] [(.int ((p0.toUInt32 >>> ((4 : Int32) &&& 31).toUInt32).toInt32))])) _
      refine XS.iconst X0.here hx rfl (hb hby at_26) ?_
      show Steps p.tables e below (s₁.setTop (mkF m 27 #[.val (.int p0), .val (.int p1), .val (.int p2), .val (.int p3), .val (.int p4), .val (.int (2 : Int32)), .val (.int (w0_0 p0 p1)), .unset, .unset, .unset, .unset, .unset, .unset] [(.int (1 : Int32)), (.int ((p0.toUInt32 >>> ((4 : Int32) &&& 31).toUInt32).toInt32))])) _
      refine XS.iand X0.here hx rfl (hb hby at_27) rfl ?_
      show Steps p.tables e below (s₁.setTop (mkF m 28 #[.val (.int p0), .val (.int p1), .val (.int p2), .val (.int p3), .val (.int p4), .val (.int (2 : Int32)), .val (.int (w0_0 p0 p1)), .unset, .unset, .unset, .unset, .unset, .unset] [(.int (((p0.toUInt32 >>> ((4 : Int32) &&& 31).toUInt32).toInt32) &&& (1 : Int32)))])) _
      have sg28 : Steps p.tables e below (s₁.setTop (mkF m 36 #[.val (.int p0), .val (.int p1), .val (.int p2), .val (.int p3), .val (.int p4), .val (.int (2 : Int32)), .val (.int (w0_0 p0 p1)), .unset, .unset, .unset, .unset, .unset, .unset] [(.int (if (((p0.toUInt32 >>> ((4 : Int32) &&& 31).toUInt32).toInt32) &&& (1 : Int32)) = (0 : Int32) then p2 else (1 : Int32)))])) tZ → Steps p.tables e below (s₁.setTop (mkF m 28 #[.val (.int p0), .val (.int p1), .val (.int p2), .val (.int p3), .val (.int p4), .val (.int (2 : Int32)), .val (.int (w0_0 p0 p1)), .unset, .unset, .unset, .unset, .unset, .unset] [(.int (((p0.toUInt32 >>> ((4 : Int32) &&& 31).toUInt32).toInt32) &&& (1 : Int32)))])) tZ := by
        intro kj
        by_cases hc28 : (((p0.toUInt32 >>> ((4 : Int32) &&& 31).toUInt32).toInt32) &&& (1 : Int32)) = (0 : Int32)
        · try simp only [if_pos hc28] at kj
          refine XS.ifYes X0.here hx rfl (pc0 := 28) (pc' := 35) rfl (hb hby at_28) rfl ((if0 _ _).trans (teq hc28).1) (by decide) (by decide) ?_
          show Steps p.tables e below (s₁.setTop (mkF m 35 #[.val (.int p0), .val (.int p1), .val (.int p2), .val (.int p3), .val (.int p4), .val (.int (2 : Int32)), .val (.int (w0_0 p0 p1)), .unset, .unset, .unset, .unset, .unset, .unset] [])) _
          refine XS.iloadN X0.here hx rfl (hb hby at_35) rfl ?_
          show Steps p.tables e below (s₁.setTop (mkF m 36 #[.val (.int p0), .val (.int p1), .val (.int p2), .val (.int p3), .val (.int p4), .val (.int (2 : Int32)), .val (.int (w0_0 p0 p1)), .unset, .unset, .unset, .unset, .unset, .unset] [(.int p2)])) _
          exact kj
        · try simp only [if_neg hc28] at kj
          refine XS.ifNo X0.here hx rfl (hb hby at_28) rfl ((if0 _ _).trans (feq hc28).1) ?_
          show Steps p.tables e below (s₁.setTop (mkF m 31 #[.val (.int p0), .val (.int p1), .val (.int p2), .val (.int p3), .val (.int p4), .val (.int (2 : Int32)), .val (.int (w0_0 p0 p1)), .unset, .unset, .unset, .unset, .unset, .unset] [])) _
          refine XS.iconst X0.here hx rfl (hb hby at_31) ?_
          show Steps p.tables e below (s₁.setTop (mkF m 32 #[.val (.int p0), .val (.int p1), .val (.int p2), .val (.int p3), .val (.int p4), .val (.int (2 : Int32)), .val (.int (w0_0 p0 p1)), .unset, .unset, .unset, .unset, .unset, .unset] [(.int (1 : Int32))])) _
          refine XS.goto X0.here hx rfl (pc0 := 32) (pc' := 36) rfl (hb hby at_32) (by decide) (by decide) ?_
          show Steps p.tables e below (s₁.setTop (mkF m 36 #[.val (.int p0), .val (.int p1), .val (.int p2), .val (.int p3), .val (.int p4), .val (.int (2 : Int32)), .val (.int (w0_0 p0 p1)), .unset, .unset, .unset, .unset, .unset, .unset] [(.int (1 : Int32))])) _
          exact kj
      refine sg28 ?_
      show Steps p.tables e below (s₁.setTop (mkF m 36 #[.val (.int p0), .val (.int p1), .val (.int p2), .val (.int p3), .val (.int p4), .val (.int (2 : Int32)), .val (.int (w0_0 p0 p1)), .unset, .unset, .unset, .unset, .unset, .unset] [(.int (w0_1 p0 p2))])) _
      refine XS.istore X0.here hx rfl (hb hby at_36) rfl (l' := #[.val (.int p0), .val (.int p1), .val (.int p2), .val (.int p3), .val (.int p4), .val (.int (2 : Int32)), .val (.int (w0_0 p0 p1)), .val (.int (w0_1 p0 p2)), .unset, .unset, .unset, .unset, .unset]) rfl ?_
      show Steps p.tables e below (s₁.setTop (mkF m 38 #[.val (.int p0), .val (.int p1), .val (.int p2), .val (.int p3), .val (.int p4), .val (.int (2 : Int32)), .val (.int (w0_0 p0 p1)), .val (.int (w0_1 p0 p2)), .unset, .unset, .unset, .unset, .unset] [])) _
      refine XS.iloadN X0.here hx rfl (hb hby at_38) rfl ?_
      show Steps p.tables e below (s₁.setTop (mkF m 39 #[.val (.int p0), .val (.int p1), .val (.int p2), .val (.int p3), .val (.int p4), .val (.int (2 : Int32)), .val (.int (w0_0 p0 p1)), .val (.int (w0_1 p0 p2)), .unset, .unset, .unset, .unset, .unset] [(.int p0)])) _
      refine XS.iconst X0.here hx rfl (hb hby at_39) ?_
      show Steps p.tables e below (s₁.setTop (mkF m 40 #[.val (.int p0), .val (.int p1), .val (.int p2), .val (.int p3), .val (.int p4), .val (.int (2 : Int32)), .val (.int (w0_0 p0 p1)), .val (.int (w0_1 p0 p2)), .unset, .unset, .unset, .unset, .unset] [(.int (5 : Int32)), (.int p0)])) _
      refine XS.iushr X0.here hx rfl (hb hby at_40) rfl ?_
      show Steps p.tables e below (s₁.setTop (mkF m 41 #[.val (.int p0), .val (.int p1), .val (.int p2), .val (.int p3), .val (.int p4), .val (.int (2 : Int32)), .val (.int (w0_0 p0 p1)), .val (.int (w0_1 p0 p2)), .unset, .unset, .unset, .unset, .unset] [(.int ((p0.toUInt32 >>> ((5 : Int32) &&& 31).toUInt32).toInt32))])) _
      refine XS.iconst X0.here hx rfl (hb hby at_41) ?_
      show Steps p.tables e below (s₁.setTop (mkF m 42 #[.val (.int p0), .val (.int p1), .val (.int p2), .val (.int p3), .val (.int p4), .val (.int (2 : Int32)), .val (.int (w0_0 p0 p1)), .val (.int (w0_1 p0 p2)), .unset, .unset, .unset, .unset, .unset] [(.int (1 : Int32)), (.int ((p0.toUInt32 >>> ((5 : Int32) &&& 31).toUInt32).toInt32))])) _
      refine XS.iand X0.here hx rfl (hb hby at_42) rfl ?_
      show Steps p.tables e below (s₁.setTop (mkF m 43 #[.val (.int p0), .val (.int p1), .val (.int p2), .val (.int p3), .val (.int p4), .val (.int (2 : Int32)), .val (.int (w0_0 p0 p1)), .val (.int (w0_1 p0 p2)), .unset, .unset, .unset, .unset, .unset] [(.int (((p0.toUInt32 >>> ((5 : Int32) &&& 31).toUInt32).toInt32) &&& (1 : Int32)))])) _
      have sg43 : Steps p.tables e below (s₁.setTop (mkF m 51 #[.val (.int p0), .val (.int p1), .val (.int p2), .val (.int p3), .val (.int p4), .val (.int (2 : Int32)), .val (.int (w0_0 p0 p1)), .val (.int (w0_1 p0 p2)), .unset, .unset, .unset, .unset, .unset] [(.int (if (((p0.toUInt32 >>> ((5 : Int32) &&& 31).toUInt32).toInt32) &&& (1 : Int32)) = (0 : Int32) then p3 else (1 : Int32)))])) tZ → Steps p.tables e below (s₁.setTop (mkF m 43 #[.val (.int p0), .val (.int p1), .val (.int p2), .val (.int p3), .val (.int p4), .val (.int (2 : Int32)), .val (.int (w0_0 p0 p1)), .val (.int (w0_1 p0 p2)), .unset, .unset, .unset, .unset, .unset] [(.int (((p0.toUInt32 >>> ((5 : Int32) &&& 31).toUInt32).toInt32) &&& (1 : Int32)))])) tZ := by
        intro kj
        by_cases hc43 : (((p0.toUInt32 >>> ((5 : Int32) &&& 31).toUInt32).toInt32) &&& (1 : Int32)) = (0 : Int32)
        · try simp only [if_pos hc43] at kj
          refine XS.ifYes X0.here hx rfl (pc0 := 43) (pc' := 50) rfl (hb hby at_43) rfl ((if0 _ _).trans (teq hc43).1) (by decide) (by decide) ?_
          show Steps p.tables e below (s₁.setTop (mkF m 50 #[.val (.int p0), .val (.int p1), .val (.int p2), .val (.int p3), .val (.int p4), .val (.int (2 : Int32)), .val (.int (w0_0 p0 p1)), .val (.int (w0_1 p0 p2)), .unset, .unset, .unset, .unset, .unset] [])) _
          refine XS.iloadN X0.here hx rfl (hb hby at_50) rfl ?_
          show Steps p.tables e below (s₁.setTop (mkF m 51 #[.val (.int p0), .val (.int p1), .val (.int p2), .val (.int p3), .val (.int p4), .val (.int (2 : Int32)), .val (.int (w0_0 p0 p1)), .val (.int (w0_1 p0 p2)), .unset, .unset, .unset, .unset, .unset] [(.int p3)])) _
          exact kj
        · try simp only [if_neg hc43] at kj
          refine XS.ifNo X0.here hx rfl (hb hby at_43) rfl ((if0 _ _).trans (feq hc43).1) ?_
          show Steps p.tables e below (s₁.setTop (mkF m 46 #[.val (.int p0), .val (.int p1), .val (.int p2), .val (.int p3), .val (.int p4), .val (.int (2 : Int32)), .val (.int (w0_0 p0 p1)), .val (.int (w0_1 p0 p2)), .unset, .unset, .unset, .unset, .unset] [])) _
          refine XS.iconst X0.here hx rfl (hb hby at_46) ?_
          show Steps p.tables e below (s₁.setTop (mkF m 47 #[.val (.int p0), .val (.int p1), .val (.int p2), .val (.int p3), .val (.int p4), .val (.int (2 : Int32)), .val (.int (w0_0 p0 p1)), .val (.int (w0_1 p0 p2)), .unset, .unset, .unset, .unset, .unset] [(.int (1 : Int32))])) _
          refine XS.goto X0.here hx rfl (pc0 := 47) (pc' := 51) rfl (hb hby at_47) (by decide) (by decide) ?_
          show Steps p.tables e below (s₁.setTop (mkF m 51 #[.val (.int p0), .val (.int p1), .val (.int p2), .val (.int p3), .val (.int p4), .val (.int (2 : Int32)), .val (.int (w0_0 p0 p1)), .val (.int (w0_1 p0 p2)), .unset, .unset, .unset, .unset, .unset] [(.int (1 : Int32))])) _
          exact kj
      refine sg43 ?_
      show Steps p.tables e below (s₁.setTop (mkF m 51 #[.val (.int p0), .val (.int p1), .val (.int p2), .val (.int p3), .val (.int p4), .val (.int (2 : Int32)), .val (.int (w0_0 p0 p1)), .val (.int (w0_1 p0 p2)), .unset, .unset, .unset, .unset, .unset] [(.int (w0_2 p0 p3))])) _
      refine XS.istore X0.here hx rfl (hb hby at_51) rfl (l' := #[.val (.int p0), .val (.int p1), .val (.int p2), .val (.int p3), .val (.int p4), .val (.int (2 : Int32)), .val (.int (w0_0 p0 p1)), .val (.int (w0_1 p0 p2)), .val (.int (w0_2 p0 p3)), .unset, .unset, .unset, .unset]) rfl ?_
      show Steps p.tables e below (s₁.setTop (mkF m 53 #[.val (.int p0), .val (.int p1), .val (.int p2), .val (.int p3), .val (.int p4), .val (.int (2 : Int32)), .val (.int (w0_0 p0 p1)), .val (.int (w0_1 p0 p2)), .val (.int (w0_2 p0 p3)), .unset, .unset, .unset, .unset] [])) _
      refine XS.iloadN X0.here hx rfl (hb hby at_53) rfl ?_
      show Steps p.tables e below (s₁.setTop (mkF m 54 #[.val (.int p0), .val (.int p1), .val (.int p2), .val (.int p3), .val (.int p4), .val (.int (2 : Int32)), .val (.int (w0_0 p0 p1)), .val (.int (w0_1 p0 p2)), .val (.int (w0_2 p0 p3)), .unset, .unset, .unset, .unset] [(.int p0)])) _
      refine XS.bipush X0.here hx rfl (hb hby at_54) ?_
      show Steps p.tables e below (s₁.setTop (mkF m 56 #[.val (.int p0), .val (.int p1), .val (.int p2), .val (.int p3), .val (.int p4), .val (.int (2 : Int32)), .val (.int (w0_0 p0 p1)), .val (.int (w0_1 p0 p2)), .val (.int (w0_2 p0 p3)), .unset, .unset, .unset, .unset] [(.int (6 : Int32)), (.int p0)])) _
      refine XS.iushr X0.here hx rfl (hb hby at_56) rfl ?_
      show Steps p.tables e below (s₁.setTop (mkF m 57 #[.val (.int p0), .val (.int p1), .val (.int p2), .val (.int p3), .val (.int p4), .val (.int (2 : Int32)), .val (.int (w0_0 p0 p1)), .val (.int (w0_1 p0 p2)), .val (.int (w0_2 p0 p3)), .unset, .unset, .unset, .unset] [(.int ((p0.toUInt32 >>> ((6 : Int32) &&& 31).toUInt32).toInt32))])) _
      refine XS.iconst X0.here hx rfl (hb hby at_57) ?_
      show Steps p.tables e below (s₁.setTop (mkF m 58 #[.val (.int p0), .val (.int p1), .val (.int p2), .val (.int p3), .val (.int p4), .val (.int (2 : Int32)), .val (.int (w0_0 p0 p1)), .val (.int (w0_1 p0 p2)), .val (.int (w0_2 p0 p3)), .unset, .unset, .unset, .unset] [(.int (1 : Int32)), (.int ((p0.toUInt32 >>> ((6 : Int32) &&& 31).toUInt32).toInt32))])) _
      refine XS.iand X0.here hx rfl (hb hby at_58) rfl ?_
      show Steps p.tables e below (s₁.setTop (mkF m 59 #[.val (.int p0), .val (.int p1), .val (.int p2), .val (.int p3), .val (.int p4), .val (.int (2 : Int32)), .val (.int (w0_0 p0 p1)), .val (.int (w0_1 p0 p2)), .val (.int (w0_2 p0 p3)), .unset, .unset, .unset, .unset] [(.int (((p0.toUInt32 >>> ((6 : Int32) &&& 31).toUInt32).toInt32) &&& (1 : Int32)))])) _
      have sg59 : Steps p.tables e below (s₁.setTop (mkF m 68 #[.val (.int p0), .val (.int p1), .val (.int p2), .val (.int p3), .val (.int p4), .val (.int (2 : Int32)), .val (.int (w0_0 p0 p1)), .val (.int (w0_1 p0 p2)), .val (.int (w0_2 p0 p3)), .unset, .unset, .unset, .unset] [(.int (if (((p0.toUInt32 >>> ((6 : Int32) &&& 31).toUInt32).toInt32) &&& (1 : Int32)) = (0 : Int32) then p4 else (1 : Int32)))])) tZ → Steps p.tables e below (s₁.setTop (mkF m 59 #[.val (.int p0), .val (.int p1), .val (.int p2), .val (.int p3), .val (.int p4), .val (.int (2 : Int32)), .val (.int (w0_0 p0 p1)), .val (.int (w0_1 p0 p2)), .val (.int (w0_2 p0 p3)), .unset, .unset, .unset, .unset] [(.int (((p0.toUInt32 >>> ((6 : Int32) &&& 31).toUInt32).toInt32) &&& (1 : Int32)))])) tZ := by
        intro kj
        by_cases hc59 : (((p0.toUInt32 >>> ((6 : Int32) &&& 31).toUInt32).toInt32) &&& (1 : Int32)) = (0 : Int32)
        · try simp only [if_pos hc59] at kj
          refine XS.ifYes X0.here hx rfl (pc0 := 59) (pc' := 66) rfl (hb hby at_59) rfl ((if0 _ _).trans (teq hc59).1) (by decide) (by decide) ?_
          show Steps p.tables e below (s₁.setTop (mkF m 66 #[.val (.int p0), .val (.int p1), .val (.int p2), .val (.int p3), .val (.int p4), .val (.int (2 : Int32)), .val (.int (w0_0 p0 p1)), .val (.int (w0_1 p0 p2)), .val (.int (w0_2 p0 p3)), .unset, .unset, .unset, .unset] [])) _
          refine XS.iload X0.here hx rfl (hb hby at_66) rfl ?_
          show Steps p.tables e below (s₁.setTop (mkF m 68 #[.val (.int p0), .val (.int p1), .val (.int p2), .val (.int p3), .val (.int p4), .val (.int (2 : Int32)), .val (.int (w0_0 p0 p1)), .val (.int (w0_1 p0 p2)), .val (.int (w0_2 p0 p3)), .unset, .unset, .unset, .unset] [(.int p4)])) _
          exact kj
        · try simp only [if_neg hc59] at kj
          refine XS.ifNo X0.here hx rfl (hb hby at_59) rfl ((if0 _ _).trans (feq hc59).1) ?_
          show Steps p.tables e below (s₁.setTop (mkF m 62 #[.val (.int p0), .val (.int p1), .val (.int p2), .val (.int p3), .val (.int p4), .val (.int (2 : Int32)), .val (.int (w0_0 p0 p1)), .val (.int (w0_1 p0 p2)), .val (.int (w0_2 p0 p3)), .unset, .unset, .unset, .unset] [])) _
          refine XS.iconst X0.here hx rfl (hb hby at_62) ?_
          show Steps p.tables e below (s₁.setTop (mkF m 63 #[.val (.int p0), .val (.int p1), .val (.int p2), .val (.int p3), .val (.int p4), .val (.int (2 : Int32)), .val (.int (w0_0 p0 p1)), .val (.int (w0_1 p0 p2)), .val (.int (w0_2 p0 p3)), .unset, .unset, .unset, .unset] [(.int (1 : Int32))])) _
          refine XS.goto X0.here hx rfl (pc0 := 63) (pc' := 68) rfl (hb hby at_63) (by decide) (by decide) ?_
          show Steps p.tables e below (s₁.setTop (mkF m 68 #[.val (.int p0), .val (.int p1), .val (.int p2), .val (.int p3), .val (.int p4), .val (.int (2 : Int32)), .val (.int (w0_0 p0 p1)), .val (.int (w0_1 p0 p2)), .val (.int (w0_2 p0 p3)), .unset, .unset, .unset, .unset] [(.int (1 : Int32))])) _
          exact kj
      refine sg59 ?_
      show Steps p.tables e below (s₁.setTop (mkF m 68 #[.val (.int p0), .val (.int p1), .val (.int p2), .val (.int p3), .val (.int p4), .val (.int (2 : Int32)), .val (.int (w0_0 p0 p1)), .val (.int (w0_1 p0 p2)), .val (.int (w0_2 p0 p3)), .unset, .unset, .unset, .unset] [(.int (w0_3 p0 p4))])) _
      refine XS.istore X0.here hx rfl (hb hby at_68) rfl (l' := #[.val (.int p0), .val (.int p1), .val (.int p2), .val (.int p3), .val (.int p4), .val (.int (2 : Int32)), .val (.int (w0_0 p0 p1)), .val (.int (w0_1 p0 p2)), .val (.int (w0_2 p0 p3)), .val (.int (w0_3 p0 p4)), .unset, .unset, .unset]) rfl ?_
      show Steps p.tables e below (s₁.setTop (mkF m 70 #[.val (.int p0), .val (.int p1), .val (.int p2), .val (.int p3), .val (.int p4), .val (.int (2 : Int32)), .val (.int (w0_0 p0 p1)), .val (.int (w0_1 p0 p2)), .val (.int (w0_2 p0 p3)), .val (.int (w0_3 p0 p4)), .unset, .unset, .unset] [])) _
      refine XS.iload X0.here hx rfl (hb hby at_70) rfl ?_
      show Steps p.tables e below (s₁.setTop (mkF m 72 #[.val (.int p0), .val (.int p1), .val (.int p2), .val (.int p3), .val (.int p4), .val (.int (2 : Int32)), .val (.int (w0_0 p0 p1)), .val (.int (w0_1 p0 p2)), .val (.int (w0_2 p0 p3)), .val (.int (w0_3 p0 p4)), .unset, .unset, .unset] [(.int (2 : Int32))])) _
      exact kZ
    obtain ⟨T17, h17, k17, X17, e17, E17, A17, B17, st17⟩ := newPE X0 hx hZ (hw _ (List.mem_of_getElem? (i := 0) rfl)) e0 (g := (mkF m 72 #[.val (.int p0), .val (.int p1), .val (.int p2), .val (.int p3), .val (.int p4), .val (.int (2 : Int32)), .val (.int (w0_0 p0 p1)), .val (.int (w0_1 p0 p2)), .val (.int (w0_2 p0 p3)), .val (.int (w0_3 p0 p4)), .unset, .unset, .unset] [(.int (2 : Int32))])) rfl (hb hby at_72) rfl (by decide) (cap := 2) (by decide) (by decide) (by decide) (by decide) (ad := "[I") rfl
    obtain ⟨b17, g17⟩ : ∃ z, z = h0.size := ⟨_, rfl⟩
    rw [← g17] at A17 B17 st17
    have g_b17 : n0 ≤ b17 := Nat.le_trans Z0 (Nat.le_of_eq g17.symm)
    have sz_b17 : h0.size ≤ b17 := Nat.le_trans ((Keep.refl h0 [])).1 (Nat.le_of_eq g17.symm)
    have c18_1 := ha1.ext E17
    have c18_0 := ha0.ext c18_1.2
    have K17 : Keep h0 h17 [] := (Keep.refl h0 []).ext E17
    have Z17 : n0 ≤ h17.size := Nat.le_trans Z0 E17.1
    have V17 : AV Z h17 b17 .int 2 (fun k => .int ((fun _ => (0 : Int32)) k)) := by have q := AV.new A17; exact q
    refine Go.via st17 ?_
    show Go p e below _ (T17.setTop (mkF m 74 #[.val (.int p0), .val (.int p1), .val (.int p2), .val (.int p3), .val (.int p4), .val (.int (2 : Int32)), .val (.int (w0_0 p0 p1)), .val (.int (w0_1 p0 p2)), .val (.int (w0_2 p0 p3)), .val (.int (w0_3 p0 p4)), .unset, .unset, .unset] [(.ref b17)]))
    refine Go.via (T' := T17.setTop (mkF m 86 #[.val (.int p0), .val (.int p1), .val (.int p2), .val (.int p3), .val (.int p4), .val (.int (2 : Int32)), .val (.int (w0_0 p0 p1)), .val (.int (w0_1 p0 p2)), .val (.int (w0_2 p0 p3)), .val (.int (w0_3 p0 p4)), .val (.ref b17), .unset, .unset] [(.int (w0_0 p0 p1)), (.int (0 : Int32)), (.ref b17)])) (fun tZ kZ => ?_) ?_
    · show Steps p.tables e below (T17.setTop (mkF m 74 #[.val (.int p0), .val (.int p1), .val (.int p2), .val (.int p3), .val (.int p4), .val (.int (2 : Int32)), .val (.int (w0_0 p0 p1)), .val (.int (w0_1 p0 p2)), .val (.int (w0_2 p0 p3)), .val (.int (w0_3 p0 p4)), .unset, .unset, .unset] [(.ref b17)])) _
      refine XS.astore X17.here hx rfl (hb hby at_74) rfl rfl (l' := #[.val (.int p0), .val (.int p1), .val (.int p2), .val (.int p3), .val (.int p4), .val (.int (2 : Int32)), .val (.int (w0_0 p0 p1)), .val (.int (w0_1 p0 p2)), .val (.int (w0_2 p0 p3)), .val (.int (w0_3 p0 p4)), .val (.ref b17), .unset, .unset]) rfl ?_
      show Steps p.tables e below (T17.setTop (mkF m 76 #[.val (.int p0), .val (.int p1), .val (.int p2), .val (.int p3), .val (.int p4), .val (.int (2 : Int32)), .val (.int (w0_0 p0 p1)), .val (.int (w0_1 p0 p2)), .val (.int (w0_2 p0 p3)), .val (.int (w0_3 p0 p4)), .val (.ref b17), .unset, .unset] [])) _
      refine XS.iload X17.here hx rfl (hb hby at_76) rfl ?_
      show Steps p.tables e below (T17.setTop (mkF m 78 #[.val (.int p0), .val (.int p1), .val (.int p2), .val (.int p3), .val (.int p4), .val (.int (2 : Int32)), .val (.int (w0_0 p0 p1)), .val (.int (w0_1 p0 p2)), .val (.int (w0_2 p0 p3)), .val (.int (w0_3 p0 p4)), .val (.ref b17), .unset, .unset] [(.int (2 : Int32))])) _
      refine XS.ifNo X17.here hx rfl (hb hby at_78) rfl ((if0 _ _).trans (tlt (by decide)).2.2.2) ?_
      show Steps p.tables e below (T17.setTop (mkF m 81 #[.val (.int p0), .val (.int p1), .val (.int p2), .val (.int p3), .val (.int p4), .val (.int (2 : Int32)), .val (.int (w0_0 p0 p1)), .val (.int (w0_1 p0 p2)), .val (.int (w0_2 p0 p3)), .val (.int (w0_3 p0 p4)), .val (.ref b17), .unset, .unset] [])) _
      refine XS.aload X17.here hx rfl (hb hby at_81) rfl rfl ?_
      show Steps p.tables e below (T17.setTop (mkF m 83 #[.val (.int p0), .val (.int p1), .val (.int p2), .val (.int p3), .val (.int p4), .val (.int (2 : Int32)), .val (.int (w0_0 p0 p1)), .val (.int (w0_1 p0 p2)), .val (.int (w0_2 p0 p3)), .val (.int (w0_3 p0 p4)), .val (.ref b17), .unset, .unset] [(.ref b17)])) _
      refine XS.iconst X17.here hx rfl (hb hby at_83) ?_
      show Steps p.tables e below (T17.setTop (mkF m 84 #[.val (.int p0), .val (.int p1), .val (.int p2), .val (.int p3), .val (.int p4), .val (.int (2 : Int32)), .val (.int (w0_0 p0 p1)), .val (.int (w0_1 p0 p2)), .val (.int (w0_2 p0 p3)), .val (.int (w0_3 p0 p4)), .val (.ref b17), .unset, .unset] [(.int (0 : Int32)), (.ref b17)])) _
      refine XS.iload X17.here hx rfl (hb hby at_84) rfl ?_
      show Steps p.tables e below (T17.setTop (mkF m 86 #[.val (.int p0), .val (.int p1), .val (.int p2), .val (.int p3), .val (.int p4), .val (.int (2 : Int32)), .val (.int (w0_0 p0 p1)), .val (.int (w0_1 p0 p2)), .val (.int (w0_2 p0 p3)), .val (.int (w0_3 p0 p4)), .val (.ref b17), .unset, .unset] [(.int (w0_0 p0 p1)), (.int (0 : Int32)), (.ref b17)])) _
      exact kZ
    obtain ⟨T19, h19, X19, e19, W19, V19, st19⟩ := AV.iastore V17 X17 hx hZ e17 (j := (0 : Int32)) (by decide) (Ls := #[.val (.int p0), .val (.int p1), .val (.int p2), .val (.int p3), .val (.int p4), .val (.int (2 : Int32)), .val (.int (w0_0 p0 p1)), .val (.int (w0_1 p0 p2)), .val (.int (w0_2 p0 p3)), .val (.int (w0_3 p0 p4)), .val (.ref b17), .unset, .unset]) (rest := []) (hb hby at_86) (x := (w0_0 p0 p1))
    have N19 := Fr.snoc X19 N0 g_b17
    have c20_1 := c18_1.wr W19 g_b17
    have c20_0 := ha0.ext c20_1.2
    have c20_3 := B17.wr W19
    have K19 : Keep h0 h19 [] := K17.wr W19 (Or.inr sz_b17)
    have Z19 : n0 ≤ h19.size := Nat.le_trans Z17 (Keep.of_wr W19).1
    refine Go.via st19 ?_
    show Go p e below _ (T19.setTop (mkF m 87 #[.val (.int p0), .val (.int p1), .val (.int p2), .val (.int p3), .val (.int p4), .val (.int (2 : Int32)), .val (.int (w0_0 p0 p1)), .val (.int (w0_1 p0 p2)), .val (.int (w0_2 p0 p3)), .val (.int (w0_3 p0 p4)), .val (.ref b17), .unset, .unset] []))
    refine Go.via (T' := T19.setTop (mkF m 98 #[.val (.int p0), .val (.int p1), .val (.int p2), .val (.int p3), .val (.int p4), .val (.int (2 : Int32)), .val (.int (w0_0 p0 p1)), .val (.int (w0_1 p0 p2)), .val (.int (w0_2 p0 p3)), .val (.int (w0_3 p0 p4)), .val (.ref b17), .unset, .unset] [(.int (w0_1 p0 p2)), (.int (1 : Int32)), (.ref b17)])) (fun tZ kZ => ?_) ?_
    · show Steps p.tables e below (T19.setTop (mkF m 87 #[.val (.int p0), .val (.int p1), .val (.int p2), .val (.int p3), .val (.int p4), .val (.int (2 : Int32)), .val (.int (w0_0 p0 p1)), .val (.int (w0_1 p0 p2)), .val (.int (w0_2 p0 p3)), .val (.int (w0_3 p0 p4)), .val (.ref b17), .unset, .unset] [])) _
      refine XS.iload X19.here hx rfl (hb hby at_87) rfl ?_
      show Steps p.tables e below (T19.setTop (mkF m 89 #[.val (.int p0), .val (.int p1), .val (.int p2), .val (.int p3), .val (.int p4), .val (.int (2 : Int32)), .val (.int (w0_0 p0 p1)), .val (.int (w0_1 p0 p2)), .val (.int (w0_2 p0 p3)), .val (.int (w0_3 p0 p4)), .val (.ref b17), .unset, .unset] [(.int (2 : Int32))])) _
      refine XS.iconst X19.here hx rfl (hb hby at_89) ?_
      show Steps p.tables e below (T19.setTop (mkF m 90 #[.val (.int p0), .val (.int p1), .val (.int p2), .val (.int p3), .val (.int p4), .val (.int (2 : Int32)), .val (.int (w0_0 p0 p1)), .val (.int (w0_1 p0 p2)), .val (.int (w0_2 p0 p3)), .val (.int (w0_3 p0 p4)), .val (.ref b17), .unset, .unset] [(.int (1 : Int32)), (.int (2 : Int32))])) _
      refine XS.icmpNo X19.here hx rfl (hb hby at_90) rfl (tlt (by decide)).2.2.2 ?_
      show Steps p.tables e below (T19.setTop (mkF m 93 #[.val (.int p0), .val (.int p1), .val (.int p2), .val (.int p3), .val (.int p4), .val (.int (2 : Int32)), .val (.int (w0_0 p0 p1)), .val (.int (w0_1 p0 p2)), .val (.int (w0_2 p0 p3)), .val (.int (w0_3 p0 p4)), .val (.ref b17), .unset, .unset] [])) _
      refine XS.aload X19.here hx rfl (hb hby at_93) rfl rfl ?_
      show Steps p.tables e below (T19.setTop (mkF m 95 #[.val (.int p0), .val (.int p1), .val (.int p2), .val (.int p3), .val (.int p4), .val (.int (2 : Int32)), .val (.int (w0_0 p0 p1)), .val (.int (w0_1 p0 p2)), .val (.int (w0_2 p0 p3)), .val (.int (w0_3 p0 p4)), .val (.ref b17), .unset, .unset] [(.ref b17)])) _
      refine XS.iconst X19.here hx rfl (hb hby at_95) ?_
      show Steps p.tables e below (T19.setTop (mkF m 96 #[.val (.int p0), .val (.int p1), .val (.int p2), .val (.int p3), .val (.int p4), .val (.int (2 : Int32)), .val (.int (w0_0 p0 p1)), .val (.int (w0_1 p0 p2)), .val (.int (w0_2 p0 p3)), .val (.int (w0_3 p0 p4)), .val (.ref b17), .unset, .unset] [(.int (1 : Int32)), (.ref b17)])) _
      refine XS.iload X19.here hx rfl (hb hby at_96) rfl ?_
      show Steps p.tables e below (T19.setTop (mkF m 98 #[.val (.int p0), .val (.int p1), .val (.int p2), .val (.int p3), .val (.int p4), .val (.int (2 : Int32)), .val (.int (w0_0 p0 p1)), .val (.int (w0_1 p0 p2)), .val (.int (w0_2 p0 p3)), .val (.int (w0_3 p0 p4)), .val (.ref b17), .unset, .unset] [(.int (w0_1 p0 p2)), (.int (1 : Int32)), (.ref b17)])) _
      exact kZ
    obtain ⟨T21, h21, X21, e21, W21, V21, st21⟩ := AV.iastore V19 X19 hx hZ e19 (j := (1 : Int32)) (by decide) (Ls := #[.val (.int p0), .val (.int p1), .val (.int p2), .val (.int p3), .val (.int p4), .val (.int (2 : Int32)), .val (.int (w0_0 p0 p1)), .val (.int (w0_1 p0 p2)), .val (.int (w0_2 p0 p3)), .val (.int (w0_3 p0 p4)), .val (.ref b17), .unset, .unset]) (rest := []) (hb hby at_98) (x := (w0_1 p0 p2))
    have N21 := Fr.snoc X21 N19 g_b17
    have c22_1 := c20_1.wr W21 g_b17
    have c22_0 := ha0.ext c22_1.2
    have c22_3 := c20_3.wr W21
    have K21 : Keep h0 h21 [] := K19.wr W21 (Or.inr sz_b17)
    have Z21 : n0 ≤ h21.size := Nat.le_trans Z19 (Keep.of_wr W21).1
    refine Go.via st21 ?_
    show Go p e below _ (T21.setTop (mkF m 99 #[.val (.int p0), .val (.int p1), .val (.int p2), .val (.int p3), .val (.int p4), .val (.int (2 : Int32)), .val (.int (w0_0 p0 p1)), .val (.int (w0_1 p0 p2)), .val (.int (w0_2 p0 p3)), .val (.int (w0_3 p0 p4)), .val (.ref b17), .unset, .unset] []))
    refine Go.via (T' := T21.setTop (mkF m 123 #[.val (.int p0), .val (.int p1), .val (.int p2), .val (.int p3), .val (.int p4), .val (.int (2 : Int32)), .val (.int (w0_0 p0 p1)), .val (.int (w0_1 p0 p2)), .val (.int (w0_2 p0 p3)), .val (.int (w0_3 p0 p4)), .val (.ref b17), .unset, .unset] [])) (fun tZ kZ => ?_) ?_
    · show Steps p.tables e below (T21.setTop (mkF m 99 #[.val (.int p0), .val (.int p1), .val (.int p2), .val (.int p3), .val (.int p4), .val (.int (2 : Int32)), .val (.int (w0_0 p0 p1)), .val (.int (w0_1 p0 p2)), .val (.int (w0_2 p0 p3)), .val (.int (w0_3 p0 p4)), .val (.ref b17), .unset, .unset] [])) _
      refine XS.iload X21.here hx rfl (hb hby at_99) rfl ?_
      show Steps p.tables e below (T21.setTop (mkF m 101 #[.val (.int p0), .val (.int p1), .val (.int p2), .val (.int p3), .val (.int p4), .val (.int (2 : Int32)), .val (.int (w0_0 p0 p1)), .val (.int (w0_1 p0 p2)), .val (.int (w0_2 p0 p3)), .val (.int (w0_3 p0 p4)), .val (.ref b17), .unset, .unset] [(.int (2 : Int32))])) _
      refine XS.iconst X21.here hx rfl (hb hby at_101) ?_
      show Steps p.tables e below (T21.setTop (mkF m 102 #[.val (.int p0), .val (.int p1), .val (.int p2), .val (.int p3), .val (.int p4), .val (.int (2 : Int32)), .val (.int (w0_0 p0 p1)), .val (.int (w0_1 p0 p2)), .val (.int (w0_2 p0 p3)), .val (.int (w0_3 p0 p4)), .val (.ref b17), .unset, .unset] [(.int (2 : Int32)), (.int (2 : Int32))])) _
      refine XS.icmpYes X21.here hx rfl (pc0 := 102) (pc' := 111) rfl (hb hby at_102) rfl (flt (by decide)).2.2.2 (by decide) (by decide) ?_
      show Steps p.tables e below (T21.setTop (mkF m 111 #[.val (.int p0), .val (.int p1), .val (.int p2), .val (.int p3), .val (.int p4), .val (.int (2 : Int32)), .val (.int (w0_0 p0 p1)), .val (.int (w0_1 p0 p2)), .val (.int (w0_2 p0 p3)), .val (.int (w0_3 p0 p4)), .val (.ref b17), .unset, .unset] [])) _
      refine XS.iload X21.here hx rfl (hb hby at_111) rfl ?_
      show Steps p.tables e below (T21.setTop (mkF m 113 #[.val (.int p0), .val (.int p1), .val (.int p2), .val (.int p3), .val (.int p4), .val (.int (2 : Int32)), .val (.int (w0_0 p0 p1)), .val (.int (w0_1 p0 p2)), .val (.int (w0_2 p0 p3)), .val (.int (w0_3 p0 p4)), .val (.ref b17), .unset, .unset] [(.int (2 : Int32))])) _
      refine XS.iconst X21.here hx rfl (hb hby at_113) ?_
      show Steps p.tables e below (T21.setTop (mkF m 114 #[.val (.int p0), .val (.int p1), .val (.int p2), .val (.int p3), .val (.int p4), .val (.int (2 : Int32)), .val (.int (w0_0 p0 p1)), .val (.int (w0_1 p0 p2)), .val (.int (w0_2 p0 p3)), .val (.int (w0_3 p0 p4)), .val (.ref b17), .unset, .unset] [(.int (3 : Int32)), (.int (2 : Int32))])) _
      refine XS.icmpYes X21.here hx rfl (pc0 := 114) (pc' := 123) rfl (hb hby at_114) rfl (flt (by decide)).2.2.2 (by decide) (by decide) ?_
      show Steps p.tables e below (T21.setTop (mkF m 123 #[.val (.int p0), .val (.int p1), .val (.int p2), .val (.int p3), .val (.int p4), .val (.int (2 : Int32)), .val (.int (w0_0 p0 p1)), .val (.int (w0_1 p0 p2)), .val (.int (w0_2 p0 p3)), .val (.int (w0_3 p0 p4)), .val (.ref b17), .unset, .unset] [])) _
      exact kZ
    obtain ⟨T23, h23, X23, e23, E23, A23, D23, -, st23⟩ := newO X21 hx hZ hown (hw _ (List.mem_of_getElem? (i := 1) rfl)) (hw _ (List.mem_of_getElem? (i := 2) rfl)) (hw _ (List.mem_of_getElem? (i := 3) rfl)) e21 (g := (mkF m 123 #[.val (.int p0), .val (.int p1), .val (.int p2), .val (.int p3), .val (.int p4), .val (.int (2 : Int32)), .val (.int (w0_0 p0 p1)), .val (.int (w0_1 p0 p2)), .val (.int (w0_2 p0 p3)), .val (.int (w0_3 p0 p4)), .val (.ref b17), .unset, .unset] [])) rfl (hb hby at_123) (by decide) (by decide)
    obtain ⟨b23, g23⟩ : ∃ z, z = h21.size := ⟨_, rfl⟩
    rw [← g23] at A23 D23 st23
    have g_b23 : n0 ≤ b23 := Nat.le_trans Z21 (Nat.le_of_eq g23.symm)
    have sz_b23 : h0.size ≤ b23 := Nat.le_trans (K21).1 (Nat.le_of_eq g23.symm)
    have ne_b17_b23 : b17 ≠ b23 := Nat.ne_of_lt (Nat.lt_of_lt_of_le c22_3.lt (Nat.le_of_eq g23.symm))
    have c24_1 := c22_1.ext E23
    have c24_0 := ha0.ext c24_1.2
    have c24_3 := c22_3.ext E23
    have c24_4 := V21.ext E23
    have K23 : Keep h0 h23 [] := K21.ext E23
    have Z23 : n0 ≤ h23.size := Nat.le_trans Z21 E23.1
    have F23_transitions : Fld Z h23 b23 "com/example/ltlconv/ltlconv/dra/RabinDraft" "transitions" "Ljava/util/List;" .null := D23 (Or.inr (hw _ (List.mem_of_getElem? (i := 35) rfl))) (ty := (.object "java/util/List")) (by decide)
    have F23_infiniteCounts : Fld Z h23 b23 "com/example/ltlconv/ltlconv/dra/RabinDraft" "infiniteCounts" "[I" .null := D23 (Or.inr (hw _ (List.mem_of_getElem? (i := 46) rfl))) (ty := (.array .int)) (by decide)
    have F23_finiteSets : Fld Z h23 b23 "com/example/ltlconv/ltlconv/dra/RabinDraft" "finiteSets" "[I" .null := D23 (Or.inr (hw _ (List.mem_of_getElem? (i := 48) rfl))) (ty := (.array .int)) (by decide)
    refine Go.via st23 ?_
    show Go p e below _ (T23.setTop (mkF m 126 #[.val (.int p0), .val (.int p1), .val (.int p2), .val (.int p3), .val (.int p4), .val (.int (2 : Int32)), .val (.int (w0_0 p0 p1)), .val (.int (w0_1 p0 p2)), .val (.int (w0_2 p0 p3)), .val (.int (w0_3 p0 p4)), .val (.ref b17), .unset, .unset] [(.ref b23)]))
    refine Go.via (T' := T23.setTop (mkF m 129 #[.val (.int p0), .val (.int p1), .val (.int p2), .val (.int p3), .val (.int p4), .val (.int (2 : Int32)), .val (.int (w0_0 p0 p1)), .val (.int (w0_1 p0 p2)), .val (.int (w0_2 p0 p3)), .val (.int (w0_3 p0 p4)), .val (.ref b17), .unset, .unset] [(.ref b17), (.ref b23), (.ref b23)])) (fun tZ kZ => ?_) ?_
    · show Steps p.tables e below (T23.setTop (mkF m 126 #[.val (.int p0), .val (.int p1), .val (.int p2), .val (.int p3), .val (.int p4), .val (.int (2 : Int32)), .val (.int (w0_0 p0 p1)), .val (.int (w0_1 p0 p2)), .val (.int (w0_2 p0 p3)), .val (.int (w0_3 p0 p4)), .val (.ref b17), .unset, .unset] [(.ref b23)])) _
      refine XS.dup X23.here hx rfl (hb hby at_126) rfl rfl ?_
      show Steps p.tables e below (T23.setTop (mkF m 127 #[.val (.int p0), .val (.int p1), .val (.int p2), .val (.int p3), .val (.int p4), .val (.int (2 : Int32)), .val (.int (w0_0 p0 p1)), .val (.int (w0_1 p0 p2)), .val (.int (w0_2 p0 p3)), .val (.int (w0_3 p0 p4)), .val (.ref b17), .unset, .unset] [(.ref b23), (.ref b23)])) _
      refine XS.aload X23.here hx rfl (hb hby at_127) rfl rfl ?_
      show Steps p.tables e below (T23.setTop (mkF m 129 #[.val (.int p0), .val (.int p1), .val (.int p2), .val (.int p3), .val (.int p4), .val (.int (2 : Int32)), .val (.int (w0_0 p0 p1)), .val (.int (w0_1 p0 p2)), .val (.int (w0_2 p0 p3)), .val (.int (w0_3 p0 p4)), .val (.ref b17), .unset, .unset] [(.ref b17), (.ref b23), (.ref b23)])) _
      exact kZ
    obtain ⟨_, _, ⟨T25, L25, k25, n25⟩, -, X25, ⟨Lc25, hQ25, l25, y25, z25⟩, st25⟩ := X23.specialBack hx (y := (⟨"com/example/ltlconv/ltlconv/dra/RabinDraft", "<init>", "([I)V"⟩ : MethodName)) rfl hown (mvT hZ (hw _ (List.mem_of_getElem? (i := 4) rfl))) (mvT hZ (hw _ (List.mem_of_getElem? (i := 5) rfl))) (mvT hZ (hw _ (List.mem_of_getElem? (i := 6) rfl))) (by decide) (backOf (W := 1) (rm1n2 l Z a0 hw [] b23 b17 (up (up (fun _ => (0 : Int32)) (0 : Int32).toNatClampNeg (w0_0 p0 p1)) (1 : Int32).toNatClampNeg (w0_1 p0 p2)) aD h23 n0 Z23 A23 F23_transitions F23_infiniteCounts F23_finiteSets g_b23 c24_4 c24_3 c24_0 (Ne.symm ne_b17_b23)) hZ (hw _ (List.mem_of_getElem? (i := 6) rfl)) (hw _ (List.mem_of_getElem? (i := 3) rfl)) (by decide) (by decide)) (g := (mkF m 129 #[.val (.int p0), .val (.int p1), .val (.int p2), .val (.int p3), .val (.int p4), .val (.int (2 : Int32)), .val (.int (w0_0 p0 p1)), .val (.int (w0_1 p0 p2)), .val (.int (w0_2 p0 p3)), .val (.int (w0_3 p0 p4)), .val (.ref b17), .unset, .unset] [(.ref b17), (.ref b23), (.ref b23)])) rfl (by rw [hml]; rfl) (Steps.refl _) (a := b23) (argsL := [(.ref b17)]) (rest := [(.ref b23)]) (lenOf pd_0 rfl) rfl (by show 2 * 0 + _ ≤ _; exact Nat.le_of_eq rfl) (hb hby at_129) (fun _ _ => ⟨rfl, e23, (by decide : 0 + 1 + 1 + 3 ≤ _), (by decide : 0 + 2 + 4 + 7 ≤ _)⟩)
    dsimp only [Pt.U, Pt.locs, Pt.cells, Pt.slots] at X25 l25 y25 z25 st25 hQ25
    subst l25 y25 z25
    obtain ⟨rfl, N25q, b25_0, hz_b25_0, Kq25, f25_0, f25_1, f25_2, f25_3, f25_4, f25_5, f25_6⟩ := hQ25
    have g_b25_0 : n0 ≤ b25_0 := Nat.le_trans Z23 hz_b25_0
    have sz_b25_0 : h0.size ≤ b25_0 := Nat.le_trans (K23).1 hz_b25_0
    have ne_b17_b25_0 : b17 ≠ b25_0 := Nat.ne_of_lt (Nat.lt_of_lt_of_le c24_3.lt hz_b25_0)
    have ne_b23_b25_0 : b23 ≠ b25_0 := Nat.ne_of_lt (Nat.lt_of_lt_of_le A23.lt hz_b25_0)
    have c26_1 := c24_1.keep Kq25 (allS g_b23 all0)
    have K25 : Keep h0 T25.heap [] := K23.trans Kq25 (allS (Or.inr sz_b23) all0)
    have Z25 : n0 ≤ T25.heap.size := Nat.le_trans Z23 Kq25.1
    have N25 := Fr.app N21 N25q
    refine Go.via (fun t k => st25.trans k) ?_
    show Go p e below _ (T25.setTop (mkF m 132 #[.val (.int p0), .val (.int p1), .val (.int p2), .val (.int p3), .val (.int p4), .val (.int (2 : Int32)), .val (.int (w0_0 p0 p1)), .val (.int (w0_1 p0 p2)), .val (.int (w0_2 p0 p3)), .val (.int (w0_3 p0 p4)), .val (.ref b17), .unset, .unset] [(.ref b23)]))
    refine Go.via (T' := T25.setTop (mkF m 191 #[.val (.int p0), .val (.int p1), .val (.int p2), .val (.int p3), .val (.int p4), .val (.int (2 : Int32)), .val (.int (w0_0 p0 p1)), .val (.int (w0_1 p0 p2)), .val (.int (w0_2 p0 p3)), .val (.int (w0_3 p0 p4)), .val (.ref b17), .val (.ref b23), .val (.int (w0_6 p0 p1 p2))] [(.ref b23)])) (fun tZ kZ => ?_) ?_
    · show Steps p.tables e below (T25.setTop (mkF m 132 #[.val (.int p0), .val (.int p1), .val (.int p2), .val (.int p3), .val (.int p4), .val (.int (2 : Int32)), .val (.int (w0_0 p0 p1)), .val (.int (w0_1 p0 p2)), .val (.int (w0_2 p0 p3)), .val (.int (w0_3 p0 p4)), .val (.ref b17), .unset, .unset] [(.ref b23)])) _
      refine XS.astore X25.here hx rfl (hb hby at_132) rfl rfl (l' := #[.val (.int p0), .val (.int p1), .val (.int p2), .val (.int p3), .val (.int p4), .val (.int (2 : Int32)), .val (.int (w0_0 p0 p1)), .val (.int (w0_1 p0 p2)), .val (.int (w0_2 p0 p3)), .val (.int (w0_3 p0 p4)), .val (.ref b17), .val (.ref b23), .unset]) rfl ?_
      show Steps p.tables e below (T25.setTop (mkF m 134 #[.val (.int p0), .val (.int p1), .val (.int p2), .val (.int p3), .val (.int p4), .val (.int (2 : Int32)), .val (.int (w0_0 p0 p1)), .val (.int (w0_1 p0 p2)), .val (.int (w0_2 p0 p3)), .val (.int (w0_3 p0 p4)), .val (.ref b17), .val (.ref b23), .unset] [])) _
      refine XS.iload X25.here hx rfl (hb hby at_134) rfl ?_
      show Steps p.tables e below (T25.setTop (mkF m 136 #[.val (.int p0), .val (.int p1), .val (.int p2), .val (.int p3), .val (.int p4), .val (.int (2 : Int32)), .val (.int (w0_0 p0 p1)), .val (.int (w0_1 p0 p2)), .val (.int (w0_2 p0 p3)), .val (.int (w0_3 p0 p4)), .val (.ref b17), .val (.ref b23), .unset] [(.int (2 : Int32))])) _
      refine XS.iconst X25.here hx rfl (hb hby at_136) ?_
      show Steps p.tables e below (T25.setTop (mkF m 137 #[.val (.int p0), .val (.int p1), .val (.int p2), .val (.int p3), .val (.int p4), .val (.int (2 : Int32)), .val (.int (w0_0 p0 p1)), .val (.int (w0_1 p0 p2)), .val (.int (w0_2 p0 p3)), .val (.int (w0_3 p0 p4)), .val (.ref b17), .val (.ref b23), .unset] [(.int (1 : Int32)), (.int (2 : Int32))])) _
      refine XS.icmpNo X25.here hx rfl (hb hby at_137) rfl (flt (by decide)).1 ?_
      show Steps p.tables e below (T25.setTop (mkF m 140 #[.val (.int p0), .val (.int p1), .val (.int p2), .val (.int p3), .val (.int p4), .val (.int (2 : Int32)), .val (.int (w0_0 p0 p1)), .val (.int (w0_1 p0 p2)), .val (.int (w0_2 p0 p3)), .val (.int (w0_3 p0 p4)), .val (.ref b17), .val (.ref b23), .unset] [])) _
      refine XS.iload X25.here hx rfl (hb hby at_140) rfl ?_
      show Steps p.tables e below (T25.setTop (mkF m 142 #[.val (.int p0), .val (.int p1), .val (.int p2), .val (.int p3), .val (.int p4), .val (.int (2 : Int32)), .val (.int (w0_0 p0 p1)), .val (.int (w0_1 p0 p2)), .val (.int (w0_2 p0 p3)), .val (.int (w0_3 p0 p4)), .val (.ref b17), .val (.ref b23), .unset] [(.int (w0_0 p0 p1))])) _
      refine XS.iconst X25.here hx rfl (hb hby at_142) ?_
      show Steps p.tables e below (T25.setTop (mkF m 143 #[.val (.int p0), .val (.int p1), .val (.int p2), .val (.int p3), .val (.int p4), .val (.int (2 : Int32)), .val (.int (w0_0 p0 p1)), .val (.int (w0_1 p0 p2)), .val (.int (w0_2 p0 p3)), .val (.int (w0_3 p0 p4)), .val (.ref b17), .val (.ref b23), .unset] [(.int (1 : Int32)), (.int (w0_0 p0 p1))])) _
      have sg143 : Steps p.tables e below (T25.setTop (mkF m 187 #[.val (.int p0), .val (.int p1), .val (.int p2), .val (.int p3), .val (.int p4), .val (.int (2 : Int32)), .val (.int (w0_0 p0 p1)), .val (.int (w0_1 p0 p2)), .val (.int (w0_2 p0 p3)), .val (.int (w0_3 p0 p4)), .val (.ref b17), .val (.ref b23), .unset] [(.int (if (w0_0 p0 p1) = (1 : Int32) then (w0_5 p0 p2) else (0 : Int32)))])) tZ → Steps p.tables e below (T25.setTop (mkF m 143 #[.val (.int p0), .val (.int p1), .val (.int p2), .val (.int p3), .val (.int p4), .val (.int (2 : Int32)), .val (.int (w0_0 p0 p1)), .val (.int (w0_1 p0 p2)), .val (.int (w0_2 p0 p3)), .val (.int (w0_3 p0 p4)), .val (.ref b17), .val (.ref b23), .unset] [(.int (1 : Int32)), (.int (w0_0 p0 p1))])) tZ := by
        intro kj
        by_cases hc143 : (w0_0 p0 p1) = (1 : Int32)
        · try simp only [if_pos hc143] at kj
          refine XS.icmpNo X25.here hx rfl (hb hby at_143) rfl (teq hc143).2 ?_
          show Steps p.tables e below (T25.setTop (mkF m 146 #[.val (.int p0), .val (.int p1), .val (.int p2), .val (.int p3), .val (.int p4), .val (.int (2 : Int32)), .val (.int (w0_0 p0 p1)), .val (.int (w0_1 p0 p2)), .val (.int (w0_2 p0 p3)), .val (.int (w0_3 p0 p4)), .val (.ref b17), .val (.ref b23), .unset] [])) _
          refine XS.iload X25.here hx rfl (hb hby at_146) rfl ?_
          show Steps p.tables e below (T25.setTop (mkF m 148 #[.val (.int p0), .val (.int p1), .val (.int p2), .val (.int p3), .val (.int p4), .val (.int (2 : Int32)), .val (.int (w0_0 p0 p1)), .val (.int (w0_1 p0 p2)), .val (.int (w0_2 p0 p3)), .val (.int (w0_3 p0 p4)), .val (.ref b17), .val (.ref b23), .unset] [(.int (2 : Int32))])) _
          refine XS.iconst X25.here hx rfl (hb hby at_148) ?_
          show Steps p.tables e below (T25.setTop (mkF m 149 #[.val (.int p0), .val (.int p1), .val (.int p2), .val (.int p3), .val (.int p4), .val (.int (2 : Int32)), .val (.int (w0_0 p0 p1)), .val (.int (w0_1 p0 p2)), .val (.int (w0_2 p0 p3)), .val (.int (w0_3 p0 p4)), .val (.ref b17), .val (.ref b23), .unset] [(.int (2 : Int32)), (.int (2 : Int32))])) _
          refine XS.icmpNo X25.here hx rfl (hb hby at_149) rfl (flt (by decide)).1 ?_
          show Steps p.tables e below (T25.setTop (mkF m 152 #[.val (.int p0), .val (.int p1), .val (.int p2), .val (.int p3), .val (.int p4), .val (.int (2 : Int32)), .val (.int (w0_0 p0 p1)), .val (.int (w0_1 p0 p2)), .val (.int (w0_2 p0 p3)), .val (.int (w0_3 p0 p4)), .val (.ref b17), .val (.ref b23), .unset] [])) _
          refine XS.iload X25.here hx rfl (hb hby at_152) rfl ?_
          show Steps p.tables e below (T25.setTop (mkF m 154 #[.val (.int p0), .val (.int p1), .val (.int p2), .val (.int p3), .val (.int p4), .val (.int (2 : Int32)), .val (.int (w0_0 p0 p1)), .val (.int (w0_1 p0 p2)), .val (.int (w0_2 p0 p3)), .val (.int (w0_3 p0 p4)), .val (.ref b17), .val (.ref b23), .unset] [(.int (w0_1 p0 p2))])) _
          refine XS.iconst X25.here hx rfl (hb hby at_154) ?_
          show Steps p.tables e below (T25.setTop (mkF m 155 #[.val (.int p0), .val (.int p1), .val (.int p2), .val (.int p3), .val (.int p4), .val (.int (2 : Int32)), .val (.int (w0_0 p0 p1)), .val (.int (w0_1 p0 p2)), .val (.int (w0_2 p0 p3)), .val (.int (w0_3 p0 p4)), .val (.ref b17), .val (.ref b23), .unset] [(.int (1 : Int32)), (.int (w0_1 p0 p2))])) _
          have sg155 : Steps p.tables e below (T25.setTop (mkF m 187 #[.val (.int p0), .val (.int p1), .val (.int p2), .val (.int p3), .val (.int p4), .val (.int (2 : Int32)), .val (.int (w0_0 p0 p1)), .val (.int (w0_1 p0 p2)), .val (.int (w0_2 p0 p3)), .val (.int (w0_3 p0 p4)), .val (.ref b17), .val (.ref b23), .unset] [(.int (if (w0_1 p0 p2) = (1 : Int32) then (1 : Int32) else (0 : Int32)))])) tZ → Steps p.tables e below (T25.setTop (mkF m 155 #[.val (.int p0), .val (.int p1), .val (.int p2), .val (.int p3), .val (.int p4), .val (.int (2 : Int32)), .val (.int (w0_0 p0 p1)), .val (.int (w0_1 p0 p2)), .val (.int (w0_2 p0 p3)), .val (.int (w0_3 p0 p4)), .val (.ref b17), .val (.ref b23), .unset] [(.int (1 : Int32)), (.int (w0_1 p0 p2))])) tZ := by
            intro kj
            by_cases hc155 : (w0_1 p0 p2) = (1 : Int32)
            · try simp only [if_pos hc155] at kj
              refine XS.icmpNo X25.here hx rfl (hb hby at_155) rfl (teq hc155).2 ?_
              show Steps p.tables e below (T25.setTop (mkF m 158 #[.val (.int p0), .val (.int p1), .val (.int p2), .val (.int p3), .val (.int p4), .val (.int (2 : Int32)), .val (.int (w0_0 p0 p1)), .val (.int (w0_1 p0 p2)), .val (.int (w0_2 p0 p3)), .val (.int (w0_3 p0 p4)), .val (.ref b17), .val (.ref b23), .unset] [])) _
              refine XS.iload X25.here hx rfl (hb hby at_158) rfl ?_
              show Steps p.tables e below (T25.setTop (mkF m 160 #[.val (.int p0), .val (.int p1), .val (.int p2), .val (.int p3), .val (.int p4), .val (.int (2 : Int32)), .val (.int (w0_0 p0 p1)), .val (.int (w0_1 p0 p2)), .val (.int (w0_2 p0 p3)), .val (.int (w0_3 p0 p4)), .val (.ref b17), .val (.ref b23), .unset] [(.int (2 : Int32))])) _
              refine XS.iconst X25.here hx rfl (hb hby at_160) ?_
              show Steps p.tables e below (T25.setTop (mkF m 161 #[.val (.int p0), .val (.int p1), .val (.int p2), .val (.int p3), .val (.int p4), .val (.int (2 : Int32)), .val (.int (w0_0 p0 p1)), .val (.int (w0_1 p0 p2)), .val (.int (w0_2 p0 p3)), .val (.int (w0_3 p0 p4)), .val (.ref b17), .val (.ref b23), .unset] [(.int (3 : Int32)), (.int (2 : Int32))])) _
              refine XS.icmpYes X25.here hx rfl (pc0 := 161) (pc' := 170) rfl (hb hby at_161) rfl (tlt (by decide)).1 (by decide) (by decide) ?_
              show Steps p.tables e below (T25.setTop (mkF m 170 #[.val (.int p0), .val (.int p1), .val (.int p2), .val (.int p3), .val (.int p4), .val (.int (2 : Int32)), .val (.int (w0_0 p0 p1)), .val (.int (w0_1 p0 p2)), .val (.int (w0_2 p0 p3)), .val (.int (w0_3 p0 p4)), .val (.ref b17), .val (.ref b23), .unset] [])) _
              refine XS.iload X25.here hx rfl (hb hby at_170) rfl ?_
              show Steps p.tables e below (T25.setTop (mkF m 172 #[.val (.int p0), .val (.int p1), .val (.int p2), .val (.int p3), .val (.int p4), .val (.int (2 : Int32)), .val (.int (w0_0 p0 p1)), .val (.int (w0_1 p0 p2)), .val (.int (w0_2 p0 p3)), .val (.int (w0_3 p0 p4)), .val (.ref b17), .val (.ref b23), .unset] [(.int (2 : Int32))])) _
              refine XS.iconst X25.here hx rfl (hb hby at_172) ?_
              show Steps p.tables e below (T25.setTop (mkF m 173 #[.val (.int p0), .val (.int p1), .val (.int p2), .val (.int p3), .val (.int p4), .val (.int (2 : Int32)), .val (.int (w0_0 p0 p1)), .val (.int (w0_1 p0 p2)), .val (.int (w0_2 p0 p3)), .val (.int (w0_3 p0 p4)), .val (.ref b17), .val (.ref b23), .unset] [(.int (4 : Int32)), (.int (2 : Int32))])) _
              refine XS.icmpYes X25.here hx rfl (pc0 := 173) (pc' := 182) rfl (hb hby at_173) rfl (tlt (by decide)).1 (by decide) (by decide) ?_
              show Steps p.tables e below (T25.setTop (mkF m 182 #[.val (.int p0), .val (.int p1), .val (.int p2), .val (.int p3), .val (.int p4), .val (.int (2 : Int32)), .val (.int (w0_0 p0 p1)), .val (.int (w0_1 p0 p2)), .val (.int (w0_2 p0 p3)), .val (.int (w0_3 p0 p4)), .val (.ref b17), .val (.ref b23), .unset] [])) _
              refine XS.iconst X25.here hx rfl (hb hby at_182) ?_
              show Steps p.tables e below (T25.setTop (mkF m 183 #[.val (.int p0), .val (.int p1), .val (.int p2), .val (.int p3), .val (.int p4), .val (.int (2 : Int32)), .val (.int (w0_0 p0 p1)), .val (.int (w0_1 p0 p2)), .val (.int (w0_2 p0 p3)), .val (.int (w0_3 p0 p4)), .val (.ref b17), .val (.ref b23), .unset] [(.int (1 : Int32))])) _
              refine XS.goto X25.here hx rfl (pc0 := 183) (pc' := 187) rfl (hb hby at_183) (by decide) (by decide) ?_
              show Steps p.tables e below (T25.setTop (mkF m 187 #[.val (.int p0), .val (.int p1), .val (.int p2), .val (.int p3), .val (.int p4), .val (.int (2 : Int32)), .val (.int (w0_0 p0 p1)), .val (.int (w0_1 p0 p2)), .val (.int (w0_2 p0 p3)), .val (.int (w0_3 p0 p4)), .val (.ref b17), .val (.ref b23), .unset] [(.int (1 : Int32))])) _
              exact kj
            · try simp only [if_neg hc155] at kj
              refine XS.icmpYes X25.here hx rfl (pc0 := 155) (pc' := 186) rfl (hb hby at_155) rfl (feq hc155).2 (by decide) (by decide) ?_
              show Steps p.tables e below (T25.setTop (mkF m 186 #[.val (.int p0), .val (.int p1), .val (.int p2), .val (.int p3), .val (.int p4), .val (.int (2 : Int32)), .val (.int (w0_0 p0 p1)), .val (.int (w0_1 p0 p2)), .val (.int (w0_2 p0 p3)), .val (.int (w0_3 p0 p4)), .val (.ref b17), .val (.ref b23), .unset] [])) _
              refine XS.iconst X25.here hx rfl (hb hby at_186) ?_
              show Steps p.tables e below (T25.setTop (mkF m 187 #[.val (.int p0), .val (.int p1), .val (.int p2), .val (.int p3), .val (.int p4), .val (.int (2 : Int32)), .val (.int (w0_0 p0 p1)), .val (.int (w0_1 p0 p2)), .val (.int (w0_2 p0 p3)), .val (.int (w0_3 p0 p4)), .val (.ref b17), .val (.ref b23), .unset] [(.int (0 : Int32))])) _
              exact kj
          refine sg155 ?_
          show Steps p.tables e below (T25.setTop (mkF m 187 #[.val (.int p0), .val (.int p1), .val (.int p2), .val (.int p3), .val (.int p4), .val (.int (2 : Int32)), .val (.int (w0_0 p0 p1)), .val (.int (w0_1 p0 p2)), .val (.int (w0_2 p0 p3)), .val (.int (w0_3 p0 p4)), .val (.ref b17), .val (.ref b23), .unset] [(.int (w0_5 p0 p2))])) _
          exact kj
        · try simp only [if_neg hc143] at kj
          refine XS.icmpYes X25.here hx rfl (pc0 := 143) (pc' := 186) rfl (hb hby at_143) rfl (feq hc143).2 (by decide) (by decide) ?_
          show Steps p.tables e below (T25.setTop (mkF m 186 #[.val (.int p0), .val (.int p1), .val (.int p2), .val (.int p3), .val (.int p4), .val (.int (2 : Int32)), .val (.int (w0_0 p0 p1)), .val (.int (w0_1 p0 p2)), .val (.int (w0_2 p0 p3)), .val (.int (w0_3 p0 p4)), .val (.ref b17), .val (.ref b23), .unset] [])) _
          refine XS.iconst X25.here hx rfl (hb hby at_186) ?_
          show Steps p.tables e below (T25.setTop (mkF m 187 #[.val (.int p0), .val (.int p1), .val (.int p2), .val (.int p3), .val (.int p4), .val (.int (2 : Int32)), .val (.int (w0_0 p0 p1)), .val (.int (w0_1 p0 p2)), .val (.int (w0_2 p0 p3)), .val (.int (w0_3 p0 p4)), .val (.ref b17), .val (.ref b23), .unset] [(.int (0 : Int32))])) _
          exact kj
      refine sg143 ?_
      show Steps p.tables e below (T25.setTop (mkF m 187 #[.val (.int p0), .val (.int p1), .val (.int p2), .val (.int p3), .val (.int p4), .val (.int (2 : Int32)), .val (.int (w0_0 p0 p1)), .val (.int (w0_1 p0 p2)), .val (.int (w0_2 p0 p3)), .val (.int (w0_3 p0 p4)), .val (.ref b17), .val (.ref b23), .unset] [(.int (w0_6 p0 p1 p2))])) _
      refine XS.istore X25.here hx rfl (hb hby at_187) rfl (l' := #[.val (.int p0), .val (.int p1), .val (.int p2), .val (.int p3), .val (.int p4), .val (.int (2 : Int32)), .val (.int (w0_0 p0 p1)), .val (.int (w0_1 p0 p2)), .val (.int (w0_2 p0 p3)), .val (.int (w0_3 p0 p4)), .val (.ref b17), .val (.ref b23), .val (.int (w0_6 p0 p1 p2))]) rfl ?_
      show Steps p.tables e below (T25.setTop (mkF m 189 #[.val (.int p0), .val (.int p1), .val (.int p2), .val (.int p3), .val (.int p4), .val (.int (2 : Int32)), .val (.int (w0_0 p0 p1)), .val (.int (w0_1 p0 p2)), .val (.int (w0_2 p0 p3)), .val (.int (w0_3 p0 p4)), .val (.ref b17), .val (.ref b23), .val (.int (w0_6 p0 p1 p2))] [])) _
      refine XS.aload X25.here hx rfl (hb hby at_189) rfl rfl ?_
      show Steps p.tables e below (T25.setTop (mkF m 191 #[.val (.int p0), .val (.int p1), .val (.int p2), .val (.int p3), .val (.int p4), .val (.int (2 : Int32)), .val (.int (w0_0 p0 p1)), .val (.int (w0_1 p0 p2)), .val (.int (w0_2 p0 p3)), .val (.int (w0_3 p0 p4)), .val (.ref b17), .val (.ref b23), .val (.int (w0_6 p0 p1 p2))] [(.ref b23)])) _
      exact kZ
    obtain ⟨cq27, kq27, q27a, q27b, q27c⟩ := isOf hZ rfl f25_0
    obtain ⟨_, _, ⟨T27, L27, k27, n27⟩, -, X27, ⟨Lc27, hQ27, l27, y27, z27⟩, st27⟩ := X25.virtualBack hx (y := (⟨"com/example/ltlconv/ltlconv/dra/RabinDraft", "isRabin", "()Z"⟩ : MethodName)) (z := (⟨"com/example/ltlconv/ltlconv/dra/RabinDraft", "isRabin", "()Z"⟩ : MethodName)) hown (mvT hZ (hw _ (List.mem_of_getElem? (i := 49) rfl))) (mvT hZ (hw _ (List.mem_of_getElem? (i := 50) rfl))) (notFace_of_selects (args := #[]) (mvT hZ (hw _ (List.mem_of_getElem? (i := 52) rfl)))) (mvT hZ (hw _ (List.mem_of_getElem? (i := 52) rfl))) (mvT hZ (hw _ (List.mem_of_getElem? (i := 51) rfl))) (by decide) (backOf (W := 0) (rm6n2 l Z a0 hw [] b23 b25_0 (up (up (fun _ => (0 : Int32)) (0 : Int32).toNatClampNeg (w0_0 p0 p1)) (1 : Int32).toNatClampNeg (w0_1 p0 p2)) T25.heap n0 Z25 f25_1 f25_5) hZ (hw _ (List.mem_of_getElem? (i := 53) rfl)) (hw _ (List.mem_of_getElem? (i := 3) rfl)) (by decide) (by decide)) q27a q27c (g := (mkF m 191 #[.val (.int p0), .val (.int p1), .val (.int p2), .val (.int p3), .val (.int p4), .val (.int (2 : Int32)), .val (.int (w0_0 p0 p1)), .val (.int (w0_1 p0 p2)), .val (.int (w0_2 p0 p3)), .val (.int (w0_3 p0 p4)), .val (.ref b17), .val (.ref b23), .val (.int (w0_6 p0 p1 p2))] [(.ref b23)])) rfl (by rw [hml]; rfl) (Steps.refl _) (argsL := []) (rest := []) (lenOf pd_3 rfl) rfl (by show 2 * 0 + _ ≤ _; exact Nat.le_of_eq rfl) (hb hby at_191) (fun _ _ => ⟨rfl, rfl, (by decide : 0 + 1 + 1 + 3 + 0 ≤ _), (by decide : 0 + 2 + 4 + 7 + 0 ≤ _)⟩)
    dsimp only [Pt.U, Pt.locs, Pt.cells, Pt.slots] at X27 l27 y27 z27 st27 hQ27
    subst l27 y27 z27
    obtain ⟨rfl, N27q, e27⟩ := hQ27
    have N27 := Fr.app N25 N27q
    refine Go.via (fun t k => st27.trans k) ?_
    show Go p e below _ (T27.setTop (mkF m 194 #[.val (.int p0), .val (.int p1), .val (.int p2), .val (.int p3), .val (.int p4), .val (.int (2 : Int32)), .val (.int (w0_0 p0 p1)), .val (.int (w0_1 p0 p2)), .val (.int (w0_2 p0 p3)), .val (.int (w0_3 p0 p4)), .val (.ref b17), .val (.ref b23), .val (.int (w0_6 p0 p1 p2))] [(.int (f6n2 b23 b25_0 (up (up (fun _ => (0 : Int32)) (0 : Int32).toNatClampNeg (w0_0 p0 p1)) (1 : Int32).toNatClampNeg (w0_1 p0 p2))))]))
    refine Go.via (T' := T27.setTop (mkF m 204 #[.val (.int p0), .val (.int p1), .val (.int p2), .val (.int p3), .val (.int p4), .val (.int (2 : Int32)), .val (.int (w0_0 p0 p1)), .val (.int (w0_1 p0 p2)), .val (.int (w0_2 p0 p3)), .val (.int (w0_3 p0 p4)), .val (.ref b17), .val (.ref b23), .val (.int (w0_6 p0 p1 p2))] [(.int (1 : Int32))])) (fun tZ kZ => ?_) ?_
    · show Steps p.tables e below (T27.setTop (mkF m 194 #[.val (.int p0), .val (.int p1), .val (.int p2), .val (.int p3), .val (.int p4), .val (.int (2 : Int32)), .val (.int (w0_0 p0 p1)), .val (.int (w0_1 p0 p2)), .val (.int (w0_2 p0 p3)), .val (.int (w0_3 p0 p4)), .val (.ref b17), .val (.ref b23), .val (.int (w0_6 p0 p1 p2))] [(.int (f6n2 b23 b25_0 (up (up (fun _ => (0 : Int32)) (0 : Int32).toNatClampNeg (w0_0 p0 p1)) (1 : Int32).toNatClampNeg (w0_1 p0 p2))))])) _
      refine XS.iload X27.here hx rfl (hb hby at_194) rfl ?_
      show Steps p.tables e below (T27.setTop (mkF m 196 #[.val (.int p0), .val (.int p1), .val (.int p2), .val (.int p3), .val (.int p4), .val (.int (2 : Int32)), .val (.int (w0_0 p0 p1)), .val (.int (w0_1 p0 p2)), .val (.int (w0_2 p0 p3)), .val (.int (w0_3 p0 p4)), .val (.ref b17), .val (.ref b23), .val (.int (w0_6 p0 p1 p2))] [(.int (w0_6 p0 p1 p2)), (.int (f6n2 b23 b25_0 (up (up (fun _ => (0 : Int32)) (0 : Int32).toNatClampNeg (w0_0 p0 p1)) (1 : Int32).toNatClampNeg (w0_1 p0 p2))))])) _
      refine XS.icmpNo X27.here hx rfl (hb hby at_196) rfl (teq (by first | (simp [f6n2, up, nar, Int32.toNatClampNeg]; done) | (simp [f6n2, up, nar, Int32.toNatClampNeg]; rfl))).2 ?_
      show Steps p.tables e below (T27.setTop (mkF m 199 #[.val (.int p0), .val (.int p1), .val (.int p2), .val (.int p3), .val (.int p4), .val (.int (2 : Int32)), .val (.int (w0_0 p0 p1)), .val (.int (w0_1 p0 p2)), .val (.int (w0_2 p0 p3)), .val (.int (w0_3 p0 p4)), .val (.ref b17), .val (.ref b23), .val (.int (w0_6 p0 p1 p2))] [])) _
      refine XS.iconst X27.here hx rfl (hb hby at_199) ?_
      show Steps p.tables e below (T27.setTop (mkF m 200 #[.val (.int p0), .val (.int p1), .val (.int p2), .val (.int p3), .val (.int p4), .val (.int (2 : Int32)), .val (.int (w0_0 p0 p1)), .val (.int (w0_1 p0 p2)), .val (.int (w0_2 p0 p3)), .val (.int (w0_3 p0 p4)), .val (.ref b17), .val (.ref b23), .val (.int (w0_6 p0 p1 p2))] [(.int (1 : Int32))])) _
      refine XS.goto X27.here hx rfl (pc0 := 200) (pc' := 204) rfl (hb hby at_200) (by decide) (by decide) ?_
      show Steps p.tables e below (T27.setTop (mkF m 204 #[.val (.int p0), .val (.int p1), .val (.int p2), .val (.int p3), .val (.int p4), .val (.int (2 : Int32)), .val (.int (w0_0 p0 p1)), .val (.int (w0_1 p0 p2)), .val (.int (w0_2 p0 p3)), .val (.int (w0_3 p0 p4)), .val (.ref b17), .val (.ref b23), .val (.int (w0_6 p0 p1 p2))] [(.int (1 : Int32))])) _
      exact kZ
    refine Go.retN X27 hx Bd.notSynchronized (t := .boolean) Bd.returns (by simp) (hb hby at_204) (by decide) (by decide) ?_
    exact ⟨rfl, N27⟩
  · rw [hi]
    show Go p e below _ (s₁.setTop (mkF m 8 #[.val (.int p0), .val (.int p1), .val (.int p2), .val (.int p3), .val (.int p4), .val (.int (3 : Int32)), .unset, .unset, .unset, .unset, .unset, .unset, .unset] []))
    refine Go.via (T' := s₁.setTop (mkF m 72 #[.val (.int p0), .val (.int p1), .val (.int p2), .val (.int p3), .val (.int p4), .val (.int (3 : Int32)), .val (.int (w0_0 p0 p1)), .val (.int (w0_1 p0 p2)), .val (.int (w0_2 p0 p3)), .val (.int (w0_3 p0 p4)), .unset, .unset, .unset] [(.int (3 : Int32))])) (fun tZ kZ => ?_) ?_
    · show Steps p.tables e below (s₁.setTop (mkF m 8 #[.val (.int p0), .val (.int p1), .val (.int p2), .val (.int p3), .val (.int p4), .val (.int (3 : Int32)), .unset, .unset, .unset, .unset, .unset, .unset, .unset] [])) _
      refine XS.iloadN X0.here hx rfl (hb hby at_8) rfl ?_
      show Steps p.tables e below (s₁.setTop (mkF m 9 #[.val (.int p0), .val (.int p1), .val (.int p2), .val (.int p3), .val (.int p4), .val (.int (3 : Int32)), .unset, .unset, .unset, .unset, .unset, .unset, .unset] [(.int p0)])) _
      refine XS.iconst X0.here hx rfl (hb hby at_9) ?_
      show Steps p.tables e below (s₁.setTop (mkF m 10 #[.val (.int p0), .val (.int p1), .val (.int p2), .val (.int p3), .val (.int p4), .val (.int (3 : Int32)), .unset, .unset, .unset, .unset, .unset, .unset, .unset] [(.int (3 : Int32)), (.int p0)])) _
      refine XS.iushr X0.here hx rfl (hb hby at_10) rfl ?_
      show Steps p.tables e below (s₁.setTop (mkF m 11 #[.val (.int p0), .val (.int p1), .val (.int p2), .val (.int p3), .val (.int p4), .val (.int (3 : Int32)), .unset, .unset, .unset, .unset, .unset, .unset, .unset] [(.int ((p0.toUInt32 >>> ((3 : Int32) &&& 31).toUInt32).toInt32))])) _
      refine XS.iconst X0.here hx rfl (hb hby at_11) ?_
      show Steps p.tables e below (s₁.setTop (mkF m 12 #[.val (.int p0), .val (.int p1), .val (.int p2), .val (.int p3), .val (.int p4), .val (.int (3 : Int32)), .unset, .unset, .unset, .unset, .unset, .unset, .unset] [(.int (1 : Int32)), (.int ((p0.toUInt32 >>> ((3 : Int32) &&& 31).toUInt32).toInt32))])) _
      refine XS.iand X0.here hx rfl (hb hby at_12) rfl ?_
      show Steps p.tables e below (s₁.setTop (mkF m 13 #[.val (.int p0), .val (.int p1), .val (.int p2), .val (.int p3), .val (.int p4), .val (.int (3 : Int32)), .unset, .unset, .unset, .unset, .unset, .unset, .unset] [(.int (((p0.toUInt32 >>> ((3 : Int32) &&& 31).toUInt32).toInt32) &&& (1 : Int32)))])) _
      have sg13 : Steps p.tables e below (s₁.setTop (mkF m 21 #[.val (.int p0), .val (.int p1), .val (.int p2), .val (.int p3), .val (.int p4), .val (.int (3 : Int32)), .unset, .unset, .unset, .unset, .unset, .unset, .unset] [(.int (if (((p0.toUInt32 >>> ((3 : Int32) &&& 31).toUInt32).toInt32) &&& (1 : Int32)) = (0 : Int32) then p1 else (1 : Int32)))])) tZ → Steps p.tables e below (s₁.setTop (mkF m 13 #[.val (.int p0), .val (.int p1), .val (.int p2), .val (.int p3), .val (.int p4), .val (.int (3 : Int32)), .unset, .unset, .unset, .unset, .unset, .unset, .unset] [(.int (((p0.toUInt32 >>> ((3 : Int32) &&& 31).toUInt32).toInt32) &&& (1 : Int32)))])) tZ := by
        intro kj
        by_cases hc13 : (((p0.toUInt32 >>> ((3 : Int32) &&& 31).toUInt32).toInt32) &&& (1 : Int32)) = (0 : Int32)
        · try simp only [if_pos hc13] at kj
          refine XS.ifYes X0.here hx rfl (pc0 := 13) (pc' := 20) rfl (hb hby at_13) rfl ((if0 _ _).trans (teq hc13).1) (by decide) (by decide) ?_
          show Steps p.tables e below (s₁.setTop (mkF m 20 #[.val (.int p0), .val (.int p1), .val (.int p2), .val (.int p3), .val (.int p4), .val (.int (3 : Int32)), .unset, .unset, .unset, .unset, .unset, .unset, .unset] [])) _
          refine XS.iloadN X0.here hx rfl (hb hby at_20) rfl ?_
          show Steps p.tables e below (s₁.setTop (mkF m 21 #[.val (.int p0), .val (.int p1), .val (.int p2), .val (.int p3), .val (.int p4), .val (.int (3 : Int32)), .unset, .unset, .unset, .unset, .unset, .unset, .unset] [(.int p1)])) _
          exact kj
        · try simp only [if_neg hc13] at kj
          refine XS.ifNo X0.here hx rfl (hb hby at_13) rfl ((if0 _ _).trans (feq hc13).1) ?_
          show Steps p.tables e below (s₁.setTop (mkF m 16 #[.val (.int p0), .val (.int p1), .val (.int p2), .val (.int p3), .val (.int p4), .val (.int (3 : Int32)), .unset, .unset, .unset, .unset, .unset, .unset, .unset] [])) _
          refine XS.iconst X0.here hx rfl (hb hby at_16) ?_
          show Steps p.tables e below (s₁.setTop (mkF m 17 #[.val (.int p0), .val (.int p1), .val (.int p2), .val (.int p3), .val (.int p4), .val (.int (3 : Int32)), .unset, .unset, .unset, .unset, .unset, .unset, .unset] [(.int (1 : Int32))])) _
          refine XS.goto X0.here hx rfl (pc0 := 17) (pc' := 21) rfl (hb hby at_17) (by decide) (by decide) ?_
          show Steps p.tables e below (s₁.setTop (mkF m 21 #[.val (.int p0), .val (.int p1), .val (.int p2), .val (.int p3), .val (.int p4), .val (.int (3 : Int32)), .unset, .unset, .unset, .unset, .unset, .unset, .unset] [(.int (1 : Int32))])) _
          exact kj
      refine sg13 ?_
      show Steps p.tables e below (s₁.setTop (mkF m 21 #[.val (.int p0), .val (.int p1), .val (.int p2), .val (.int p3), .val (.int p4), .val (.int (3 : Int32)), .unset, .unset, .unset, .unset, .unset, .unset, .unset] [(.int (w0_0 p0 p1))])) _
      refine XS.istore X0.here hx rfl (hb hby at_21) rfl (l' := #[.val (.int p0), .val (.int p1), .val (.int p2), .val (.int p3), .val (.int p4), .val (.int (3 : Int32)), .val (.int (w0_0 p0 p1)), .unset, .unset, .unset, .unset, .unset, .unset]) rfl ?_
      show Steps p.tables e below (s₁.setTop (mkF m 23 #[.val (.int p0), .val (.int p1), .val (.int p2), .val (.int p3), .val (.int p4), .val (.int (3 : Int32)), .val (.int (w0_0 p0 p1)), .unset, .unset, .unset, .unset, .unset, .unset] [])) _
      refine XS.iloadN X0.here hx rfl (hb hby at_23) rfl ?_
      show Steps p.tables e below (s₁.setTop (mkF m 24 #[.val (.int p0), .val (.int p1), .val (.int p2), .val (.int p3), .val (.int p4), .val (.int (3 : Int32)), .val (.int (w0_0 p0 p1)), .unset, .unset, .unset, .unset, .unset, .unset] [(.int p0)])) _
      refine XS.iconst X0.here hx rfl (hb hby at_24) ?_
      show Steps p.tables e below (s₁.setTop (mkF m 25 #[.val (.int p0), .val (.int p1), .val (.int p2), .val (.int p3), .val (.int p4), .val (.int (3 : Int32)), .val (.int (w0_0 p0 p1)), .unset, .unset, .unset, .unset, .unset, .unset] [(.int (4 : Int32)), (.int p0)])) _
      refine XS.iushr X0.here hx rfl (hb hby at_25) rfl ?_
      show Steps p.tables e below (s₁.setTop (mkF m 26 #[.val (.int p0), .val (.int p1), .val (.int p2), .val (.int p3), .val (.int p4), .val (.int (3 : Int32)), .val (.int (w0_0 p0 p1)), .unset, .unset, .unset, .unset, .unset, .unset] [(.int ((p0.toUInt32 >>> ((4 : Int32) &&& 31).toUInt32).toInt32))])) _
      refine XS.iconst X0.here hx rfl (hb hby at_26) ?_
      show Steps p.tables e below (s₁.setTop (mkF m 27 #[.val (.int p0), .val (.int p1), .val (.int p2), .val (.int p3), .val (.int p4), .val (.int (3 : Int32)), .val (.int (w0_0 p0 p1)), .unset, .unset, .unset, .unset, .unset, .unset] [(.int (1 : Int32)), (.int ((p0.toUInt32 >>> ((4 : Int32) &&& 31).toUInt32).toInt32))])) _
      refine XS.iand X0.here hx rfl (hb hby at_27) rfl ?_
      show Steps p.tables e below (s₁.setTop (mkF m 28 #[.val (.int p0), .val (.int p1), .val (.int p2), .val (.int p3), .val (.int p4), .val (.int (3 : Int32)), .val (.int (w0_0 p0 p1)), .unset, .unset, .unset, .unset, .unset, .unset] [(.int (((p0.toUInt32 >>> ((4 : Int32) &&& 31).toUInt32).toInt32) &&& (1 : Int32)))])) _
      have sg28 : Steps p.tables e below (s₁.setTop (mkF m 36 #[.val (.int p0), .val (.int p1), .val (.int p2), .val (.int p3), .val (.int p4), .val (.int (3 : Int32)), .val (.int (w0_0 p0 p1)), .unset, .unset, .unset, .unset, .unset, .unset] [(.int (if (((p0.toUInt32 >>> ((4 : Int32) &&& 31).toUInt32).toInt32) &&& (1 : Int32)) = (0 : Int32) then p2 else (1 : Int32)))])) tZ → Steps p.tables e below (s₁.setTop (mkF m 28 #[.val (.int p0), .val (.int p1), .val (.int p2), .val (.int p3), .val (.int p4), .val (.int (3 : Int32)), .val (.int (w0_0 p0 p1)), .unset, .unset, .unset, .unset, .unset, .unset] [(.int (((p0.toUInt32 >>> ((4 : Int32) &&& 31).toUInt32).toInt32) &&& (1 : Int32)))])) tZ := by
        intro kj
        by_cases hc28 : (((p0.toUInt32 >>> ((4 : Int32) &&& 31).toUInt32).toInt32) &&& (1 : Int32)) = (0 : Int32)
        · try simp only [if_pos hc28] at kj
          refine XS.ifYes X0.here hx rfl (pc0 := 28) (pc' := 35) rfl (hb hby at_28) rfl ((if0 _ _).trans (teq hc28).1) (by decide) (by decide) ?_
          show Steps p.tables e below (s₁.setTop (mkF m 35 #[.val (.int p0), .val (.int p1), .val (.int p2), .val (.int p3), .val (.int p4), .val (.int (3 : Int32)), .val (.int (w0_0 p0 p1)), .unset, .unset, .unset, .unset, .unset, .unset] [])) _
          refine XS.iloadN X0.here hx rfl (hb hby at_35) rfl ?_
          show Steps p.tables e below (s₁.setTop (mkF m 36 #[.val (.int p0), .val (.int p1), .val (.int p2), .val (.int p3), .val (.int p4), .val (.int (3 : Int32)), .val (.int (w0_0 p0 p1)), .unset, .unset, .unset, .unset, .unset, .unset] [(.int p2)])) _
          exact kj
        · try simp only [if_neg hc28] at kj
          refine XS.ifNo X0.here hx rfl (hb hby at_28) rfl ((if0 _ _).trans (feq hc28).1) ?_
          show Steps p.tables e below (s₁.setTop (mkF m 31 #[.val (.int p0), .val (.int p1), .val (.int p2), .val (.int p3), .val (.int p4), .val (.int (3 : Int32)), .val (.int (w0_0 p0 p1)), .unset, .unset, .unset, .unset, .unset, .unset] [])) _
          refine XS.iconst X0.here hx rfl (hb hby at_31) ?_
          show Steps p.tables e below (s₁.setTop (mkF m 32 #[.val (.int p0), .val (.int p1), .val (.int p2), .val (.int p3), .val (.int p4), .val (.int (3 : Int32)), .val (.int (w0_0 p0 p1)), .unset, .unset, .unset, .unset, .unset, .unset] [(.int (1 : Int32))])) _
          refine XS.goto X0.here hx rfl (pc0 := 32) (pc' := 36) rfl (hb hby at_32) (by decide) (by decide) ?_
          show Steps p.tables e below (s₁.setTop (mkF m 36 #[.val (.int p0), .val (.int p1), .val (.int p2), .val (.int p3), .val (.int p4), .val (.int (3 : Int32)), .val (.int (w0_0 p0 p1)), .unset, .unset, .unset, .unset, .unset, .unset] [(.int (1 : Int32))])) _
          exact kj
      refine sg28 ?_
      show Steps p.tables e below (s₁.setTop (mkF m 36 #[.val (.int p0), .val (.int p1), .val (.int p2), .val (.int p3), .val (.int p4), .val (.int (3 : Int32)), .val (.int (w0_0 p0 p1)), .unset, .unset, .unset, .unset, .unset, .unset] [(.int (w0_1 p0 p2))])) _
      refine XS.istore X0.here hx rfl (hb hby at_36) rfl (l' := #[.val (.int p0), .val (.int p1), .val (.int p2), .val (.int p3), .val (.int p4), .val (.int (3 : Int32)), .val (.int (w0_0 p0 p1)), .val (.int (w0_1 p0 p2)), .unset, .unset, .unset, .unset, .unset]) rfl ?_
      show Steps p.tables e below (s₁.setTop (mkF m 38 #[.val (.int p0), .val (.int p1), .val (.int p2), .val (.int p3), .val (.int p4), .val (.int (3 : Int32)), .val (.int (w0_0 p0 p1)), .val (.int (w0_1 p0 p2)), .unset, .unset, .unset, .unset, .unset] [])) _
      refine XS.iloadN X0.here hx rfl (hb hby at_38) rfl ?_
      show Steps p.tables e below (s₁.setTop (mkF m 39 #[.val (.int p0), .val (.int p1), .val (.int p2), .val (.int p3), .val (.int p4), .val (.int (3 : Int32)), .val (.int (w0_0 p0 p1)), .val (.int (w0_1 p0 p2)), .unset, .unset, .unset, .unset, .unset] [(.int p0)])) _
      refine XS.iconst X0.here hx rfl (hb hby at_39) ?_
      show Steps p.tables e below (s₁.setTop (mkF m 40 #[.val (.int p0), .val (.int p1), .val (.int p2), .val (.int p3), .val (.int p4), .val (.int (3 : Int32)), .val (.int (w0_0 p0 p1)), .val (.int (w0_1 p0 p2)), .unset, .unset, .unset, .unset, .unset] [(.int (5 : Int32)), (.int p0)])) _
      refine XS.iushr X0.here hx rfl (hb hby at_40) rfl ?_
      show Steps p.tables e below (s₁.setTop (mkF m 41 #[.val (.int p0), .val (.int p1), .val (.int p2), .val (.int p3), .val (.int p4), .val (.int (3 : Int32)), .val (.int (w0_0 p0 p1)), .val (.int (w0_1 p0 p2)), .unset, .unset, .unset, .unset, .unset] [(.int ((p0.toUInt32 >>> ((5 : Int32) &&& 31).toUInt32).toInt32))])) _
      refine XS.iconst X0.here hx rfl (hb hby at_41) ?_
      show Steps p.tables e below (s₁.setTop (mkF m 42 #[.val (.int p0), .val (.int p1), .val (.int p2), .val (.int p3), .val (.int p4), .val (.int (3 : Int32)), .val (.int (w0_0 p0 p1)), .val (.int (w0_1 p0 p2)), .unset, .unset, .unset, .unset, .unset] [(.int (1 : Int32)), (.int ((p0.toUInt32 >>> ((5 : Int32) &&& 31).toUInt32).toInt32))])) _
      refine XS.iand X0.here hx rfl (hb hby at_42) rfl ?_
      show Steps p.tables e below (s₁.setTop (mkF m 43 #[.val (.int p0), .val (.int p1), .val (.int p2), .val (.int p3), .val (.int p4), .val (.int (3 : Int32)), .val (.int (w0_0 p0 p1)), .val (.int (w0_1 p0 p2)), .unset, .unset, .unset, .unset, .unset] [(.int (((p0.toUInt32 >>> ((5 : Int32) &&& 31).toUInt32).toInt32) &&& (1 : Int32)))])) _
      have sg43 : Steps p.tables e below (s₁.setTop (mkF m 51 #[.val (.int p0), .val (.int p1), .val (.int p2), .val (.int p3), .val (.int p4), .val (.int (3 : Int32)), .val (.int (w0_0 p0 p1)), .val (.int (w0_1 p0 p2)), .unset, .unset, .unset, .unset, .unset] [(.int (if (((p0.toUInt32 >>> ((5 : Int32) &&& 31).toUInt32).toInt32) &&& (1 : Int32)) = (0 : Int32) then p3 else (1 : Int32)))])) tZ → Steps p.tables e below (s₁.setTop (mkF m 43 #[.val (.int p0), .val (.int p1), .val (.int p2), .val (.int p3), .val (.int p4), .val (.int (3 : Int32)), .val (.int (w0_0 p0 p1)), .val (.int (w0_1 p0 p2)), .unset, .unset, .unset, .unset, .unset] [(.int (((p0.toUInt32 >>> ((5 : Int32) &&& 31).toUInt32).toInt32) &&& (1 : Int32)))])) tZ := by
        intro kj
        by_cases hc43 : (((p0.toUInt32 >>> ((5 : Int32) &&& 31).toUInt32).toInt32) &&& (1 : Int32)) = (0 : Int32)
        · try simp only [if_pos hc43] at kj
          refine XS.ifYes X0.here hx rfl (pc0 := 43) (pc' := 50) rfl (hb hby at_43) rfl ((if0 _ _).trans (teq hc43).1) (by decide) (by decide) ?_
          show Steps p.tables e below (s₁.setTop (mkF m 50 #[.val (.int p0), .val (.int p1), .val (.int p2), .val (.int p3), .val (.int p4), .val (.int (3 : Int32)), .val (.int (w0_0 p0 p1)), .val (.int (w0_1 p0 p2)), .unset, .unset, .unset, .unset, .unset] [])) _
          refine XS.iloadN X0.here hx rfl (hb hby at_50) rfl ?_
          show Steps p.tables e below (s₁.setTop (mkF m 51 #[.val (.int p0), .val (.int p1), .val (.int p2), .val (.int p3), .val (.int p4), .val (.int (3 : Int32)), .val (.int (w0_0 p0 p1)), .val (.int (w0_1 p0 p2)), .unset, .unset, .unset, .unset, .unset] [(.int p3)])) _
          exact kj
        · try simp only [if_neg hc43] at kj
          refine XS.ifNo X0.here hx rfl (hb hby at_43) rfl ((if0 _ _).trans (feq hc43).1) ?_
          show Steps p.tables e below (s₁.setTop (mkF m 46 #[.val (.int p0), .val (.int p1), .val (.int p2), .val (.int p3), .val (.int p4), .val (.int (3 : Int32)), .val (.int (w0_0 p0 p1)), .val (.int (w0_1 p0 p2)), .unset, .unset, .unset, .unset, .unset] [])) _
          refine XS.iconst X0.here hx rfl (hb hby at_46) ?_
          show Steps p.tables e below (s₁.setTop (mkF m 47 #[.val (.int p0), .val (.int p1), .val (.int p2), .val (.int p3), .val (.int p4), .val (.int (3 : Int32)), .val (.int (w0_0 p0 p1)), .val (.int (w0_1 p0 p2)), .unset, .unset, .unset, .unset, .unset] [(.int (1 : Int32))])) _
          refine XS.goto X0.here hx rfl (pc0 := 47) (pc' := 51) rfl (hb hby at_47) (by decide) (by decide) ?_
          show Steps p.tables e below (s₁.setTop (mkF m 51 #[.val (.int p0), .val (.int p1), .val (.int p2), .val (.int p3), .val (.int p4), .val (.int (3 : Int32)), .val (.int (w0_0 p0 p1)), .val (.int (w0_1 p0 p2)), .unset, .unset, .unset, .unset, .unset] [(.int (1 : Int32))])) _
          exact kj
      refine sg43 ?_
      show Steps p.tables e below (s₁.setTop (mkF m 51 #[.val (.int p0), .val (.int p1), .val (.int p2), .val (.int p3), .val (.int p4), .val (.int (3 : Int32)), .val (.int (w0_0 p0 p1)), .val (.int (w0_1 p0 p2)), .unset, .unset, .unset, .unset, .unset] [(.int (w0_2 p0 p3))])) _
      refine XS.istore X0.here hx rfl (hb hby at_51) rfl (l' := #[.val (.int p0), .val (.int p1), .val (.int p2), .val (.int p3), .val (.int p4), .val (.int (3 : Int32)), .val (.int (w0_0 p0 p1)), .val (.int (w0_1 p0 p2)), .val (.int (w0_2 p0 p3)), .unset, .unset, .unset, .unset]) rfl ?_
      show Steps p.tables e below (s₁.setTop (mkF m 53 #[.val (.int p0), .val (.int p1), .val (.int p2), .val (.int p3), .val (.int p4), .val (.int (3 : Int32)), .val (.int (w0_0 p0 p1)), .val (.int (w0_1 p0 p2)), .val (.int (w0_2 p0 p3)), .unset, .unset, .unset, .unset] [])) _
      refine XS.iloadN X0.here hx rfl (hb hby at_53) rfl ?_
      show Steps p.tables e below (s₁.setTop (mkF m 54 #[.val (.int p0), .val (.int p1), .val (.int p2), .val (.int p3), .val (.int p4), .val (.int (3 : Int32)), .val (.int (w0_0 p0 p1)), .val (.int (w0_1 p0 p2)), .val (.int (w0_2 p0 p3)), .unset, .unset, .unset, .unset] [(.int p0)])) _
      refine XS.bipush X0.here hx rfl (hb hby at_54) ?_
      show Steps p.tables e below (s₁.setTop (mkF m 56 #[.val (.int p0), .val (.int p1), .val (.int p2), .val (.int p3), .val (.int p4), .val (.int (3 : Int32)), .val (.int (w0_0 p0 p1)), .val (.int (w0_1 p0 p2)), .val (.int (w0_2 p0 p3)), .unset, .unset, .unset, .unset] [(.int (6 : Int32)), (.int p0)])) _
      refine XS.iushr X0.here hx rfl (hb hby at_56) rfl ?_
      show Steps p.tables e below (s₁.setTop (mkF m 57 #[.val (.int p0), .val (.int p1), .val (.int p2), .val (.int p3), .val (.int p4), .val (.int (3 : Int32)), .val (.int (w0_0 p0 p1)), .val (.int (w0_1 p0 p2)), .val (.int (w0_2 p0 p3)), .unset, .unset, .unset, .unset] [(.int ((p0.toUInt32 >>> ((6 : Int32) &&& 31).toUInt32).toInt32))])) _
      refine XS.iconst X0.here hx rfl (hb hby at_57) ?_
      show Steps p.tables e below (s₁.setTop (mkF m 58 #[.val (.int p0), .val (.int p1), .val (.int p2), .val (.int p3), .val (.int p4), .val (.int (3 : Int32)), .val (.int (w0_0 p0 p1)), .val (.int (w0_1 p0 p2)), .val (.int (w0_2 p0 p3)), .unset, .unset, .unset, .unset] [(.int (1 : Int32)), (.int ((p0.toUInt32 >>> ((6 : Int32) &&& 31).toUInt32).toInt32))])) _
      refine XS.iand X0.here hx rfl (hb hby at_58) rfl ?_
      show Steps p.tables e below (s₁.setTop (mkF m 59 #[.val (.int p0), .val (.int p1), .val (.int p2), .val (.int p3), .val (.int p4), .val (.int (3 : Int32)), .val (.int (w0_0 p0 p1)), .val (.int (w0_1 p0 p2)), .val (.int (w0_2 p0 p3)), .unset, .unset, .unset, .unset] [(.int (((p0.toUInt32 >>> ((6 : Int32) &&& 31).toUInt32).toInt32) &&& (1 : Int32)))])) _
      have sg59 : Steps p.tables e below (s₁.setTop (mkF m 68 #[.val (.int p0), .val (.int p1), .val (.int p2), .val (.int p3), .val (.int p4), .val (.int (3 : Int32)), .val (.int (w0_0 p0 p1)), .val (.int (w0_1 p0 p2)), .val (.int (w0_2 p0 p3)), .unset, .unset, .unset, .unset] [(.int (if (((p0.toUInt32 >>> ((6 : Int32) &&& 31).toUInt32).toInt32) &&& (1 : Int32)) = (0 : Int32) then p4 else (1 : Int32)))])) tZ → Steps p.tables e below (s₁.setTop (mkF m 59 #[.val (.int p0), .val (.int p1), .val (.int p2), .val (.int p3), .val (.int p4), .val (.int (3 : Int32)), .val (.int (w0_0 p0 p1)), .val (.int (w0_1 p0 p2)), .val (.int (w0_2 p0 p3)), .unset, .unset, .unset, .unset] [(.int (((p0.toUInt32 >>> ((6 : Int32) &&& 31).toUInt32).toInt32) &&& (1 : Int32)))])) tZ := by
        intro kj
        by_cases hc59 : (((p0.toUInt32 >>> ((6 : Int32) &&& 31).toUInt32).toInt32) &&& (1 : Int32)) = (0 : Int32)
        · try simp only [if_pos hc59] at kj
          refine XS.ifYes X0.here hx rfl (pc0 := 59) (pc' := 66) rfl (hb hby at_59) rfl ((if0 _ _).trans (teq hc59).1) (by decide) (by decide) ?_
          show Steps p.tables e below (s₁.setTop (mkF m 66 #[.val (.int p0), .val (.int p1), .val (.int p2), .val (.int p3), .val (.int p4), .val (.int (3 : Int32)), .val (.int (w0_0 p0 p1)), .val (.int (w0_1 p0 p2)), .val (.int (w0_2 p0 p3)), .unset, .unset, .unset, .unset] [])) _
          refine XS.iload X0.here hx rfl (hb hby at_66) rfl ?_
          show Steps p.tables e below (s₁.setTop (mkF m 68 #[.val (.int p0), .val (.int p1), .val (.int p2), .val (.int p3), .val (.int p4), .val (.int (3 : Int32)), .val (.int (w0_0 p0 p1)), .val (.int (w0_1 p0 p2)), .val (.int (w0_2 p0 p3)), .unset, .unset, .unset, .unset] [(.int p4)])) _
          exact kj
        · try simp only [if_neg hc59] at kj
          refine XS.ifNo X0.here hx rfl (hb hby at_59) rfl ((if0 _ _).trans (feq hc59).1) ?_
          show Steps p.tables e below (s₁.setTop (mkF m 62 #[.val (.int p0), .val (.int p1), .val (.int p2), .val (.int p3), .val (.int p4), .val (.int (3 : Int32)), .val (.int (w0_0 p0 p1)), .val (.int (w0_1 p0 p2)), .val (.int (w0_2 p0 p3)), .unset, .unset, .unset, .unset] [])) _
          refine XS.iconst X0.here hx rfl (hb hby at_62) ?_
          show Steps p.tables e below (s₁.setTop (mkF m 63 #[.val (.int p0), .val (.int p1), .val (.int p2), .val (.int p3), .val (.int p4), .val (.int (3 : Int32)), .val (.int (w0_0 p0 p1)), .val (.int (w0_1 p0 p2)), .val (.int (w0_2 p0 p3)), .unset, .unset, .unset, .unset] [(.int (1 : Int32))])) _
          refine XS.goto X0.here hx rfl (pc0 := 63) (pc' := 68) rfl (hb hby at_63) (by decide) (by decide) ?_
          show Steps p.tables e below (s₁.setTop (mkF m 68 #[.val (.int p0), .val (.int p1), .val (.int p2), .val (.int p3), .val (.int p4), .val (.int (3 : Int32)), .val (.int (w0_0 p0 p1)), .val (.int (w0_1 p0 p2)), .val (.int (w0_2 p0 p3)), .unset, .unset, .unset, .unset] [(.int (1 : Int32))])) _
          exact kj
      refine sg59 ?_
      show Steps p.tables e below (s₁.setTop (mkF m 68 #[.val (.int p0), .val (.int p1), .val (.int p2), .val (.int p3), .val (.int p4), .val (.int (3 : Int32)), .val (.int (w0_0 p0 p1)), .val (.int (w0_1 p0 p2)), .val (.int (w0_2 p0 p3)), .unset, .unset, .unset, .unset] [(.int (w0_3 p0 p4))])) _
      refine XS.istore X0.here hx rfl (hb hby at_68) rfl (l' := #[.val (.int p0), .val (.int p1), .val (.int p2), .val (.int p3), .val (.int p4), .val (.int (3 : Int32)), .val (.int (w0_0 p0 p1)), .val (.int (w0_1 p0 p2)), .val (.int (w0_2 p0 p3)), .val (.int (w0_3 p0 p4)), .unset, .unset, .unset]) rfl ?_
      show Steps p.tables e below (s₁.setTop (mkF m 70 #[.val (.int p0), .val (.int p1), .val (.int p2), .val (.int p3), .val (.int p4), .val (.int (3 : Int32)), .val (.int (w0_0 p0 p1)), .val (.int (w0_1 p0 p2)), .val (.int (w0_2 p0 p3)), .val (.int (w0_3 p0 p4)), .unset, .unset, .unset] [])) _
      refine XS.iload X0.here hx rfl (hb hby at_70) rfl ?_
      show Steps p.tables e below (s₁.setTop (mkF m 72 #[.val (.int p0), .val (.int p1), .val (.int p2), .val (.int p3), .val (.int p4), .val (.int (3 : Int32)), .val (.int (w0_0 p0 p1)), .val (.int (w0_1 p0 p2)), .val (.int (w0_2 p0 p3)), .val (.int (w0_3 p0 p4)), .unset, .unset, .unset] [(.int (3 : Int32))])) _
      exact kZ
    obtain ⟨T28, h28, k28, X28, e28, E28, A28, B28, st28⟩ := newPE X0 hx hZ (hw _ (List.mem_of_getElem? (i := 0) rfl)) e0 (g := (mkF m 72 #[.val (.int p0), .val (.int p1), .val (.int p2), .val (.int p3), .val (.int p4), .val (.int (3 : Int32)), .val (.int (w0_0 p0 p1)), .val (.int (w0_1 p0 p2)), .val (.int (w0_2 p0 p3)), .val (.int (w0_3 p0 p4)), .unset, .unset, .unset] [(.int (3 : Int32))])) rfl (hb hby at_72) rfl (by decide) (cap := 3) (by decide) (by decide) (by decide) (by decide) (ad := "[I") rfl
    obtain ⟨b28, g28⟩ : ∃ z, z = h0.size := ⟨_, rfl⟩
    rw [← g28] at A28 B28 st28
    have g_b28 : n0 ≤ b28 := Nat.le_trans Z0 (Nat.le_of_eq g28.symm)
    have sz_b28 : h0.size ≤ b28 := Nat.le_trans ((Keep.refl h0 [])).1 (Nat.le_of_eq g28.symm)
    have c29_1 := ha1.ext E28
    have c29_0 := ha0.ext c29_1.2
    have K28 : Keep h0 h28 [] := (Keep.refl h0 []).ext E28
    have Z28 : n0 ≤ h28.size := Nat.le_trans Z0 E28.1
    have V28 : AV Z h28 b28 .int 3 (fun k => .int ((fun _ => (0 : Int32)) k)) := by have q := AV.new A28; exact q
    refine Go.via st28 ?_
    show Go p e below _ (T28.setTop (mkF m 74 #[.val (.int p0), .val (.int p1), .val (.int p2), .val (.int p3), .val (.int p4), .val (.int (3 : Int32)), .val (.int (w0_0 p0 p1)), .val (.int (w0_1 p0 p2)), .val (.int (w0_2 p0 p3)), .val (.int (w0_3 p0 p4)), .unset, .unset, .unset] [(.ref b28)]))
    refine Go.via (T' := T28.setTop (mkF m 86 #[.val (.int p0), .val (.int p1), .val (.int p2), .val (.int p3), .val (.int p4), .val (.int (3 : Int32)), .val (.int (w0_0 p0 p1)), .val (.int (w0_1 p0 p2)), .val (.int (w0_2 p0 p3)), .val (.int (w0_3 p0 p4)), .val (.ref b28), .unset, .unset] [(.int (w0_0 p0 p1)), (.int (0 : Int32)), (.ref b28)])) (fun tZ kZ => ?_) ?_
    · show Steps p.tables e below (T28.setTop (mkF m 74 #[.val (.int p0), .val (.int p1), .val (.int p2), .val (.int p3), .val (.int p4), .val (.int (3 : Int32)), .val (.int (w0_0 p0 p1)), .val (.int (w0_1 p0 p2)), .val (.int (w0_2 p0 p3)), .val (.int (w0_3 p0 p4)), .unset, .unset, .unset] [(.ref b28)])) _
      refine XS.astore X28.here hx rfl (hb hby at_74) rfl rfl (l' := #[.val (.int p0), .val (.int p1), .val (.int p2), .val (.int p3), .val (.int p4), .val (.int (3 : Int32)), .val (.int (w0_0 p0 p1)), .val (.int (w0_1 p0 p2)), .val (.int (w0_2 p0 p3)), .val (.int (w0_3 p0 p4)), .val (.ref b28), .unset, .unset]) rfl ?_
      show Steps p.tables e below (T28.setTop (mkF m 76 #[.val (.int p0), .val (.int p1), .val (.int p2), .val (.int p3), .val (.int p4), .val (.int (3 : Int32)), .val (.int (w0_0 p0 p1)), .val (.int (w0_1 p0 p2)), .val (.int (w0_2 p0 p3)), .val (.int (w0_3 p0 p4)), .val (.ref b28), .unset, .unset] [])) _
      refine XS.iload X28.here hx rfl (hb hby at_76) rfl ?_
      show Steps p.tables e below (T28.setTop (mkF m 78 #[.val (.int p0), .val (.int p1), .val (.int p2), .val (.int p3), .val (.int p4), .val (.int (3 : Int32)), .val (.int (w0_0 p0 p1)), .val (.int (w0_1 p0 p2)), .val (.int (w0_2 p0 p3)), .val (.int (w0_3 p0 p4)), .val (.ref b28), .unset, .unset] [(.int (3 : Int32))])) _
      refine XS.ifNo X28.here hx rfl (hb hby at_78) rfl ((if0 _ _).trans (tlt (by decide)).2.2.2) ?_
      show Steps p.tables e below (T28.setTop (mkF m 81 #[.val (.int p0), .val (.int p1), .val (.int p2), .val (.int p3), .val (.int p4), .val (.int (3 : Int32)), .val (.int (w0_0 p0 p1)), .val (.int (w0_1 p0 p2)), .val (.int (w0_2 p0 p3)), .val (.int (w0_3 p0 p4)), .val (.ref b28), .unset, .unset] [])) _
      refine XS.aload X28.here hx rfl (hb hby at_81) rfl rfl ?_
      show Steps p.tables e below (T28.setTop (mkF m 83 #[.val (.int p0), .val (.int p1), .val (.int p2), .val (.int p3), .val (.int p4), .val (.int (3 : Int32)), .val (.int (w0_0 p0 p1)), .val (.int (w0_1 p0 p2)), .val (.int (w0_2 p0 p3)), .val (.int (w0_3 p0 p4)), .val (.ref b28), .unset, .unset] [(.ref b28)])) _
      refine XS.iconst X28.here hx rfl (hb hby at_83) ?_
      show Steps p.tables e below (T28.setTop (mkF m 84 #[.val (.int p0), .val (.int p1), .val (.int p2), .val (.int p3), .val (.int p4), .val (.int (3 : Int32)), .val (.int (w0_0 p0 p1)), .val (.int (w0_1 p0 p2)), .val (.int (w0_2 p0 p3)), .val (.int (w0_3 p0 p4)), .val (.ref b28), .unset, .unset] [(.int (0 : Int32)), (.ref b28)])) _
      refine XS.iload X28.here hx rfl (hb hby at_84) rfl ?_
      show Steps p.tables e below (T28.setTop (mkF m 86 #[.val (.int p0), .val (.int p1), .val (.int p2), .val (.int p3), .val (.int p4), .val (.int (3 : Int32)), .val (.int (w0_0 p0 p1)), .val (.int (w0_1 p0 p2)), .val (.int (w0_2 p0 p3)), .val (.int (w0_3 p0 p4)), .val (.ref b28), .unset, .unset] [(.int (w0_0 p0 p1)), (.int (0 : Int32)), (.ref b28)])) _
      exact kZ
    obtain ⟨T30, h30, X30, e30, W30, V30, st30⟩ := AV.iastore V28 X28 hx hZ e28 (j := (0 : Int32)) (by decide) (Ls := #[.val (.int p0), .val (.int p1), .val (.int p2), .val (.int p3), .val (.int p4), .val (.int (3 : Int32)), .val (.int (w0_0 p0 p1)), .val (.int (w0_1 p0 p2)), .val (.int (w0_2 p0 p3)), .val (.int (w0_3 p0 p4)), .val (.ref b28), .unset, .unset]) (rest := []) (hb hby at_86) (x := (w0_0 p0 p1))
    have N30 := Fr.snoc X30 N0 g_b28
    have c31_1 := c29_1.wr W30 g_b28
    have c31_0 := ha0.ext c31_1.2
    have c31_3 := B28.wr W30
    have K30 : Keep h0 h30 [] := K28.wr W30 (Or.inr sz_b28)
    have Z30 : n0 ≤ h30.size := Nat.le_trans Z28 (Keep.of_wr W30).1
    refine Go.via st30 ?_
    show Go p e below _ (T30.setTop (mkF m 87 #[.val (.int p0), .val (.int p1), .val (.int p2), .val (.int p3), .val (.int p4), .val (.int (3 : Int32)), .val (.int (w0_0 p0 p1)), .val (.int (w0_1 p0 p2)), .val (.int (w0_2 p0 p3)), .val (.int (w0_3 p0 p4)), .val (.ref b28), .unset, .unset] []))
    refine Go.via (T' := T30.setTop (mkF m 98 #[.val (.int p0), .val (.int p1), .val (.int p2), .val (.int p3), .val (.int p4), .val (.int (3 : Int32)), .val (.int (w0_0 p0 p1)), .val (.int (w0_1 p0 p2)), .val (.int (w0_2 p0 p3)), .val (.int (w0_3 p0 p4)), .val (.ref b28), .unset, .unset] [(.int (w0_1 p0 p2)), (.int (1 : Int32)), (.ref b28)])) (fun tZ kZ => ?_) ?_
    · show Steps p.tables e below (T30.setTop (mkF m 87 #[.val (.int p0), .val (.int p1), .val (.int p2), .val (.int p3), .val (.int p4), .val (.int (3 : Int32)), .val (.int (w0_0 p0 p1)), .val (.int (w0_1 p0 p2)), .val (.int (w0_2 p0 p3)), .val (.int (w0_3 p0 p4)), .val (.ref b28), .unset, .unset] [])) _
      refine XS.iload X30.here hx rfl (hb hby at_87) rfl ?_
      show Steps p.tables e below (T30.setTop (mkF m 89 #[.val (.int p0), .val (.int p1), .val (.int p2), .val (.int p3), .val (.int p4), .val (.int (3 : Int32)), .val (.int (w0_0 p0 p1)), .val (.int (w0_1 p0 p2)), .val (.int (w0_2 p0 p3)), .val (.int (w0_3 p0 p4)), .val (.ref b28), .unset, .unset] [(.int (3 : Int32))])) _
      refine XS.iconst X30.here hx rfl (hb hby at_89) ?_
      show Steps p.tables e below (T30.setTop (mkF m 90 #[.val (.int p0), .val (.int p1), .val (.int p2), .val (.int p3), .val (.int p4), .val (.int (3 : Int32)), .val (.int (w0_0 p0 p1)), .val (.int (w0_1 p0 p2)), .val (.int (w0_2 p0 p3)), .val (.int (w0_3 p0 p4)), .val (.ref b28), .unset, .unset] [(.int (1 : Int32)), (.int (3 : Int32))])) _
      refine XS.icmpNo X30.here hx rfl (hb hby at_90) rfl (tlt (by decide)).2.2.2 ?_
      show Steps p.tables e below (T30.setTop (mkF m 93 #[.val (.int p0), .val (.int p1), .val (.int p2), .val (.int p3), .val (.int p4), .val (.int (3 : Int32)), .val (.int (w0_0 p0 p1)), .val (.int (w0_1 p0 p2)), .val (.int (w0_2 p0 p3)), .val (.int (w0_3 p0 p4)), .val (.ref b28), .unset, .unset] [])) _
      refine XS.aload X30.here hx rfl (hb hby at_93) rfl rfl ?_
      show Steps p.tables e below (T30.setTop (mkF m 95 #[.val (.int p0), .val (.int p1), .val (.int p2), .val (.int p3), .val (.int p4), .val (.int (3 : Int32)), .val (.int (w0_0 p0 p1)), .val (.int (w0_1 p0 p2)), .val (.int (w0_2 p0 p3)), .val (.int (w0_3 p0 p4)), .val (.ref b28), .unset, .unset] [(.ref b28)])) _
      refine XS.iconst X30.here hx rfl (hb hby at_95) ?_
      show Steps p.tables e below (T30.setTop (mkF m 96 #[.val (.int p0), .val (.int p1), .val (.int p2), .val (.int p3), .val (.int p4), .val (.int (3 : Int32)), .val (.int (w0_0 p0 p1)), .val (.int (w0_1 p0 p2)), .val (.int (w0_2 p0 p3)), .val (.int (w0_3 p0 p4)), .val (.ref b28), .unset, .unset] [(.int (1 : Int32)), (.ref b28)])) _
      refine XS.iload X30.here hx rfl (hb hby at_96) rfl ?_
      show Steps p.tables e below (T30.setTop (mkF m 98 #[.val (.int p0), .val (.int p1), .val (.int p2), .val (.int p3), .val (.int p4), .val (.int (3 : Int32)), .val (.int (w0_0 p0 p1)), .val (.int (w0_1 p0 p2)), .val (.int (w0_2 p0 p3)), .val (.int (w0_3 p0 p4)), .val (.ref b28), .unset, .unset] [(.int (w0_1 p0 p2)), (.int (1 : Int32)), (.ref b28)])) _
      exact kZ
    obtain ⟨T32, h32, X32, e32, W32, V32, st32⟩ := AV.iastore V30 X30 hx hZ e30 (j := (1 : Int32)) (by decide) (Ls := #[.val (.int p0), .val (.int p1), .val (.int p2), .val (.int p3), .val (.int p4), .val (.int (3 : Int32)), .val (.int (w0_0 p0 p1)), .val (.int (w0_1 p0 p2)), .val (.int (w0_2 p0 p3)), .val (.int (w0_3 p0 p4)), .val (.ref b28), .unset, .unset]) (rest := []) (hb hby at_98) (x := (w0_1 p0 p2))
    have N32 := Fr.snoc X32 N30 g_b28
    have c33_1 := c31_1.wr W32 g_b28
    have c33_0 := ha0.ext c33_1.2
    have c33_3 := c31_3.wr W32
    have K32 : Keep h0 h32 [] := K30.wr W32 (Or.inr sz_b28)
    have Z32 : n0 ≤ h32.size := Nat.le_trans Z30 (Keep.of_wr W32).1
    refine Go.via st32 ?_
    show Go p e below _ (T32.setTop (mkF m 99 #[.val (.int p0), .val (.int p1), .val (.int p2), .val (.int p3), .val (.int p4), .val (.int (3 : Int32)), .val (.int (w0_0 p0 p1)), .val (.int (w0_1 p0 p2)), .val (.int (w0_2 p0 p3)), .val (.int (w0_3 p0 p4)), .val (.ref b28), .unset, .unset] []))
    refine Go.via (T' := T32.setTop (mkF m 110 #[.val (.int p0), .val (.int p1), .val (.int p2), .val (.int p3), .val (.int p4), .val (.int (3 : Int32)), .val (.int (w0_0 p0 p1)), .val (.int (w0_1 p0 p2)), .val (.int (w0_2 p0 p3)), .val (.int (w0_3 p0 p4)), .val (.ref b28), .unset, .unset] [(.int (w0_2 p0 p3)), (.int (2 : Int32)), (.ref b28)])) (fun tZ kZ => ?_) ?_
    · show Steps p.tables e below (T32.setTop (mkF m 99 #[.val (.int p0), .val (.int p1), .val (.int p2), .val (.int p3), .val (.int p4), .val (.int (3 : Int32)), .val (.int (w0_0 p0 p1)), .val (.int (w0_1 p0 p2)), .val (.int (w0_2 p0 p3)), .val (.int (w0_3 p0 p4)), .val (.ref b28), .unset, .unset] [])) _
      refine XS.iload X32.here hx rfl (hb hby at_99) rfl ?_
      show Steps p.tables e below (T32.setTop (mkF m 101 #[.val (.int p0), .val (.int p1), .val (.int p2), .val (.int p3), .val (.int p4), .val (.int (3 : Int32)), .val (.int (w0_0 p0 p1)), .val (.int (w0_1 p0 p2)), .val (.int (w0_2 p0 p3)), .val (.int (w0_3 p0 p4)), .val (.ref b28), .unset, .unset] [(.int (3 : Int32))])) _
      refine XS.iconst X32.here hx rfl (hb hby at_101) ?_
      show Steps p.tables e below (T32.setTop (mkF m 102 #[.val (.int p0), .val (.int p1), .val (.int p2), .val (.int p3), .val (.int p4), .val (.int (3 : Int32)), .val (.int (w0_0 p0 p1)), .val (.int (w0_1 p0 p2)), .val (.int (w0_2 p0 p3)), .val (.int (w0_3 p0 p4)), .val (.ref b28), .unset, .unset] [(.int (2 : Int32)), (.int (3 : Int32))])) _
      refine XS.icmpNo X32.here hx rfl (hb hby at_102) rfl (tlt (by decide)).2.2.2 ?_
      show Steps p.tables e below (T32.setTop (mkF m 105 #[.val (.int p0), .val (.int p1), .val (.int p2), .val (.int p3), .val (.int p4), .val (.int (3 : Int32)), .val (.int (w0_0 p0 p1)), .val (.int (w0_1 p0 p2)), .val (.int (w0_2 p0 p3)), .val (.int (w0_3 p0 p4)), .val (.ref b28), .unset, .unset] [])) _
      refine XS.aload X32.here hx rfl (hb hby at_105) rfl rfl ?_
      show Steps p.tables e below (T32.setTop (mkF m 107 #[.val (.int p0), .val (.int p1), .val (.int p2), .val (.int p3), .val (.int p4), .val (.int (3 : Int32)), .val (.int (w0_0 p0 p1)), .val (.int (w0_1 p0 p2)), .val (.int (w0_2 p0 p3)), .val (.int (w0_3 p0 p4)), .val (.ref b28), .unset, .unset] [(.ref b28)])) _
      refine XS.iconst X32.here hx rfl (hb hby at_107) ?_
      show Steps p.tables e below (T32.setTop (mkF m 108 #[.val (.int p0), .val (.int p1), .val (.int p2), .val (.int p3), .val (.int p4), .val (.int (3 : Int32)), .val (.int (w0_0 p0 p1)), .val (.int (w0_1 p0 p2)), .val (.int (w0_2 p0 p3)), .val (.int (w0_3 p0 p4)), .val (.ref b28), .unset, .unset] [(.int (2 : Int32)), (.ref b28)])) _
      refine XS.iload X32.here hx rfl (hb hby at_108) rfl ?_
      show Steps p.tables e below (T32.setTop (mkF m 110 #[.val (.int p0), .val (.int p1), .val (.int p2), .val (.int p3), .val (.int p4), .val (.int (3 : Int32)), .val (.int (w0_0 p0 p1)), .val (.int (w0_1 p0 p2)), .val (.int (w0_2 p0 p3)), .val (.int (w0_3 p0 p4)), .val (.ref b28), .unset, .unset] [(.int (w0_2 p0 p3)), (.int (2 : Int32)), (.ref b28)])) _
      exact kZ
    obtain ⟨T34, h34, X34, e34, W34, V34, st34⟩ := AV.iastore V32 X32 hx hZ e32 (j := (2 : Int32)) (by decide) (Ls := #[.val (.int p0), .val (.int p1), .val (.int p2), .val (.int p3), .val (.int p4), .val (.int (3 : Int32)), .val (.int (w0_0 p0 p1)), .val (.int (w0_1 p0 p2)), .val (.int (w0_2 p0 p3)), .val (.int (w0_3 p0 p4)), .val (.ref b28), .unset, .unset]) (rest := []) (hb hby at_110) (x := (w0_2 p0 p3))
    have N34 := Fr.snoc X34 N32 g_b28
    have c35_1 := c33_1.wr W34 g_b28
    have c35_0 := ha0.ext c35_1.2
    have c35_3 := c33_3.wr W34
    have K34 : Keep h0 h34 [] := K32.wr W34 (Or.inr sz_b28)
    have Z34 : n0 ≤ h34.size := Nat.le_trans Z32 (Keep.of_wr W34).1
    refine Go.via st34 ?_
    show Go p e below _ (T34.setTop (mkF m 111 #[.val (.int p0), .val (.int p1), .val (.int p2), .val (.int p3), .val (.int p4), .val (.int (3 : Int32)), .val (.int (w0_0 p0 p1)), .val (.int (w0_1 p0 p2)), .val (.int (w0_2 p0 p3)), .val (.int (w0_3 p0 p4)), .val (.ref b28), .unset, .unset] []))
    refine Go.via (T' := T34.setTop (mkF m 123 #[.val (.int p0), .val (.int p1), .val (.int p2), .val (.int p3), .val (.int p4), .val (.int (3 : Int32)), .val (.int (w0_0 p0 p1)), .val (.int (w0_1 p0 p2)), .val (.int (w0_2 p0 p3)), .val (.int (w0_3 p0 p4)), .val (.ref b28), .unset, .unset] [])) (fun tZ kZ => ?_) ?_
    · show Steps p.tables e below (T34.setTop (mkF m 111 #[.val (.int p0), .val (.int p1), .val (.int p2), .val (.int p3), .val (.int p4), .val (.int (3 : Int32)), .val (.int (w0_0 p0 p1)), .val (.int (w0_1 p0 p2)), .val (.int (w0_2 p0 p3)), .val (.int (w0_3 p0 p4)), .val (.ref b28), .unset, .unset] [])) _
      refine XS.iload X34.here hx rfl (hb hby at_111) rfl ?_
      show Steps p.tables e below (T34.setTop (mkF m 113 #[.val (.int p0), .val (.int p1), .val (.int p2), .val (.int p3), .val (.int p4), .val (.int (3 : Int32)), .val (.int (w0_0 p0 p1)), .val (.int (w0_1 p0 p2)), .val (.int (w0_2 p0 p3)), .val (.int (w0_3 p0 p4)), .val (.ref b28), .unset, .unset] [(.int (3 : Int32))])) _
      refine XS.iconst X34.here hx rfl (hb hby at_113) ?_
      show Steps p.tables e below (T34.setTop (mkF m 114 #[.val (.int p0), .val (.int p1), .val (.int p2), .val (.int p3), .val (.int p4), .val (.int (3 : Int32)), .val (.int (w0_0 p0 p1)), .val (.int (w0_1 p0 p2)), .val (.int (w0_2 p0 p3)), .val (.int (w0_3 p0 p4)), .val (.ref b28), .unset, .unset] [(.int (3 : Int32)), (.int (3 : Int32))])) _
      refine XS.icmpYes X34.here hx rfl (pc0 := 114) (pc' := 123) rfl (hb hby at_114) rfl (flt (by decide)).2.2.2 (by decide) (by decide) ?_
      show Steps p.tables e below (T34.setTop (mkF m 123 #[.val (.int p0), .val (.int p1), .val (.int p2), .val (.int p3), .val (.int p4), .val (.int (3 : Int32)), .val (.int (w0_0 p0 p1)), .val (.int (w0_1 p0 p2)), .val (.int (w0_2 p0 p3)), .val (.int (w0_3 p0 p4)), .val (.ref b28), .unset, .unset] [])) _
      exact kZ
    obtain ⟨T36, h36, X36, e36, E36, A36, D36, -, st36⟩ := newO X34 hx hZ hown (hw _ (List.mem_of_getElem? (i := 1) rfl)) (hw _ (List.mem_of_getElem? (i := 2) rfl)) (hw _ (List.mem_of_getElem? (i := 3) rfl)) e34 (g := (mkF m 123 #[.val (.int p0), .val (.int p1), .val (.int p2), .val (.int p3), .val (.int p4), .val (.int (3 : Int32)), .val (.int (w0_0 p0 p1)), .val (.int (w0_1 p0 p2)), .val (.int (w0_2 p0 p3)), .val (.int (w0_3 p0 p4)), .val (.ref b28), .unset, .unset] [])) rfl (hb hby at_123) (by decide) (by decide)
    obtain ⟨b36, g36⟩ : ∃ z, z = h34.size := ⟨_, rfl⟩
    rw [← g36] at A36 D36 st36
    have g_b36 : n0 ≤ b36 := Nat.le_trans Z34 (Nat.le_of_eq g36.symm)
    have sz_b36 : h0.size ≤ b36 := Nat.le_trans (K34).1 (Nat.le_of_eq g36.symm)
    have ne_b28_b36 : b28 ≠ b36 := Nat.ne_of_lt (Nat.lt_of_lt_of_le c35_3.lt (Nat.le_of_eq g36.symm))
    have c37_1 := c35_1.ext E36
    have c37_0 := ha0.ext c37_1.2
    have c37_3 := c35_3.ext E36
    have c37_4 := V34.ext E36
    have K36 : Keep h0 h36 [] := K34.ext E36
    have Z36 : n0 ≤ h36.size := Nat.le_trans Z34 E36.1
    have F36_transitions : Fld Z h36 b36 "com/example/ltlconv/ltlconv/dra/RabinDraft" "transitions" "Ljava/util/List;" .null := D36 (Or.inr (hw _ (List.mem_of_getElem? (i := 35) rfl))) (ty := (.object "java/util/List")) (by decide)
    have F36_infiniteCounts : Fld Z h36 b36 "com/example/ltlconv/ltlconv/dra/RabinDraft" "infiniteCounts" "[I" .null := D36 (Or.inr (hw _ (List.mem_of_getElem? (i := 46) rfl))) (ty := (.array .int)) (by decide)
    have F36_finiteSets : Fld Z h36 b36 "com/example/ltlconv/ltlconv/dra/RabinDraft" "finiteSets" "[I" .null := D36 (Or.inr (hw _ (List.mem_of_getElem? (i := 48) rfl))) (ty := (.array .int)) (by decide)
    refine Go.via st36 ?_
    show Go p e below _ (T36.setTop (mkF m 126 #[.val (.int p0), .val (.int p1), .val (.int p2), .val (.int p3), .val (.int p4), .val (.int (3 : Int32)), .val (.int (w0_0 p0 p1)), .val (.int (w0_1 p0 p2)), .val (.int (w0_2 p0 p3)), .val (.int (w0_3 p0 p4)), .val (.ref b28), .unset, .unset] [(.ref b36)]))
    refine Go.via (T' := T36.setTop (mkF m 129 #[.val (.int p0), .val (.int p1), .val (.int p2), .val (.int p3), .val (.int p4), .val (.int (3 : Int32)), .val (.int (w0_0 p0 p1)), .val (.int (w0_1 p0 p2)), .val (.int (w0_2 p0 p3)), .val (.int (w0_3 p0 p4)), .val (.ref b28), .unset, .unset] [(.ref b28), (.ref b36), (.ref b36)])) (fun tZ kZ => ?_) ?_
    · show Steps p.tables e below (T36.setTop (mkF m 126 #[.val (.int p0), .val (.int p1), .val (.int p2), .val (.int p3), .val (.int p4), .val (.int (3 : Int32)), .val (.int (w0_0 p0 p1)), .val (.int (w0_1 p0 p2)), .val (.int (w0_2 p0 p3)), .val (.int (w0_3 p0 p4)), .val (.ref b28), .unset, .unset] [(.ref b36)])) _
      refine XS.dup X36.here hx rfl (hb hby at_126) rfl rfl ?_
      show Steps p.tables e below (T36.setTop (mkF m 127 #[.val (.int p0), .val (.int p1), .val (.int p2), .val (.int p3), .val (.int p4), .val (.int (3 : Int32)), .val (.int (w0_0 p0 p1)), .val (.int (w0_1 p0 p2)), .val (.int (w0_2 p0 p3)), .val (.int (w0_3 p0 p4)), .val (.ref b28), .unset, .unset] [(.ref b36), (.ref b36)])) _
      refine XS.aload X36.here hx rfl (hb hby at_127) rfl rfl ?_
      show Steps p.tables e below (T36.setTop (mkF m 129 #[.val (.int p0), .val (.int p1), .val (.int p2), .val (.int p3), .val (.int p4), .val (.int (3 : Int32)), .val (.int (w0_0 p0 p1)), .val (.int (w0_1 p0 p2)), .val (.int (w0_2 p0 p3)), .val (.int (w0_3 p0 p4)), .val (.ref b28), .unset, .unset] [(.ref b28), (.ref b36), (.ref b36)])) _
      exact kZ
    obtain ⟨_, _, ⟨T38, L38, k38, n38⟩, -, X38, ⟨Lc38, hQ38, l38, y38, z38⟩, st38⟩ := X36.specialBack hx (y := (⟨"com/example/ltlconv/ltlconv/dra/RabinDraft", "<init>", "([I)V"⟩ : MethodName)) rfl hown (mvT hZ (hw _ (List.mem_of_getElem? (i := 4) rfl))) (mvT hZ (hw _ (List.mem_of_getElem? (i := 5) rfl))) (mvT hZ (hw _ (List.mem_of_getElem? (i := 6) rfl))) (by decide) (backOf (W := 1) (rm1n3 l Z a0 hw [] b36 b28 (up (up (up (fun _ => (0 : Int32)) (0 : Int32).toNatClampNeg (w0_0 p0 p1)) (1 : Int32).toNatClampNeg (w0_1 p0 p2)) (2 : Int32).toNatClampNeg (w0_2 p0 p3)) aD h36 n0 Z36 A36 F36_transitions F36_infiniteCounts F36_finiteSets g_b36 c37_4 c37_3 c37_0 (Ne.symm ne_b28_b36)) hZ (hw _ (List.mem_of_getElem? (i := 6) rfl)) (hw _ (List.mem_of_getElem? (i := 3) rfl)) (by decide) (by decide)) (g := (mkF m 129 #[.val (.int p0), .val (.int p1), .val (.int p2), .val (.int p3), .val (.int p4), .val (.int (3 : Int32)), .val (.int (w0_0 p0 p1)), .val (.int (w0_1 p0 p2)), .val (.int (w0_2 p0 p3)), .val (.int (w0_3 p0 p4)), .val (.ref b28), .unset, .unset] [(.ref b28), (.ref b36), (.ref b36)])) rfl (by rw [hml]; rfl) (Steps.refl _) (a := b36) (argsL := [(.ref b28)]) (rest := [(.ref b36)]) (lenOf pd_0 rfl) rfl (by show 2 * 0 + _ ≤ _; exact Nat.le_of_eq rfl) (hb hby at_129) (fun _ _ => ⟨rfl, e36, (by decide : 0 + 1 + 1 + 3 ≤ _), (by decide : 0 + 3 + 4 + 9 ≤ _)⟩)
    dsimp only [Pt.U, Pt.locs, Pt.cells, Pt.slots] at X38 l38 y38 z38 st38 hQ38
    subst l38 y38 z38
    obtain ⟨rfl, N38q, b38_0, hz_b38_0, Kq38, f38_0, f38_1, f38_2, f38_3, f38_4, f38_5, f38_6⟩ := hQ38
    have g_b38_0 : n0 ≤ b38_0 := Nat.le_trans Z36 hz_b38_0
    have sz_b38_0 : h0.size ≤ b38_0 := Nat.le_trans (K36).1 hz_b38_0
    have ne_b28_b38_0 : b28 ≠ b38_0 := Nat.ne_of_lt (Nat.lt_of_lt_of_le c37_3.lt hz_b38_0)
    have ne_b36_b38_0 : b36 ≠ b38_0 := Nat.ne_of_lt (Nat.lt_of_lt_of_le A36.lt hz_b38_0)
    have c39_1 := c37_1.keep Kq38 (allS g_b36 all0)
    have K38 : Keep h0 T38.heap [] := K36.trans Kq38 (allS (Or.inr sz_b36) all0)
    have Z38 : n0 ≤ T38.heap.size := Nat.le_trans Z36 Kq38.1
    have N38 := Fr.app N34 N38q
    refine Go.via (fun t k => st38.trans k) ?_
    show Go p e below _ (T38.setTop (mkF m 132 #[.val (.int p0), .val (.int p1), .val (.int p2), .val (.int p3), .val (.int p4), .val (.int (3 : Int32)), .val (.int (w0_0 p0 p1)), .val (.int (w0_1 p0 p2)), .val (.int (w0_2 p0 p3)), .val (.int (w0_3 p0 p4)), .val (.ref b28), .unset, .unset] [(.ref b36)]))
    refine Go.via (T' := T38.setTop (mkF m 191 #[.val (.int p0), .val (.int p1), .val (.int p2), .val (.int p3), .val (.int p4), .val (.int (3 : Int32)), .val (.int (w0_0 p0 p1)), .val (.int (w0_1 p0 p2)), .val (.int (w0_2 p0 p3)), .val (.int (w0_3 p0 p4)), .val (.ref b28), .val (.ref b36), .val (.int (w0_9 p0 p1 p2 p3))] [(.ref b36)])) (fun tZ kZ => ?_) ?_
    · show Steps p.tables e below (T38.setTop (mkF m 132 #[.val (.int p0), .val (.int p1), .val (.int p2), .val (.int p3), .val (.int p4), .val (.int (3 : Int32)), .val (.int (w0_0 p0 p1)), .val (.int (w0_1 p0 p2)), .val (.int (w0_2 p0 p3)), .val (.int (w0_3 p0 p4)), .val (.ref b28), .unset, .unset] [(.ref b36)])) _
      refine XS.astore X38.here hx rfl (hb hby at_132) rfl rfl (l' := #[.val (.int p0), .val (.int p1), .val (.int p2), .val (.int p3), .val (.int p4), .val (.int (3 : Int32)), .val (.int (w0_0 p0 p1)), .val (.int (w0_1 p0 p2)), .val (.int (w0_2 p0 p3)), .val (.int (w0_3 p0 p4)), .val (.ref b28), .val (.ref b36), .unset]) rfl ?_
      show Steps p.tables e below (T38.setTop (mkF m 134 #[.val (.int p0), .val (.int p1), .val (.int p2), .val (.int p3), .val (.int p4), .val (.int (3 : Int32)), .val (.int (w0_0 p0 p1)), .val (.int (w0_1 p0 p2)), .val (.int (w0_2 p0 p3)), .val (.int (w0_3 p0 p4)), .val (.ref b28), .val (.ref b36), .unset] [])) _
      refine XS.iload X38.here hx rfl (hb hby at_134) rfl ?_
      show Steps p.tables e below (T38.setTop (mkF m 136 #[.val (.int p0), .val (.int p1), .val (.int p2), .val (.int p3), .val (.int p4), .val (.int (3 : Int32)), .val (.int (w0_0 p0 p1)), .val (.int (w0_1 p0 p2)), .val (.int (w0_2 p0 p3)), .val (.int (w0_3 p0 p4)), .val (.ref b28), .val (.ref b36), .unset] [(.int (3 : Int32))])) _
      refine XS.iconst X38.here hx rfl (hb hby at_136) ?_
      show Steps p.tables e below (T38.setTop (mkF m 137 #[.val (.int p0), .val (.int p1), .val (.int p2), .val (.int p3), .val (.int p4), .val (.int (3 : Int32)), .val (.int (w0_0 p0 p1)), .val (.int (w0_1 p0 p2)), .val (.int (w0_2 p0 p3)), .val (.int (w0_3 p0 p4)), .val (.ref b28), .val (.ref b36), .unset] [(.int (1 : Int32)), (.int (3 : Int32))])) _
      refine XS.icmpNo X38.here hx rfl (hb hby at_137) rfl (flt (by decide)).1 ?_
      show Steps p.tables e below (T38.setTop (mkF m 140 #[.val (.int p0), .val (.int p1), .val (.int p2), .val (.int p3), .val (.int p4), .val (.int (3 : Int32)), .val (.int (w0_0 p0 p1)), .val (.int (w0_1 p0 p2)), .val (.int (w0_2 p0 p3)), .val (.int (w0_3 p0 p4)), .val (.ref b28), .val (.ref b36), .unset] [])) _
      refine XS.iload X38.here hx rfl (hb hby at_140) rfl ?_
      show Steps p.tables e below (T38.setTop (mkF m 142 #[.val (.int p0), .val (.int p1), .val (.int p2), .val (.int p3), .val (.int p4), .val (.int (3 : Int32)), .val (.int (w0_0 p0 p1)), .val (.int (w0_1 p0 p2)), .val (.int (w0_2 p0 p3)), .val (.int (w0_3 p0 p4)), .val (.ref b28), .val (.ref b36), .unset] [(.int (w0_0 p0 p1))])) _
      refine XS.iconst X38.here hx rfl (hb hby at_142) ?_
      show Steps p.tables e below (T38.setTop (mkF m 143 #[.val (.int p0), .val (.int p1), .val (.int p2), .val (.int p3), .val (.int p4), .val (.int (3 : Int32)), .val (.int (w0_0 p0 p1)), .val (.int (w0_1 p0 p2)), .val (.int (w0_2 p0 p3)), .val (.int (w0_3 p0 p4)), .val (.ref b28), .val (.ref b36), .unset] [(.int (1 : Int32)), (.int (w0_0 p0 p1))])) _
      have sg143 : Steps p.tables e below (T38.setTop (mkF m 187 #[.val (.int p0), .val (.int p1), .val (.int p2), .val (.int p3), .val (.int p4), .val (.int (3 : Int32)), .val (.int (w0_0 p0 p1)), .val (.int (w0_1 p0 p2)), .val (.int (w0_2 p0 p3)), .val (.int (w0_3 p0 p4)), .val (.ref b28), .val (.ref b36), .unset] [(.int (if (w0_0 p0 p1) = (1 : Int32) then (w0_8 p0 p2 p3) else (0 : Int32)))])) tZ → Steps p.tables e below (T38.setTop (mkF m 143 #[.val (.int p0), .val (.int p1), .val (.int p2), .val (.int p3), .val (.int p4), .val (.int (3 : Int32)), .val (.int (w0_0 p0 p1)), .val (.int (w0_1 p0 p2)), .val (.int (w0_2 p0 p3)), .val (.int (w0_3 p0 p4)), .val (.ref b28), .val (.ref b36), .unset] [(.int (1 : Int32)), (.int (w0_0 p0 p1))])) tZ := by
        intro kj
        by_cases hc143 : (w0_0 p0 p1) = (1 : Int32)
        · try simp only [if_pos hc143] at kj
          refine XS.icmpNo X38.here hx rfl (hb hby at_143) rfl (teq hc143).2 ?_
          show Steps p.tables e below (T38.setTop (mkF m 146 #[.val (.int p0), .val (.int p1), .val (.int p2), .val (.int p3), .val (.int p4), .val (.int (3 : Int32)), .val (.int (w0_0 p0 p1)), .val (.int (w0_1 p0 p2)), .val (.int (w0_2 p0 p3)), .val (.int (w0_3 p0 p4)), .val (.ref b28), .val (.ref b36), .unset] [])) _
          refine XS.iload X38.here hx rfl (hb hby at_146) rfl ?_
          show Steps p.tables e below (T38.setTop (mkF m 148 #[.val (.int p0), .val (.int p1), .val (.int p2), .val (.int p3), .val (.int p4), .val (.int (3 : Int32)), .val (.int (w0_0 p0 p1)), .val (.int (w0_1 p0 p2)), .val (.int (w0_2 p0 p3)), .val (.int (w0_3 p0 p4)), .val (.ref b28), .val (.ref b36), .unset] [(.int (3 : Int32))])) _
          refine XS.iconst X38.here hx rfl (hb hby at_148) ?_
          show Steps p.tables e below (T38.setTop (mkF m 149 #[.val (.int p0), .val (.int p1), .val (.int p2), .val (.int p3), .val (.int p4), .val (.int (3 : Int32)), .val (.int (w0_0 p0 p1)), .val (.int (w0_1 p0 p2)), .val (.int (w0_2 p0 p3)), .val (.int (w0_3 p0 p4)), .val (.ref b28), .val (.ref b36), .unset] [(.int (2 : Int32)), (.int (3 : Int32))])) _
          refine XS.icmpNo X38.here hx rfl (hb hby at_149) rfl (flt (by decide)).1 ?_
          show Steps p.tables e below (T38.setTop (mkF m 152 #[.val (.int p0), .val (.int p1), .val (.int p2), .val (.int p3), .val (.int p4), .val (.int (3 : Int32)), .val (.int (w0_0 p0 p1)), .val (.int (w0_1 p0 p2)), .val (.int (w0_2 p0 p3)), .val (.int (w0_3 p0 p4)), .val (.ref b28), .val (.ref b36), .unset] [])) _
          refine XS.iload X38.here hx rfl (hb hby at_152) rfl ?_
          show Steps p.tables e below (T38.setTop (mkF m 154 #[.val (.int p0), .val (.int p1), .val (.int p2), .val (.int p3), .val (.int p4), .val (.int (3 : Int32)), .val (.int (w0_0 p0 p1)), .val (.int (w0_1 p0 p2)), .val (.int (w0_2 p0 p3)), .val (.int (w0_3 p0 p4)), .val (.ref b28), .val (.ref b36), .unset] [(.int (w0_1 p0 p2))])) _
          refine XS.iconst X38.here hx rfl (hb hby at_154) ?_
          show Steps p.tables e below (T38.setTop (mkF m 155 #[.val (.int p0), .val (.int p1), .val (.int p2), .val (.int p3), .val (.int p4), .val (.int (3 : Int32)), .val (.int (w0_0 p0 p1)), .val (.int (w0_1 p0 p2)), .val (.int (w0_2 p0 p3)), .val (.int (w0_3 p0 p4)), .val (.ref b28), .val (.ref b36), .unset] [(.int (1 : Int32)), (.int (w0_1 p0 p2))])) _
          have sg155 : Steps p.tables e below (T38.setTop (mkF m 187 #[.val (.int p0), .val (.int p1), .val (.int p2), .val (.int p3), .val (.int p4), .val (.int (3 : Int32)), .val (.int (w0_0 p0 p1)), .val (.int (w0_1 p0 p2)), .val (.int (w0_2 p0 p3)), .val (.int (w0_3 p0 p4)), .val (.ref b28), .val (.ref b36), .unset] [(.int (if (w0_1 p0 p2) = (1 : Int32) then (w0_7 p0 p3) else (0 : Int32)))])) tZ → Steps p.tables e below (T38.setTop (mkF m 155 #[.val (.int p0), .val (.int p1), .val (.int p2), .val (.int p3), .val (.int p4), .val (.int (3 : Int32)), .val (.int (w0_0 p0 p1)), .val (.int (w0_1 p0 p2)), .val (.int (w0_2 p0 p3)), .val (.int (w0_3 p0 p4)), .val (.ref b28), .val (.ref b36), .unset] [(.int (1 : Int32)), (.int (w0_1 p0 p2))])) tZ := by
            intro kj
            by_cases hc155 : (w0_1 p0 p2) = (1 : Int32)
            · try simp only [if_pos hc155] at kj
              refine XS.icmpNo X38.here hx rfl (hb hby at_155) rfl (teq hc155).2 ?_
              show Steps p.tables e below (T38.setTop (mkF m 158 #[.val (.int p0), .val (.int p1), .val (.int p2), .val (.int p3), .val (.int p4), .val (.int (3 : Int32)), .val (.int (w0_0 p0 p1)), .val (.int (w0_1 p0 p2)), .val (.int (w0_2 p0 p3)), .val (.int (w0_3 p0 p4)), .val (.ref b28), .val (.ref b36), .unset] [])) _
              refine XS.iload X38.here hx rfl (hb hby at_158) rfl ?_
              show Steps p.tables e below (T38.setTop (mkF m 160 #[.val (.int p0), .val (.int p1), .val (.int p2), .val (.int p3), .val (.int p4), .val (.int (3 : Int32)), .val (.int (w0_0 p0 p1)), .val (.int (w0_1 p0 p2)), .val (.int (w0_2 p0 p3)), .val (.int (w0_3 p0 p4)), .val (.ref b28), .val (.ref b36), .unset] [(.int (3 : Int32))])) _
              refine XS.iconst X38.here hx rfl (hb hby at_160) ?_
              show Steps p.tables e below (T38.setTop (mkF m 161 #[.val (.int p0), .val (.int p1), .val (.int p2), .val (.int p3), .val (.int p4), .val (.int (3 : Int32)), .val (.int (w0_0 p0 p1)), .val (.int (w0_1 p0 p2)), .val (.int (w0_2 p0 p3)), .val (.int (w0_3 p0 p4)), .val (.ref b28), .val (.ref b36), .unset] [(.int (3 : Int32)), (.int (3 : Int32))])) _
              refine XS.icmpNo X38.here hx rfl (hb hby at_161) rfl (flt (by decide)).1 ?_
              show Steps p.tables e below (T38.setTop (mkF m 164 #[.val (.int p0), .val (.int p1), .val (.int p2), .val (.int p3), .val (.int p4), .val (.int (3 : Int32)), .val (.int (w0_0 p0 p1)), .val (.int (w0_1 p0 p2)), .val (.int (w0_2 p0 p3)), .val (.int (w0_3 p0 p4)), .val (.ref b28), .val (.ref b36), .unset] [])) _
              refine XS.iload X38.here hx rfl (hb hby at_164) rfl ?_
              show Steps p.tables e below (T38.setTop (mkF m 166 #[.val (.int p0), .val (.int p1), .val (.int p2), .val (.int p3), .val (.int p4), .val (.int (3 : Int32)), .val (.int (w0_0 p0 p1)), .val (.int (w0_1 p0 p2)), .val (.int (w0_2 p0 p3)), .val (.int (w0_3 p0 p4)), .val (.ref b28), .val (.ref b36), .unset] [(.int (w0_2 p0 p3))])) _
              refine XS.iconst X38.here hx rfl (hb hby at_166) ?_
              show Steps p.tables e below (T38.setTop (mkF m 167 #[.val (.int p0), .val (.int p1), .val (.int p2), .val (.int p3), .val (.int p4), .val (.int (3 : Int32)), .val (.int (w0_0 p0 p1)), .val (.int (w0_1 p0 p2)), .val (.int (w0_2 p0 p3)), .val (.int (w0_3 p0 p4)), .val (.ref b28), .val (.ref b36), .unset] [(.int (1 : Int32)), (.int (w0_2 p0 p3))])) _
              have sg167 : Steps p.tables e below (T38.setTop (mkF m 187 #[.val (.int p0), .val (.int p1), .val (.int p2), .val (.int p3), .val (.int p4), .val (.int (3 : Int32)), .val (.int (w0_0 p0 p1)), .val (.int (w0_1 p0 p2)), .val (.int (w0_2 p0 p3)), .val (.int (w0_3 p0 p4)), .val (.ref b28), .val (.ref b36), .unset] [(.int (if (w0_2 p0 p3) = (1 : Int32) then (1 : Int32) else (0 : Int32)))])) tZ → Steps p.tables e below (T38.setTop (mkF m 167 #[.val (.int p0), .val (.int p1), .val (.int p2), .val (.int p3), .val (.int p4), .val (.int (3 : Int32)), .val (.int (w0_0 p0 p1)), .val (.int (w0_1 p0 p2)), .val (.int (w0_2 p0 p3)), .val (.int (w0_3 p0 p4)), .val (.ref b28), .val (.ref b36), .unset] [(.int (1 : Int32)), (.int (w0_2 p0 p3))])) tZ := by
                intro kj
                by_cases hc167 : (w0_2 p0 p3) = (1 : Int32)
                · try simp only [if_pos hc167] at kj
                  refine XS.icmpNo X38.here hx rfl (hb hby at_167) rfl (teq hc167).2 ?_
                  show Steps p.tables e below (T38.setTop (mkF m 170 #[.val (.int p0), .val (.int p1), .val (.int p2), .val (.int p3), .val (.int p4), .val (.int (3 : Int32)), .val (.int (w0_0 p0 p1)), .val (.int (w0_1 p0 p2)), .val (.int (w0_2 p0 p3)), .val (.int (w0_3 p0 p4)), .val (.ref b28), .val (.ref b36), .unset] [])) _
                  refine XS.iload X38.here hx rfl (hb hby at_170) rfl ?_
                  show Steps p.tables e below (T38.setTop (mkF m 172 #[.val (.int p0), .val (.int p1), .val (.int p2), .val (.int p3), .val (.int p4), .val (.int (3 : Int32)), .val (.int (w0_0 p0 p1)), .val (.int (w0_1 p0 p2)), .val (.int (w0_2 p0 p3)), .val (.int (w0_3 p0 p4)), .val (.ref b28), .val (.ref b36), .unset] [(.int (3 : Int32))])) _
                  refine XS.iconst X38.here hx rfl (hb hby at_172) ?_
                  show Steps p.tables e below (T38.setTop (mkF m 173 #[.val (.int p0), .val (.int p1), .val (.int p2), .val (.int p3), .val (.int p4), .val (.int (3 : Int32)), .val (.int (w0_0 p0 p1)), .val (.int (w0_1 p0 p2)), .val (.int (w0_2 p0 p3)), .val (.int (w0_3 p0 p4)), .val (.ref b28), .val (.ref b36), .unset] [(.int (4 : Int32)), (.int (3 : Int32))])) _
                  refine XS.icmpYes X38.here hx rfl (pc0 := 173) (pc' := 182) rfl (hb hby at_173) rfl (tlt (by decide)).1 (by decide) (by decide) ?_
                  show Steps p.tables e below (T38.setTop (mkF m 182 #[.val (.int p0), .val (.int p1), .val (.int p2), .val (.int p3), .val (.int p4), .val (.int (3 : Int32)), .val (.int (w0_0 p0 p1)), .val (.int (w0_1 p0 p2)), .val (.int (w0_2 p0 p3)), .val (.int (w0_3 p0 p4)), .val (.ref b28), .val (.ref b36), .unset] [])) _
                  refine XS.iconst X38.here hx rfl (hb hby at_182) ?_
                  show Steps p.tables e below (T38.setTop (mkF m 183 #[.val (.int p0), .val (.int p1), .val (.int p2), .val (.int p3), .val (.int p4), .val (.int (3 : Int32)), .val (.int (w0_0 p0 p1)), .val (.int (w0_1 p0 p2)), .val (.int (w0_2 p0 p3)), .val (.int (w0_3 p0 p4)), .val (.ref b28), .val (.ref b36), .unset] [(.int (1 : Int32))])) _
                  refine XS.goto X38.here hx rfl (pc0 := 183) (pc' := 187) rfl (hb hby at_183) (by decide) (by decide) ?_
                  show Steps p.tables e below (T38.setTop (mkF m 187 #[.val (.int p0), .val (.int p1), .val (.int p2), .val (.int p3), .val (.int p4), .val (.int (3 : Int32)), .val (.int (w0_0 p0 p1)), .val (.int (w0_1 p0 p2)), .val (.int (w0_2 p0 p3)), .val (.int (w0_3 p0 p4)), .val (.ref b28), .val (.ref b36), .unset] [(.int (1 : Int32))])) _
                  exact kj
                · try simp only [if_neg hc167] at kj
                  refine XS.icmpYes X38.here hx rfl (pc0 := 167) (pc' := 186) rfl (hb hby at_167) rfl (feq hc167).2 (by decide) (by decide) ?_
                  show Steps p.tables e below (T38.setTop (mkF m 186 #[.val (.int p0), .val (.int p1), .val (.int p2), .val (.int p3), .val (.int p4), .val (.int (3 : Int32)), .val (.int (w0_0 p0 p1)), .val (.int (w0_1 p0 p2)), .val (.int (w0_2 p0 p3)), .val (.int (w0_3 p0 p4)), .val (.ref b28), .val (.ref b36), .unset] [])) _
                  refine XS.iconst X38.here hx rfl (hb hby at_186) ?_
                  show Steps p.tables e below (T38.setTop (mkF m 187 #[.val (.int p0), .val (.int p1), .val (.int p2), .val (.int p3), .val (.int p4), .val (.int (3 : Int32)), .val (.int (w0_0 p0 p1)), .val (.int (w0_1 p0 p2)), .val (.int (w0_2 p0 p3)), .val (.int (w0_3 p0 p4)), .val (.ref b28), .val (.ref b36), .unset] [(.int (0 : Int32))])) _
                  exact kj
              refine sg167 ?_
              show Steps p.tables e below (T38.setTop (mkF m 187 #[.val (.int p0), .val (.int p1), .val (.int p2), .val (.int p3), .val (.int p4), .val (.int (3 : Int32)), .val (.int (w0_0 p0 p1)), .val (.int (w0_1 p0 p2)), .val (.int (w0_2 p0 p3)), .val (.int (w0_3 p0 p4)), .val (.ref b28), .val (.ref b36), .unset] [(.int (w0_7 p0 p3))])) _
              exact kj
            · try simp only [if_neg hc155] at kj
              refine XS.icmpYes X38.here hx rfl (pc0 := 155) (pc' := 186) rfl (hb hby at_155) rfl (feq hc155).2 (by decide) (by decide) ?_
              show Steps p.tables e below (T38.setTop (mkF m 186 #[.val (.int p0), .val (.int p1), .val (.int p2), .val (.int p3), .val (.int p4), .val (.int (3 : Int32)), .val (.int (w0_0 p0 p1)), .val (.int (w0_1 p0 p2)), .val (.int (w0_2 p0 p3)), .val (.int (w0_3 p0 p4)), .val (.ref b28), .val (.ref b36), .unset] [])) _
              refine XS.iconst X38.here hx rfl (hb hby at_186) ?_
              show Steps p.tables e below (T38.setTop (mkF m 187 #[.val (.int p0), .val (.int p1), .val (.int p2), .val (.int p3), .val (.int p4), .val (.int (3 : Int32)), .val (.int (w0_0 p0 p1)), .val (.int (w0_1 p0 p2)), .val (.int (w0_2 p0 p3)), .val (.int (w0_3 p0 p4)), .val (.ref b28), .val (.ref b36), .unset] [(.int (0 : Int32))])) _
              exact kj
          refine sg155 ?_
          show Steps p.tables e below (T38.setTop (mkF m 187 #[.val (.int p0), .val (.int p1), .val (.int p2), .val (.int p3), .val (.int p4), .val (.int (3 : Int32)), .val (.int (w0_0 p0 p1)), .val (.int (w0_1 p0 p2)), .val (.int (w0_2 p0 p3)), .val (.int (w0_3 p0 p4)), .val (.ref b28), .val (.ref b36), .unset] [(.int (w0_8 p0 p2 p3))])) _
          exact kj
        · try simp only [if_neg hc143] at kj
          refine XS.icmpYes X38.here hx rfl (pc0 := 143) (pc' := 186) rfl (hb hby at_143) rfl (feq hc143).2 (by decide) (by decide) ?_
          show Steps p.tables e below (T38.setTop (mkF m 186 #[.val (.int p0), .val (.int p1), .val (.int p2), .val (.int p3), .val (.int p4), .val (.int (3 : Int32)), .val (.int (w0_0 p0 p1)), .val (.int (w0_1 p0 p2)), .val (.int (w0_2 p0 p3)), .val (.int (w0_3 p0 p4)), .val (.ref b28), .val (.ref b36), .unset] [])) _
          refine XS.iconst X38.here hx rfl (hb hby at_186) ?_
          show Steps p.tables e below (T38.setTop (mkF m 187 #[.val (.int p0), .val (.int p1), .val (.int p2), .val (.int p3), .val (.int p4), .val (.int (3 : Int32)), .val (.int (w0_0 p0 p1)), .val (.int (w0_1 p0 p2)), .val (.int (w0_2 p0 p3)), .val (.int (w0_3 p0 p4)), .val (.ref b28), .val (.ref b36), .unset] [(.int (0 : Int32))])) _
          exact kj
      refine sg143 ?_
      show Steps p.tables e below (T38.setTop (mkF m 187 #[.val (.int p0), .val (.int p1), .val (.int p2), .val (.int p3), .val (.int p4), .val (.int (3 : Int32)), .val (.int (w0_0 p0 p1)), .val (.int (w0_1 p0 p2)), .val (.int (w0_2 p0 p3)), .val (.int (w0_3 p0 p4)), .val (.ref b28), .val (.ref b36), .unset] [(.int (w0_9 p0 p1 p2 p3))])) _
      refine XS.istore X38.here hx rfl (hb hby at_187) rfl (l' := #[.val (.int p0), .val (.int p1), .val (.int p2), .val (.int p3), .val (.int p4), .val (.int (3 : Int32)), .val (.int (w0_0 p0 p1)), .val (.int (w0_1 p0 p2)), .val (.int (w0_2 p0 p3)), .val (.int (w0_3 p0 p4)), .val (.ref b28), .val (.ref b36), .val (.int (w0_9 p0 p1 p2 p3))]) rfl ?_
      show Steps p.tables e below (T38.setTop (mkF m 189 #[.val (.int p0), .val (.int p1), .val (.int p2), .val (.int p3), .val (.int p4), .val (.int (3 : Int32)), .val (.int (w0_0 p0 p1)), .val (.int (w0_1 p0 p2)), .val (.int (w0_2 p0 p3)), .val (.int (w0_3 p0 p4)), .val (.ref b28), .val (.ref b36), .val (.int (w0_9 p0 p1 p2 p3))] [])) _
      refine XS.aload X38.here hx rfl (hb hby at_189) rfl rfl ?_
      show Steps p.tables e below (T38.setTop (mkF m 191 #[.val (.int p0), .val (.int p1), .val (.int p2), .val (.int p3), .val (.int p4), .val (.int (3 : Int32)), .val (.int (w0_0 p0 p1)), .val (.int (w0_1 p0 p2)), .val (.int (w0_2 p0 p3)), .val (.int (w0_3 p0 p4)), .val (.ref b28), .val (.ref b36), .val (.int (w0_9 p0 p1 p2 p3))] [(.ref b36)])) _
      exact kZ
    obtain ⟨cq40, kq40, q40a, q40b, q40c⟩ := isOf hZ rfl f38_0
    obtain ⟨_, _, ⟨T40, L40, k40, n40⟩, -, X40, ⟨Lc40, hQ40, l40, y40, z40⟩, st40⟩ := X38.virtualBack hx (y := (⟨"com/example/ltlconv/ltlconv/dra/RabinDraft", "isRabin", "()Z"⟩ : MethodName)) (z := (⟨"com/example/ltlconv/ltlconv/dra/RabinDraft", "isRabin", "()Z"⟩ : MethodName)) hown (mvT hZ (hw _ (List.mem_of_getElem? (i := 49) rfl))) (mvT hZ (hw _ (List.mem_of_getElem? (i := 50) rfl))) (notFace_of_selects (args := #[]) (mvT hZ (hw _ (List.mem_of_getElem? (i := 52) rfl)))) (mvT hZ (hw _ (List.mem_of_getElem? (i := 52) rfl))) (mvT hZ (hw _ (List.mem_of_getElem? (i := 51) rfl))) (by decide) (backOf (W := 0) (rm6n3 l Z a0 hw [] b36 b38_0 (up (up (up (fun _ => (0 : Int32)) (0 : Int32).toNatClampNeg (w0_0 p0 p1)) (1 : Int32).toNatClampNeg (w0_1 p0 p2)) (2 : Int32).toNatClampNeg (w0_2 p0 p3)) T38.heap n0 Z38 f38_1 f38_5) hZ (hw _ (List.mem_of_getElem? (i := 53) rfl)) (hw _ (List.mem_of_getElem? (i := 3) rfl)) (by decide) (by decide)) q40a q40c (g := (mkF m 191 #[.val (.int p0), .val (.int p1), .val (.int p2), .val (.int p3), .val (.int p4), .val (.int (3 : Int32)), .val (.int (w0_0 p0 p1)), .val (.int (w0_1 p0 p2)), .val (.int (w0_2 p0 p3)), .val (.int (w0_3 p0 p4)), .val (.ref b28), .val (.ref b36), .val (.int (w0_9 p0 p1 p2 p3))] [(.ref b36)])) rfl (by rw [hml]; rfl) (Steps.refl _) (argsL := []) (rest := []) (lenOf pd_3 rfl) rfl (by show 2 * 0 + _ ≤ _; exact Nat.le_of_eq rfl) (hb hby at_191) (fun _ _ => ⟨rfl, rfl, (by decide : 0 + 1 + 1 + 3 + 0 ≤ _), (by decide : 0 + 3 + 4 + 9 + 0 ≤ _)⟩)
    dsimp only [Pt.U, Pt.locs, Pt.cells, Pt.slots] at X40 l40 y40 z40 st40 hQ40
    subst l40 y40 z40
    obtain ⟨rfl, N40q, e40⟩ := hQ40
    have N40 := Fr.app N38 N40q
    refine Go.via (fun t k => st40.trans k) ?_
    show Go p e below _ (T40.setTop (mkF m 194 #[.val (.int p0), .val (.int p1), .val (.int p2), .val (.int p3), .val (.int p4), .val (.int (3 : Int32)), .val (.int (w0_0 p0 p1)), .val (.int (w0_1 p0 p2)), .val (.int (w0_2 p0 p3)), .val (.int (w0_3 p0 p4)), .val (.ref b28), .val (.ref b36), .val (.int (w0_9 p0 p1 p2 p3))] [(.int (f6n3 b36 b38_0 (up (up (up (fun _ => (0 : Int32)) (0 : Int32).toNatClampNeg (w0_0 p0 p1)) (1 : Int32).toNatClampNeg (w0_1 p0 p2)) (2 : Int32).toNatClampNeg (w0_2 p0 p3))))]))
    refine Go.via (T' := T40.setTop (mkF m 204 #[.val (.int p0), .val (.int p1), .val (.int p2), .val (.int p3), .val (.int p4), .val (.int (3 : Int32)), .val (.int (w0_0 p0 p1)), .val (.int (w0_1 p0 p2)), .val (.int (w0_2 p0 p3)), .val (.int (w0_3 p0 p4)), .val (.ref b28), .val (.ref b36), .val (.int (w0_9 p0 p1 p2 p3))] [(.int (1 : Int32))])) (fun tZ kZ => ?_) ?_
    · show Steps p.tables e below (T40.setTop (mkF m 194 #[.val (.int p0), .val (.int p1), .val (.int p2), .val (.int p3), .val (.int p4), .val (.int (3 : Int32)), .val (.int (w0_0 p0 p1)), .val (.int (w0_1 p0 p2)), .val (.int (w0_2 p0 p3)), .val (.int (w0_3 p0 p4)), .val (.ref b28), .val (.ref b36), .val (.int (w0_9 p0 p1 p2 p3))] [(.int (f6n3 b36 b38_0 (up (up (up (fun _ => (0 : Int32)) (0 : Int32).toNatClampNeg (w0_0 p0 p1)) (1 : Int32).toNatClampNeg (w0_1 p0 p2)) (2 : Int32).toNatClampNeg (w0_2 p0 p3))))])) _
      refine XS.iload X40.here hx rfl (hb hby at_194) rfl ?_
      show Steps p.tables e below (T40.setTop (mkF m 196 #[.val (.int p0), .val (.int p1), .val (.int p2), .val (.int p3), .val (.int p4), .val (.int (3 : Int32)), .val (.int (w0_0 p0 p1)), .val (.int (w0_1 p0 p2)), .val (.int (w0_2 p0 p3)), .val (.int (w0_3 p0 p4)), .val (.ref b28), .val (.ref b36), .val (.int (w0_9 p0 p1 p2 p3))] [(.int (w0_9 p0 p1 p2 p3)), (.int (f6n3 b36 b38_0 (up (up (up (fun _ => (0 : Int32)) (0 : Int32).toNatClampNeg (w0_0 p0 p1)) (1 : Int32).toNatClampNeg (w0_1 p0 p2)) (2 : Int32).toNatClampNeg (w0_2 p0 p3))))])) _
      refine XS.icmpNo X40.here hx rfl (hb hby at_196) rfl (teq (by first | (simp [f6n3, up, nar, Int32.toNatClampNeg]; done) | (simp [f6n3, up, nar, Int32.toNatClampNeg]; rfl))).2 ?_
      show Steps p.tables e below (T40.setTop (mkF m 199 #[.val (.int p0), .val (.int p1), .val (.int p2), .val (.int p3), .val (.int p4), .val (.int (3 : Int32)), .val (.int (w0_0 p0 p1)), .val (.int (w0_1 p0 p2)), .val (.int (w0_2 p0 p3)), .val (.int (w0_3 p0 p4)), .val (.ref b28), .val (.ref b36), .val (.int (w0_9 p0 p1 p2 p3))] [])) _
      refine XS.iconst X40.here hx rfl (hb hby at_199) ?_
      show Steps p.tables e below (T40.setTop (mkF m 200 #[.val (.int p0), .val (.int p1), .val (.int p2), .val (.int p3), .val (.int p4), .val (.int (3 : Int32)), .val (.int (w0_0 p0 p1)), .val (.int (w0_1 p0 p2)), .val (.int (w0_2 p0 p3)), .val (.int (w0_3 p0 p4)), .val (.ref b28), .val (.ref b36), .val (.int (w0_9 p0 p1 p2 p3))] [(.int (1 : Int32))])) _
      refine XS.goto X40.here hx rfl (pc0 := 200) (pc' := 204) rfl (hb hby at_200) (by decide) (by decide) ?_
      show Steps p.tables e below (T40.setTop (mkF m 204 #[.val (.int p0), .val (.int p1), .val (.int p2), .val (.int p3), .val (.int p4), .val (.int (3 : Int32)), .val (.int (w0_0 p0 p1)), .val (.int (w0_1 p0 p2)), .val (.int (w0_2 p0 p3)), .val (.int (w0_3 p0 p4)), .val (.ref b28), .val (.ref b36), .val (.int (w0_9 p0 p1 p2 p3))] [(.int (1 : Int32))])) _
      exact kZ
    refine Go.retN X40 hx Bd.notSynchronized (t := .boolean) Bd.returns (by simp) (hb hby at_204) (by decide) (by decide) ?_
    exact ⟨rfl, N40⟩
  · rw [hi]
    show Go p e below _ (s₁.setTop (mkF m 8 #[.val (.int p0), .val (.int p1), .val (.int p2), .val (.int p3), .val (.int p4), .val (.int (4 : Int32)), .unset, .unset, .unset, .unset, .unset, .unset, .unset] []))
    refine Go.via (T' := s₁.setTop (mkF m 72 #[.val (.int p0), .val (.int p1), .val (.int p2), .val (.int p3), .val (.int p4), .val (.int (4 : Int32)), .val (.int (w0_0 p0 p1)), .val (.int (w0_1 p0 p2)), .val (.int (w0_2 p0 p3)), .val (.int (w0_3 p0 p4)), .unset, .unset, .unset] [(.int (4 : Int32))])) (fun tZ kZ => ?_) ?_
    · show Steps p.tables e below (s₁.setTop (mkF m 8 #[.val (.int p0), .val (.int p1), .val (.int p2), .val (.int p3), .val (.int p4), .val (.int (4 : Int32)), .unset, .unset, .unset, .unset, .unset, .unset, .unset] [])) _
      refine XS.iloadN X0.here hx rfl (hb hby at_8) rfl ?_
      show Steps p.tables e below (s₁.setTop (mkF m 9 #[.val (.int p0), .val (.int p1), .val (.int p2), .val (.int p3), .val (.int p4), .val (.int (4 : Int32)), .unset, .unset, .unset, .unset, .unset, .unset, .unset] [(.int p0)])) _
      refine XS.iconst X0.here hx rfl (hb hby at_9) ?_
      show Steps p.tables e below (s₁.setTop (mkF m 10 #[.val (.int p0), .val (.int p1), .val (.int p2), .val (.int p3), .val (.int p4), .val (.int (4 : Int32)), .unset, .unset, .unset, .unset, .unset, .unset, .unset] [(.int (3 : Int32)), (.int p0)])) _
      refine XS.iushr X0.here hx rfl (hb hby at_10) rfl ?_
      show Steps p.tables e below (s₁.setTop (mkF m 11 #[.val (.int p0), .val (.int p1), .val (.int p2), .val (.int p3), .val (.int p4), .val (.int (4 : Int32)), .unset, .unset, .unset, .unset, .unset, .unset, .unset] [(.int ((p0.toUInt32 >>> ((3 : Int32) &&& 31).toUInt32).toInt32))])) _
      refine XS.iconst X0.here hx rfl (hb hby at_11) ?_
      show Steps p.tables e below (s₁.setTop (mkF m 12 #[.val (.int p0), .val (.int p1), .val (.int p2), .val (.int p3), .val (.int p4), .val (.int (4 : Int32)), .unset, .unset, .unset, .unset, .unset, .unset, .unset] [(.int (1 : Int32)), (.int ((p0.toUInt32 >>> ((3 : Int32) &&& 31).toUInt32).toInt32))])) _
      refine XS.iand X0.here hx rfl (hb hby at_12) rfl ?_
      show Steps p.tables e below (s₁.setTop (mkF m 13 #[.val (.int p0), .val (.int p1), .val (.int p2), .val (.int p3), .val (.int p4), .val (.int (4 : Int32)), .unset, .unset, .unset, .unset, .unset, .unset, .unset] [(.int (((p0.toUInt32 >>> ((3 : Int32) &&& 31).toUInt32).toInt32) &&& (1 : Int32)))])) _
      have sg13 : Steps p.tables e below (s₁.setTop (mkF m 21 #[.val (.int p0), .val (.int p1), .val (.int p2), .val (.int p3), .val (.int p4), .val (.int (4 : Int32)), .unset, .unset, .unset, .unset, .unset, .unset, .unset] [(.int (if (((p0.toUInt32 >>> ((3 : Int32) &&& 31).toUInt32).toInt32) &&& (1 : Int32)) = (0 : Int32) then p1 else (1 : Int32)))])) tZ → Steps p.tables e below (s₁.setTop (mkF m 13 #[.val (.int p0), .val (.int p1), .val (.int p2), .val (.int p3), .val (.int p4), .val (.int (4 : Int32)), .unset, .unset, .unset, .unset, .unset, .unset, .unset] [(.int (((p0.toUInt32 >>> ((3 : Int32) &&& 31).toUInt32).toInt32) &&& (1 : Int32)))])) tZ := by
        intro kj
        by_cases hc13 : (((p0.toUInt32 >>> ((3 : Int32) &&& 31).toUInt32).toInt32) &&& (1 : Int32)) = (0 : Int32)
        · try simp only [if_pos hc13] at kj
          refine XS.ifYes X0.here hx rfl (pc0 := 13) (pc' := 20) rfl (hb hby at_13) rfl ((if0 _ _).trans (teq hc13).1) (by decide) (by decide) ?_
          show Steps p.tables e below (s₁.setTop (mkF m 20 #[.val (.int p0), .val (.int p1), .val (.int p2), .val (.int p3), .val (.int p4), .val (.int (4 : Int32)), .unset, .unset, .unset, .unset, .unset, .unset, .unset] [])) _
          refine XS.iloadN X0.here hx rfl (hb hby at_20) rfl ?_
          show Steps p.tables e below (s₁.setTop (mkF m 21 #[.val (.int p0), .val (.int p1), .val (.int p2), .val (.int p3), .val (.int p4), .val (.int (4 : Int32)), .unset, .unset, .unset, .unset, .unset, .unset, .unset] [(.int p1)])) _
          exact kj
        · try simp only [if_neg hc13] at kj
          refine XS.ifNo X0.here hx rfl (hb hby at_13) rfl ((if0 _ _).trans (feq hc13).1) ?_
          show Steps p.tables e below (s₁.setTop (mkF m 16 #[.val (.int p0), .val (.int p1), .val (.int p2), .val (.int p3), .val (.int p4), .val (.int (4 : Int32)), .unset, .unset, .unset, .unset, .unset, .unset, .unset] [])) _
          refine XS.iconst X0.here hx rfl (hb hby at_16) ?_
          show Steps p.tables e below (s₁.setTop (mkF m 17 #[.val (.int p0), .val (.int p1), .val (.int p2), .val (.int p3), .val (.int p4), .val (.int (4 : Int32)), .unset, .unset, .unset, .unset, .unset, .unset, .unset] [(.int (1 : Int32))])) _
          refine XS.goto X0.here hx rfl (pc0 := 17) (pc' := 21) rfl (hb hby at_17) (by decide) (by decide) ?_
          show Steps p.tables e below (s₁.setTop (mkF m 21 #[.val (.int p0), .val (.int p1), .val (.int p2), .val (.int p3), .val (.int p4), .val (.int (4 : Int32)), .unset, .unset, .unset, .unset, .unset, .unset, .unset] [(.int (1 : Int32))])) _
          exact kj
      refine sg13 ?_
      show Steps p.tables e below (s₁.setTop (mkF m 21 #[.val (.int p0), .val (.int p1), .val (.int p2), .val (.int p3), .val (.int p4), .val (.int (4 : Int32)), .unset, .unset, .unset, .unset, .unset, .unset, .unset] [(.int (w0_0 p0 p1))])) _
      refine XS.istore X0.here hx rfl (hb hby at_21) rfl (l' := #[.val (.int p0), .val (.int p1), .val (.int p2), .val (.int p3), .val (.int p4), .val (.int (4 : Int32)), .val (.int (w0_0 p0 p1)), .unset, .unset, .unset, .unset, .unset, .unset]) rfl ?_
      show Steps p.tables e below (s₁.setTop (mkF m 23 #[.val (.int p0), .val (.int p1), .val (.int p2), .val (.int p3), .val (.int p4), .val (.int (4 : Int32)), .val (.int (w0_0 p0 p1)), .unset, .unset, .unset, .unset, .unset, .unset] [])) _
      refine XS.iloadN X0.here hx rfl (hb hby at_23) rfl ?_
      show Steps p.tables e below (s₁.setTop (mkF m 24 #[.val (.int p0), .val (.int p1), .val (.int p2), .val (.int p3), .val (.int p4), .val (.int (4 : Int32)), .val (.int (w0_0 p0 p1)), .unset, .unset, .unset, .unset, .unset, .unset] [(.int p0)])) _
      refine XS.iconst X0.here hx rfl (hb hby at_24) ?_
      show Steps p.tables e below (s₁.setTop (mkF m 25 #[.val (.int p0), .val (.int p1), .val (.int p2), .val (.int p3), .val (.int p4), .val (.int (4 : Int32)), .val (.int (w0_0 p0 p1)), .unset, .unset, .unset, .unset, .unset, .unset] [(.int (4 : Int32)), (.int p0)])) _
      refine XS.iushr X0.here hx rfl (hb hby at_25) rfl ?_
      show Steps p.tables e below (s₁.setTop (mkF m 26 #[.val (.int p0), .val (.int p1), .val (.int p2), .val (.int p3), .val (.int p4), .val (.int (4 : Int32)), .val (.int (w0_0 p0 p1)), .unset, .unset, .unset, .unset, .unset, .unset] [(.int ((p0.toUInt32 >>> ((4 : Int32) &&& 31).toUInt32).toInt32))])) _
      refine XS.iconst X0.here hx rfl (hb hby at_26) ?_
      show Steps p.tables e below (s₁.setTop (mkF m 27 #[.val (.int p0), .val (.int p1), .val (.int p2), .val (.int p3), .val (.int p4), .val (.int (4 : Int32)), .val (.int (w0_0 p0 p1)), .unset, .unset, .unset, .unset, .unset, .unset] [(.int (1 : Int32)), (.int ((p0.toUInt32 >>> ((4 : Int32) &&& 31).toUInt32).toInt32))])) _
      refine XS.iand X0.here hx rfl (hb hby at_27) rfl ?_
      show Steps p.tables e below (s₁.setTop (mkF m 28 #[.val (.int p0), .val (.int p1), .val (.int p2), .val (.int p3), .val (.int p4), .val (.int (4 : Int32)), .val (.int (w0_0 p0 p1)), .unset, .unset, .unset, .unset, .unset, .unset] [(.int (((p0.toUInt32 >>> ((4 : Int32) &&& 31).toUInt32).toInt32) &&& (1 : Int32)))])) _
      have sg28 : Steps p.tables e below (s₁.setTop (mkF m 36 #[.val (.int p0), .val (.int p1), .val (.int p2), .val (.int p3), .val (.int p4), .val (.int (4 : Int32)), .val (.int (w0_0 p0 p1)), .unset, .unset, .unset, .unset, .unset, .unset] [(.int (if (((p0.toUInt32 >>> ((4 : Int32) &&& 31).toUInt32).toInt32) &&& (1 : Int32)) = (0 : Int32) then p2 else (1 : Int32)))])) tZ → Steps p.tables e below (s₁.setTop (mkF m 28 #[.val (.int p0), .val (.int p1), .val (.int p2), .val (.int p3), .val (.int p4), .val (.int (4 : Int32)), .val (.int (w0_0 p0 p1)), .unset, .unset, .unset, .unset, .unset, .unset] [(.int (((p0.toUInt32 >>> ((4 : Int32) &&& 31).toUInt32).toInt32) &&& (1 : Int32)))])) tZ := by
        intro kj
        by_cases hc28 : (((p0.toUInt32 >>> ((4 : Int32) &&& 31).toUInt32).toInt32) &&& (1 : Int32)) = (0 : Int32)
        · try simp only [if_pos hc28] at kj
          refine XS.ifYes X0.here hx rfl (pc0 := 28) (pc' := 35) rfl (hb hby at_28) rfl ((if0 _ _).trans (teq hc28).1) (by decide) (by decide) ?_
          show Steps p.tables e below (s₁.setTop (mkF m 35 #[.val (.int p0), .val (.int p1), .val (.int p2), .val (.int p3), .val (.int p4), .val (.int (4 : Int32)), .val (.int (w0_0 p0 p1)), .unset, .unset, .unset, .unset, .unset, .unset] [])) _
          refine XS.iloadN X0.here hx rfl (hb hby at_35) rfl ?_
          show Steps p.tables e below (s₁.setTop (mkF m 36 #[.val (.int p0), .val (.int p1), .val (.int p2), .val (.int p3), .val (.int p4), .val (.int (4 : Int32)), .val (.int (w0_0 p0 p1)), .unset, .unset, .unset, .unset, .unset, .unset] [(.int p2)])) _
          exact kj
        · try simp only [if_neg hc28] at kj
          refine XS.ifNo X0.here hx rfl (hb hby at_28) rfl ((if0 _ _).trans (feq hc28).1) ?_
          show Steps p.tables e below (s₁.setTop (mkF m 31 #[.val (.int p0), .val (.int p1), .val (.int p2), .val (.int p3), .val (.int p4), .val (.int (4 : Int32)), .val (.int (w0_0 p0 p1)), .unset, .unset, .unset, .unset, .unset, .unset] [])) _
          refine XS.iconst X0.here hx rfl (hb hby at_31) ?_
          show Steps p.tables e below (s₁.setTop (mkF m 32 #[.val (.int p0), .val (.int p1), .val (.int p2), .val (.int p3), .val (.int p4), .val (.int (4 : Int32)), .val (.int (w0_0 p0 p1)), .unset, .unset, .unset, .unset, .unset, .unset] [(.int (1 : Int32))])) _
          refine XS.goto X0.here hx rfl (pc0 := 32) (pc' := 36) rfl (hb hby at_32) (by decide) (by decide) ?_
          show Steps p.tables e below (s₁.setTop (mkF m 36 #[.val (.int p0), .val (.int p1), .val (.int p2), .val (.int p3), .val (.int p4), .val (.int (4 : Int32)), .val (.int (w0_0 p0 p1)), .unset, .unset, .unset, .unset, .unset, .unset] [(.int (1 : Int32))])) _
          exact kj
      refine sg28 ?_
      show Steps p.tables e below (s₁.setTop (mkF m 36 #[.val (.int p0), .val (.int p1), .val (.int p2), .val (.int p3), .val (.int p4), .val (.int (4 : Int32)), .val (.int (w0_0 p0 p1)), .unset, .unset, .unset, .unset, .unset, .unset] [(.int (w0_1 p0 p2))])) _
      refine XS.istore X0.here hx rfl (hb hby at_36) rfl (l' := #[.val (.int p0), .val (.int p1), .val (.int p2), .val (.int p3), .val (.int p4), .val (.int (4 : Int32)), .val (.int (w0_0 p0 p1)), .val (.int (w0_1 p0 p2)), .unset, .unset, .unset, .unset, .unset]) rfl ?_
      show Steps p.tables e below (s₁.setTop (mkF m 38 #[.val (.int p0), .val (.int p1), .val (.int p2), .val (.int p3), .val (.int p4), .val (.int (4 : Int32)), .val (.int (w0_0 p0 p1)), .val (.int (w0_1 p0 p2)), .unset, .unset, .unset, .unset, .unset] [])) _
      refine XS.iloadN X0.here hx rfl (hb hby at_38) rfl ?_
      show Steps p.tables e below (s₁.setTop (mkF m 39 #[.val (.int p0), .val (.int p1), .val (.int p2), .val (.int p3), .val (.int p4), .val (.int (4 : Int32)), .val (.int (w0_0 p0 p1)), .val (.int (w0_1 p0 p2)), .unset, .unset, .unset, .unset, .unset] [(.int p0)])) _
      refine XS.iconst X0.here hx rfl (hb hby at_39) ?_
      show Steps p.tables e below (s₁.setTop (mkF m 40 #[.val (.int p0), .val (.int p1), .val (.int p2), .val (.int p3), .val (.int p4), .val (.int (4 : Int32)), .val (.int (w0_0 p0 p1)), .val (.int (w0_1 p0 p2)), .unset, .unset, .unset, .unset, .unset] [(.int (5 : Int32)), (.int p0)])) _
      refine XS.iushr X0.here hx rfl (hb hby at_40) rfl ?_
      show Steps p.tables e below (s₁.setTop (mkF m 41 #[.val (.int p0), .val (.int p1), .val (.int p2), .val (.int p3), .val (.int p4), .val (.int (4 : Int32)), .val (.int (w0_0 p0 p1)), .val (.int (w0_1 p0 p2)), .unset, .unset, .unset, .unset, .unset] [(.int ((p0.toUInt32 >>> ((5 : Int32) &&& 31).toUInt32).toInt32))])) _
      refine XS.iconst X0.here hx rfl (hb hby at_41) ?_
      show Steps p.tables e below (s₁.setTop (mkF m 42 #[.val (.int p0), .val (.int p1), .val (.int p2), .val (.int p3), .val (.int p4), .val (.int (4 : Int32)), .val (.int (w0_0 p0 p1)), .val (.int (w0_1 p0 p2)), .unset, .unset, .unset, .unset, .unset] [(.int (1 : Int32)), (.int ((p0.toUInt32 >>> ((5 : Int32) &&& 31).toUInt32).toInt32))])) _
      refine XS.iand X0.here hx rfl (hb hby at_42) rfl ?_
      show Steps p.tables e below (s₁.setTop (mkF m 43 #[.val (.int p0), .val (.int p1), .val (.int p2), .val (.int p3), .val (.int p4), .val (.int (4 : Int32)), .val (.int (w0_0 p0 p1)), .val (.int (w0_1 p0 p2)), .unset, .unset, .unset, .unset, .unset] [(.int (((p0.toUInt32 >>> ((5 : Int32) &&& 31).toUInt32).toInt32) &&& (1 : Int32)))])) _
      have sg43 : Steps p.tables e below (s₁.setTop (mkF m 51 #[.val (.int p0), .val (.int p1), .val (.int p2), .val (.int p3), .val (.int p4), .val (.int (4 : Int32)), .val (.int (w0_0 p0 p1)), .val (.int (w0_1 p0 p2)), .unset, .unset, .unset, .unset, .unset] [(.int (if (((p0.toUInt32 >>> ((5 : Int32) &&& 31).toUInt32).toInt32) &&& (1 : Int32)) = (0 : Int32) then p3 else (1 : Int32)))])) tZ → Steps p.tables e below (s₁.setTop (mkF m 43 #[.val (.int p0), .val (.int p1), .val (.int p2), .val (.int p3), .val (.int p4), .val (.int (4 : Int32)), .val (.int (w0_0 p0 p1)), .val (.int (w0_1 p0 p2)), .unset, .unset, .unset, .unset, .unset] [(.int (((p0.toUInt32 >>> ((5 : Int32) &&& 31).toUInt32).toInt32) &&& (1 : Int32)))])) tZ := by
        intro kj
        by_cases hc43 : (((p0.toUInt32 >>> ((5 : Int32) &&& 31).toUInt32).toInt32) &&& (1 : Int32)) = (0 : Int32)
        · try simp only [if_pos hc43] at kj
          refine XS.ifYes X0.here hx rfl (pc0 := 43) (pc' := 50) rfl (hb hby at_43) rfl ((if0 _ _).trans (teq hc43).1) (by decide) (by decide) ?_
          show Steps p.tables e below (s₁.setTop (mkF m 50 #[.val (.int p0), .val (.int p1), .val (.int p2), .val (.int p3), .val (.int p4), .val (.int (4 : Int32)), .val (.int (w0_0 p0 p1)), .val (.int (w0_1 p0 p2)), .unset, .unset, .unset, .unset, .unset] [])) _
          refine XS.iloadN X0.here hx rfl (hb hby at_50) rfl ?_
          show Steps p.tables e below (s₁.setTop (mkF m 51 #[.val (.int p0), .val (.int p1), .val (.int p2), .val (.int p3), .val (.int p4), .val (.int (4 : Int32)), .val (.int (w0_0 p0 p1)), .val (.int (w0_1 p0 p2)), .unset, .unset, .unset, .unset, .unset] [(.int p3)])) _
          exact kj
        · try simp only [if_neg hc43] at kj
          refine XS.ifNo X0.here hx rfl (hb hby at_43) rfl ((if0 _ _).trans (feq hc43).1) ?_
          show Steps p.tables e below (s₁.setTop (mkF m 46 #[.val (.int p0), .val (.int p1), .val (.int p2), .val (.int p3), .val (.int p4), .val (.int (4 : Int32)), .val (.int (w0_0 p0 p1)), .val (.int (w0_1 p0 p2)), .unset, .unset, .unset, .unset, .unset] [])) _
          refine XS.iconst X0.here hx rfl (hb hby at_46) ?_
          show Steps p.tables e below (s₁.setTop (mkF m 47 #[.val (.int p0), .val (.int p1), .val (.int p2), .val (.int p3), .val (.int p4), .val (.int (4 : Int32)), .val (.int (w0_0 p0 p1)), .val (.int (w0_1 p0 p2)), .unset, .unset, .unset, .unset, .unset] [(.int (1 : Int32))])) _
          refine XS.goto X0.here hx rfl (pc0 := 47) (pc' := 51) rfl (hb hby at_47) (by decide) (by decide) ?_
          show Steps p.tables e below (s₁.setTop (mkF m 51 #[.val (.int p0), .val (.int p1), .val (.int p2), .val (.int p3), .val (.int p4), .val (.int (4 : Int32)), .val (.int (w0_0 p0 p1)), .val (.int (w0_1 p0 p2)), .unset, .unset, .unset, .unset, .unset] [(.int (1 : Int32))])) _
          exact kj
      refine sg43 ?_
      show Steps p.tables e below (s₁.setTop (mkF m 51 #[.val (.int p0), .val (.int p1), .val (.int p2), .val (.int p3), .val (.int p4), .val (.int (4 : Int32)), .val (.int (w0_0 p0 p1)), .val (.int (w0_1 p0 p2)), .unset, .unset, .unset, .unset, .unset] [(.int (w0_2 p0 p3))])) _
      refine XS.istore X0.here hx rfl (hb hby at_51) rfl (l' := #[.val (.int p0), .val (.int p1), .val (.int p2), .val (.int p3), .val (.int p4), .val (.int (4 : Int32)), .val (.int (w0_0 p0 p1)), .val (.int (w0_1 p0 p2)), .val (.int (w0_2 p0 p3)), .unset, .unset, .unset, .unset]) rfl ?_
      show Steps p.tables e below (s₁.setTop (mkF m 53 #[.val (.int p0), .val (.int p1), .val (.int p2), .val (.int p3), .val (.int p4), .val (.int (4 : Int32)), .val (.int (w0_0 p0 p1)), .val (.int (w0_1 p0 p2)), .val (.int (w0_2 p0 p3)), .unset, .unset, .unset, .unset] [])) _
      refine XS.iloadN X0.here hx rfl (hb hby at_53) rfl ?_
      show Steps p.tables e below (s₁.setTop (mkF m 54 #[.val (.int p0), .val (.int p1), .val (.int p2), .val (.int p3), .val (.int p4), .val (.int (4 : Int32)), .val (.int (w0_0 p0 p1)), .val (.int (w0_1 p0 p2)), .val (.int (w0_2 p0 p3)), .unset, .unset, .unset, .unset] [(.int p0)])) _
      refine XS.bipush X0.here hx rfl (hb hby at_54) ?_
      show Steps p.tables e below (s₁.setTop (mkF m 56 #[.val (.int p0), .val (.int p1), .val (.int p2), .val (.int p3), .val (.int p4), .val (.int (4 : Int32)), .val (.int (w0_0 p0 p1)), .val (.int (w0_1 p0 p2)), .val (.int (w0_2 p0 p3)), .unset, .unset, .unset, .unset] [(.int (6 : Int32)), (.int p0)])) _
      refine XS.iushr X0.here hx rfl (hb hby at_56) rfl ?_
      show Steps p.tables e below (s₁.setTop (mkF m 57 #[.val (.int p0), .val (.int p1), .val (.int p2), .val (.int p3), .val (.int p4), .val (.int (4 : Int32)), .val (.int (w0_0 p0 p1)), .val (.int (w0_1 p0 p2)), .val (.int (w0_2 p0 p3)), .unset, .unset, .unset, .unset] [(.int ((p0.toUInt32 >>> ((6 : Int32) &&& 31).toUInt32).toInt32))])) _
      refine XS.iconst X0.here hx rfl (hb hby at_57) ?_
      show Steps p.tables e below (s₁.setTop (mkF m 58 #[.val (.int p0), .val (.int p1), .val (.int p2), .val (.int p3), .val (.int p4), .val (.int (4 : Int32)), .val (.int (w0_0 p0 p1)), .val (.int (w0_1 p0 p2)), .val (.int (w0_2 p0 p3)), .unset, .unset, .unset, .unset] [(.int (1 : Int32)), (.int ((p0.toUInt32 >>> ((6 : Int32) &&& 31).toUInt32).toInt32))])) _
      refine XS.iand X0.here hx rfl (hb hby at_58) rfl ?_
      show Steps p.tables e below (s₁.setTop (mkF m 59 #[.val (.int p0), .val (.int p1), .val (.int p2), .val (.int p3), .val (.int p4), .val (.int (4 : Int32)), .val (.int (w0_0 p0 p1)), .val (.int (w0_1 p0 p2)), .val (.int (w0_2 p0 p3)), .unset, .unset, .unset, .unset] [(.int (((p0.toUInt32 >>> ((6 : Int32) &&& 31).toUInt32).toInt32) &&& (1 : Int32)))])) _
      have sg59 : Steps p.tables e below (s₁.setTop (mkF m 68 #[.val (.int p0), .val (.int p1), .val (.int p2), .val (.int p3), .val (.int p4), .val (.int (4 : Int32)), .val (.int (w0_0 p0 p1)), .val (.int (w0_1 p0 p2)), .val (.int (w0_2 p0 p3)), .unset, .unset, .unset, .unset] [(.int (if (((p0.toUInt32 >>> ((6 : Int32) &&& 31).toUInt32).toInt32) &&& (1 : Int32)) = (0 : Int32) then p4 else (1 : Int32)))])) tZ → Steps p.tables e below (s₁.setTop (mkF m 59 #[.val (.int p0), .val (.int p1), .val (.int p2), .val (.int p3), .val (.int p4), .val (.int (4 : Int32)), .val (.int (w0_0 p0 p1)), .val (.int (w0_1 p0 p2)), .val (.int (w0_2 p0 p3)), .unset, .unset, .unset, .unset] [(.int (((p0.toUInt32 >>> ((6 : Int32) &&& 31).toUInt32).toInt32) &&& (1 : Int32)))])) tZ := by
        intro kj
        by_cases hc59 : (((p0.toUInt32 >>> ((6 : Int32) &&& 31).toUInt32).toInt32) &&& (1 : Int32)) = (0 : Int32)
        · try simp only [if_pos hc59] at kj
          refine XS.ifYes X0.here hx rfl (pc0 := 59) (pc' := 66) rfl (hb hby at_59) rfl ((if0 _ _).trans (teq hc59).1) (by decide) (by decide) ?_
          show Steps p.tables e below (s₁.setTop (mkF m 66 #[.val (.int p0), .val (.int p1), .val (.int p2), .val (.int p3), .val (.int p4), .val (.int (4 : Int32)), .val (.int (w0_0 p0 p1)), .val (.int (w0_1 p0 p2)), .val (.int (w0_2 p0 p3)), .unset, .unset, .unset, .unset] [])) _
          refine XS.iload X0.here hx rfl (hb hby at_66) rfl ?_
          show Steps p.tables e below (s₁.setTop (mkF m 68 #[.val (.int p0), .val (.int p1), .val (.int p2), .val (.int p3), .val (.int p4), .val (.int (4 : Int32)), .val (.int (w0_0 p0 p1)), .val (.int (w0_1 p0 p2)), .val (.int (w0_2 p0 p3)), .unset, .unset, .unset, .unset] [(.int p4)])) _
          exact kj
        · try simp only [if_neg hc59] at kj
          refine XS.ifNo X0.here hx rfl (hb hby at_59) rfl ((if0 _ _).trans (feq hc59).1) ?_
          show Steps p.tables e below (s₁.setTop (mkF m 62 #[.val (.int p0), .val (.int p1), .val (.int p2), .val (.int p3), .val (.int p4), .val (.int (4 : Int32)), .val (.int (w0_0 p0 p1)), .val (.int (w0_1 p0 p2)), .val (.int (w0_2 p0 p3)), .unset, .unset, .unset, .unset] [])) _
          refine XS.iconst X0.here hx rfl (hb hby at_62) ?_
          show Steps p.tables e below (s₁.setTop (mkF m 63 #[.val (.int p0), .val (.int p1), .val (.int p2), .val (.int p3), .val (.int p4), .val (.int (4 : Int32)), .val (.int (w0_0 p0 p1)), .val (.int (w0_1 p0 p2)), .val (.int (w0_2 p0 p3)), .unset, .unset, .unset, .unset] [(.int (1 : Int32))])) _
          refine XS.goto X0.here hx rfl (pc0 := 63) (pc' := 68) rfl (hb hby at_63) (by decide) (by decide) ?_
          show Steps p.tables e below (s₁.setTop (mkF m 68 #[.val (.int p0), .val (.int p1), .val (.int p2), .val (.int p3), .val (.int p4), .val (.int (4 : Int32)), .val (.int (w0_0 p0 p1)), .val (.int (w0_1 p0 p2)), .val (.int (w0_2 p0 p3)), .unset, .unset, .unset, .unset] [(.int (1 : Int32))])) _
          exact kj
      refine sg59 ?_
      show Steps p.tables e below (s₁.setTop (mkF m 68 #[.val (.int p0), .val (.int p1), .val (.int p2), .val (.int p3), .val (.int p4), .val (.int (4 : Int32)), .val (.int (w0_0 p0 p1)), .val (.int (w0_1 p0 p2)), .val (.int (w0_2 p0 p3)), .unset, .unset, .unset, .unset] [(.int (w0_3 p0 p4))])) _
      refine XS.istore X0.here hx rfl (hb hby at_68) rfl (l' := #[.val (.int p0), .val (.int p1), .val (.int p2), .val (.int p3), .val (.int p4), .val (.int (4 : Int32)), .val (.int (w0_0 p0 p1)), .val (.int (w0_1 p0 p2)), .val (.int (w0_2 p0 p3)), .val (.int (w0_3 p0 p4)), .unset, .unset, .unset]) rfl ?_
      show Steps p.tables e below (s₁.setTop (mkF m 70 #[.val (.int p0), .val (.int p1), .val (.int p2), .val (.int p3), .val (.int p4), .val (.int (4 : Int32)), .val (.int (w0_0 p0 p1)), .val (.int (w0_1 p0 p2)), .val (.int (w0_2 p0 p3)), .val (.int (w0_3 p0 p4)), .unset, .unset, .unset] [])) _
      refine XS.iload X0.here hx rfl (hb hby at_70) rfl ?_
      show Steps p.tables e below (s₁.setTop (mkF m 72 #[.val (.int p0), .val (.int p1), .val (.int p2), .val (.int p3), .val (.int p4), .val (.int (4 : Int32)), .val (.int (w0_0 p0 p1)), .val (.int (w0_1 p0 p2)), .val (.int (w0_2 p0 p3)), .val (.int (w0_3 p0 p4)), .unset, .unset, .unset] [(.int (4 : Int32))])) _
      exact kZ
    obtain ⟨T41, h41, k41, X41, e41, E41, A41, B41, st41⟩ := newPE X0 hx hZ (hw _ (List.mem_of_getElem? (i := 0) rfl)) e0 (g := (mkF m 72 #[.val (.int p0), .val (.int p1), .val (.int p2), .val (.int p3), .val (.int p4), .val (.int (4 : Int32)), .val (.int (w0_0 p0 p1)), .val (.int (w0_1 p0 p2)), .val (.int (w0_2 p0 p3)), .val (.int (w0_3 p0 p4)), .unset, .unset, .unset] [(.int (4 : Int32))])) rfl (hb hby at_72) rfl (by decide) (cap := 4) (by decide) (by decide) (by decide) (by decide) (ad := "[I") rfl
    obtain ⟨b41, g41⟩ : ∃ z, z = h0.size := ⟨_, rfl⟩
    rw [← g41] at A41 B41 st41
    have g_b41 : n0 ≤ b41 := Nat.le_trans Z0 (Nat.le_of_eq g41.symm)
    have sz_b41 : h0.size ≤ b41 := Nat.le_trans ((Keep.refl h0 [])).1 (Nat.le_of_eq g41.symm)
    have c42_1 := ha1.ext E41
    have c42_0 := ha0.ext c42_1.2
    have K41 : Keep h0 h41 [] := (Keep.refl h0 []).ext E41
    have Z41 : n0 ≤ h41.size := Nat.le_trans Z0 E41.1
    have V41 : AV Z h41 b41 .int 4 (fun k => .int ((fun _ => (0 : Int32)) k)) := by have q := AV.new A41; exact q
    refine Go.via st41 ?_
    show Go p e below _ (T41.setTop (mkF m 74 #[.val (.int p0), .val (.int p1), .val (.int p2), .val (.int p3), .val (.int p4), .val (.int (4 : Int32)), .val (.int (w0_0 p0 p1)), .val (.int (w0_1 p0 p2)), .val (.int (w0_2 p0 p3)), .val (.int (w0_3 p0 p4)), .unset, .unset, .unset] [(.ref b41)]))
    refine Go.via (T' := T41.setTop (mkF m 86 #[.val (.int p0), .val (.int p1), .val (.int p2), .val (.int p3), .val (.int p4), .val (.int (4 : Int32)), .val (.int (w0_0 p0 p1)), .val (.int (w0_1 p0 p2)), .val (.int (w0_2 p0 p3)), .val (.int (w0_3 p0 p4)), .val (.ref b41), .unset, .unset] [(.int (w0_0 p0 p1)), (.int (0 : Int32)), (.ref b41)])) (fun tZ kZ => ?_) ?_
    · show Steps p.tables e below (T41.setTop (mkF m 74 #[.val (.int p0), .val (.int p1), .val (.int p2), .val (.int p3), .val (.int p4), .val (.int (4 : Int32)), .val (.int (w0_0 p0 p1)), .val (.int (w0_1 p0 p2)), .val (.int (w0_2 p0 p3)), .val (.int (w0_3 p0 p4)), .unset, .unset, .unset] [(.ref b41)])) _
      refine XS.astore X41.here hx rfl (hb hby at_74) rfl rfl (l' := #[.val (.int p0), .val (.int p1), .val (.int p2), .val (.int p3), .val (.int p4), .val (.int (4 : Int32)), .val (.int (w0_0 p0 p1)), .val (.int (w0_1 p0 p2)), .val (.int (w0_2 p0 p3)), .val (.int (w0_3 p0 p4)), .val (.ref b41), .unset, .unset]) rfl ?_
      show Steps p.tables e below (T41.setTop (mkF m 76 #[.val (.int p0), .val (.int p1), .val (.int p2), .val (.int p3), .val (.int p4), .val (.int (4 : Int32)), .val (.int (w0_0 p0 p1)), .val (.int (w0_1 p0 p2)), .val (.int (w0_2 p0 p3)), .val (.int (w0_3 p0 p4)), .val (.ref b41), .unset, .unset] [])) _
      refine XS.iload X41.here hx rfl (hb hby at_76) rfl ?_
      show Steps p.tables e below (T41.setTop (mkF m 78 #[.val (.int p0), .val (.int p1), .val (.int p2), .val (.int p3), .val (.int p4), .val (.int (4 : Int32)), .val (.int (w0_0 p0 p1)), .val (.int (w0_1 p0 p2)), .val (.int (w0_2 p0 p3)), .val (.int (w0_3 p0 p4)), .val (.ref b41), .unset, .unset] [(.int (4 : Int32))])) _
      refine XS.ifNo X41.here hx rfl (hb hby at_78) rfl ((if0 _ _).trans (tlt (by decide)).2.2.2) ?_
      show Steps p.tables e below (T41.setTop (mkF m 81 #[.val (.int p0), .val (.int p1), .val (.int p2), .val (.int p3), .val (.int p4), .val (.int (4 : Int32)), .val (.int (w0_0 p0 p1)), .val (.int (w0_1 p0 p2)), .val (.int (w0_2 p0 p3)), .val (.int (w0_3 p0 p4)), .val (.ref b41), .unset, .unset] [])) _
      refine XS.aload X41.here hx rfl (hb hby at_81) rfl rfl ?_
      show Steps p.tables e below (T41.setTop (mkF m 83 #[.val (.int p0), .val (.int p1), .val (.int p2), .val (.int p3), .val (.int p4), .val (.int (4 : Int32)), .val (.int (w0_0 p0 p1)), .val (.int (w0_1 p0 p2)), .val (.int (w0_2 p0 p3)), .val (.int (w0_3 p0 p4)), .val (.ref b41), .unset, .unset] [(.ref b41)])) _
      refine XS.iconst X41.here hx rfl (hb hby at_83) ?_
      show Steps p.tables e below (T41.setTop (mkF m 84 #[.val (.int p0), .val (.int p1), .val (.int p2), .val (.int p3), .val (.int p4), .val (.int (4 : Int32)), .val (.int (w0_0 p0 p1)), .val (.int (w0_1 p0 p2)), .val (.int (w0_2 p0 p3)), .val (.int (w0_3 p0 p4)), .val (.ref b41), .unset, .unset] [(.int (0 : Int32)), (.ref b41)])) _
      refine XS.iload X41.here hx rfl (hb hby at_84) rfl ?_
      show Steps p.tables e below (T41.setTop (mkF m 86 #[.val (.int p0), .val (.int p1), .val (.int p2), .val (.int p3), .val (.int p4), .val (.int (4 : Int32)), .val (.int (w0_0 p0 p1)), .val (.int (w0_1 p0 p2)), .val (.int (w0_2 p0 p3)), .val (.int (w0_3 p0 p4)), .val (.ref b41), .unset, .unset] [(.int (w0_0 p0 p1)), (.int (0 : Int32)), (.ref b41)])) _
      exact kZ
    obtain ⟨T43, h43, X43, e43, W43, V43, st43⟩ := AV.iastore V41 X41 hx hZ e41 (j := (0 : Int32)) (by decide) (Ls := #[.val (.int p0), .val (.int p1), .val (.int p2), .val (.int p3), .val (.int p4), .val (.int (4 : Int32)), .val (.int (w0_0 p0 p1)), .val (.int (w0_1 p0 p2)), .val (.int (w0_2 p0 p3)), .val (.int (w0_3 p0 p4)), .val (.ref b41), .unset, .unset]) (rest := []) (hb hby at_86) (x := (w0_0 p0 p1))
    have N43 := Fr.snoc X43 N0 g_b41
    have c44_1 := c42_1.wr W43 g_b41
    have c44_0 := ha0.ext c44_1.2
    have c44_3 := B41.wr W43
    have K43 : Keep h0 h43 [] := K41.wr W43 (Or.inr sz_b41)
    have Z43 : n0 ≤ h43.size := Nat.le_trans Z41 (Keep.of_wr W43).1
    refine Go.via st43 ?_
    show Go p e below _ (T43.setTop (mkF m 87 #[.val (.int p0), .val (.int p1), .val (.int p2), .val (.int p3), .val (.int p4), .val (.int (4 : Int32)), .val (.int (w0_0 p0 p1)), .val (.int (w0_1 p0 p2)), .val (.int (w0_2 p0 p3)), .val (.int (w0_3 p0 p4)), .val (.ref b41), .unset, .unset] []))
    refine Go.via (T' := T43.setTop (mkF m 98 #[.val (.int p0), .val (.int p1), .val (.int p2), .val (.int p3), .val (.int p4), .val (.int (4 : Int32)), .val (.int (w0_0 p0 p1)), .val (.int (w0_1 p0 p2)), .val (.int (w0_2 p0 p3)), .val (.int (w0_3 p0 p4)), .val (.ref b41), .unset, .unset] [(.int (w0_1 p0 p2)), (.int (1 : Int32)), (.ref b41)])) (fun tZ kZ => ?_) ?_
    · show Steps p.tables e below (T43.setTop (mkF m 87 #[.val (.int p0), .val (.int p1), .val (.int p2), .val (.int p3), .val (.int p4), .val (.int (4 : Int32)), .val (.int (w0_0 p0 p1)), .val (.int (w0_1 p0 p2)), .val (.int (w0_2 p0 p3)), .val (.int (w0_3 p0 p4)), .val (.ref b41), .unset, .unset] [])) _
      refine XS.iload X43.here hx rfl (hb hby at_87) rfl ?_
      show Steps p.tables e below (T43.setTop (mkF m 89 #[.val (.int p0), .val (.int p1), .val (.int p2), .val (.int p3), .val (.int p4), .val (.int (4 : Int32)), .val (.int (w0_0 p0 p1)), .val (.int (w0_1 p0 p2)), .val (.int (w0_2 p0 p3)), .val (.int (w0_3 p0 p4)), .val (.ref b41), .unset, .unset] [(.int (4 : Int32))])) _
      refine XS.iconst X43.here hx rfl (hb hby at_89) ?_
      show Steps p.tables e below (T43.setTop (mkF m 90 #[.val (.int p0), .val (.int p1), .val (.int p2), .val (.int p3), .val (.int p4), .val (.int (4 : Int32)), .val (.int (w0_0 p0 p1)), .val (.int (w0_1 p0 p2)), .val (.int (w0_2 p0 p3)), .val (.int (w0_3 p0 p4)), .val (.ref b41), .unset, .unset] [(.int (1 : Int32)), (.int (4 : Int32))])) _
      refine XS.icmpNo X43.here hx rfl (hb hby at_90) rfl (tlt (by decide)).2.2.2 ?_
      show Steps p.tables e below (T43.setTop (mkF m 93 #[.val (.int p0), .val (.int p1), .val (.int p2), .val (.int p3), .val (.int p4), .val (.int (4 : Int32)), .val (.int (w0_0 p0 p1)), .val (.int (w0_1 p0 p2)), .val (.int (w0_2 p0 p3)), .val (.int (w0_3 p0 p4)), .val (.ref b41), .unset, .unset] [])) _
      refine XS.aload X43.here hx rfl (hb hby at_93) rfl rfl ?_
      show Steps p.tables e below (T43.setTop (mkF m 95 #[.val (.int p0), .val (.int p1), .val (.int p2), .val (.int p3), .val (.int p4), .val (.int (4 : Int32)), .val (.int (w0_0 p0 p1)), .val (.int (w0_1 p0 p2)), .val (.int (w0_2 p0 p3)), .val (.int (w0_3 p0 p4)), .val (.ref b41), .unset, .unset] [(.ref b41)])) _
      refine XS.iconst X43.here hx rfl (hb hby at_95) ?_
      show Steps p.tables e below (T43.setTop (mkF m 96 #[.val (.int p0), .val (.int p1), .val (.int p2), .val (.int p3), .val (.int p4), .val (.int (4 : Int32)), .val (.int (w0_0 p0 p1)), .val (.int (w0_1 p0 p2)), .val (.int (w0_2 p0 p3)), .val (.int (w0_3 p0 p4)), .val (.ref b41), .unset, .unset] [(.int (1 : Int32)), (.ref b41)])) _
      refine XS.iload X43.here hx rfl (hb hby at_96) rfl ?_
      show Steps p.tables e below (T43.setTop (mkF m 98 #[.val (.int p0), .val (.int p1), .val (.int p2), .val (.int p3), .val (.int p4), .val (.int (4 : Int32)), .val (.int (w0_0 p0 p1)), .val (.int (w0_1 p0 p2)), .val (.int (w0_2 p0 p3)), .val (.int (w0_3 p0 p4)), .val (.ref b41), .unset, .unset] [(.int (w0_1 p0 p2)), (.int (1 : Int32)), (.ref b41)])) _
      exact kZ
    obtain ⟨T45, h45, X45, e45, W45, V45, st45⟩ := AV.iastore V43 X43 hx hZ e43 (j := (1 : Int32)) (by decide) (Ls := #[.val (.int p0), .val (.int p1), .val (.int p2), .val (.int p3), .val (.int p4), .val (.int (4 : Int32)), .val (.int (w0_0 p0 p1)), .val (.int (w0_1 p0 p2)), .val (.int (w0_2 p0 p3)), .val (.int (w0_3 p0 p4)), .val (.ref b41), .unset, .unset]) (rest := []) (hb hby at_98) (x := (w0_1 p0 p2))
    have N45 := Fr.snoc X45 N43 g_b41
    have c46_1 := c44_1.wr W45 g_b41
    have c46_0 := ha0.ext c46_1.2
    have c46_3 := c44_3.wr W45
    have K45 : Keep h0 h45 [] := K43.wr W45 (Or.inr sz_b41)
    have Z45 : n0 ≤ h45.size := Nat.le_trans Z43 (Keep.of_wr W45).1
    refine Go.via st45 ?_
    show Go p e below _ (T45.setTop (mkF m 99 #[.val (.int p0), .val (.int p1), .val (.int p2), .val (.int p3), .val (.int p4), .val (.int (4 : Int32)), .val (.int (w0_0 p0 p1)), .val (.int (w0_1 p0 p2)), .val (.int (w0_2 p0 p3)), .val (.int (w0_3 p0 p4)), .val (.ref b41), .unset, .unset] []))
    refine Go.via (T' := T45.setTop (mkF m 110 #[.val (.int p0), .val (.int p1), .val (.int p2), .val (.int p3), .val (.int p4), .val (.int (4 : Int32)), .val (.int (w0_0 p0 p1)), .val (.int (w0_1 p0 p2)), .val (.int (w0_2 p0 p3)), .val (.int (w0_3 p0 p4)), .val (.ref b41), .unset, .unset] [(.int (w0_2 p0 p3)), (.int (2 : Int32)), (.ref b41)])) (fun tZ kZ => ?_) ?_
    · show Steps p.tables e below (T45.setTop (mkF m 99 #[.val (.int p0), .val (.int p1), .val (.int p2), .val (.int p3), .val (.int p4), .val (.int (4 : Int32)), .val (.int (w0_0 p0 p1)), .val (.int (w0_1 p0 p2)), .val (.int (w0_2 p0 p3)), .val (.int (w0_3 p0 p4)), .val (.ref b41), .unset, .unset] [])) _
      refine XS.iload X45.here hx rfl (hb hby at_99) rfl ?_
      show Steps p.tables e below (T45.setTop (mkF m 101 #[.val (.int p0), .val (.int p1), .val (.int p2), .val (.int p3), .val (.int p4), .val (.int (4 : Int32)), .val (.int (w0_0 p0 p1)), .val (.int (w0_1 p0 p2)), .val (.int (w0_2 p0 p3)), .val (.int (w0_3 p0 p4)), .val (.ref b41), .unset, .unset] [(.int (4 : Int32))])) _
      refine XS.iconst X45.here hx rfl (hb hby at_101) ?_
      show Steps p.tables e below (T45.setTop (mkF m 102 #[.val (.int p0), .val (.int p1), .val (.int p2), .val (.int p3), .val (.int p4), .val (.int (4 : Int32)), .val (.int (w0_0 p0 p1)), .val (.int (w0_1 p0 p2)), .val (.int (w0_2 p0 p3)), .val (.int (w0_3 p0 p4)), .val (.ref b41), .unset, .unset] [(.int (2 : Int32)), (.int (4 : Int32))])) _
      refine XS.icmpNo X45.here hx rfl (hb hby at_102) rfl (tlt (by decide)).2.2.2 ?_
      show Steps p.tables e below (T45.setTop (mkF m 105 #[.val (.int p0), .val (.int p1), .val (.int p2), .val (.int p3), .val (.int p4), .val (.int (4 : Int32)), .val (.int (w0_0 p0 p1)), .val (.int (w0_1 p0 p2)), .val (.int (w0_2 p0 p3)), .val (.int (w0_3 p0 p4)), .val (.ref b41), .unset, .unset] [])) _
      refine XS.aload X45.here hx rfl (hb hby at_105) rfl rfl ?_
      show Steps p.tables e below (T45.setTop (mkF m 107 #[.val (.int p0), .val (.int p1), .val (.int p2), .val (.int p3), .val (.int p4), .val (.int (4 : Int32)), .val (.int (w0_0 p0 p1)), .val (.int (w0_1 p0 p2)), .val (.int (w0_2 p0 p3)), .val (.int (w0_3 p0 p4)), .val (.ref b41), .unset, .unset] [(.ref b41)])) _
      refine XS.iconst X45.here hx rfl (hb hby at_107) ?_
      show Steps p.tables e below (T45.setTop (mkF m 108 #[.val (.int p0), .val (.int p1), .val (.int p2), .val (.int p3), .val (.int p4), .val (.int (4 : Int32)), .val (.int (w0_0 p0 p1)), .val (.int (w0_1 p0 p2)), .val (.int (w0_2 p0 p3)), .val (.int (w0_3 p0 p4)), .val (.ref b41), .unset, .unset] [(.int (2 : Int32)), (.ref b41)])) _
      refine XS.iload X45.here hx rfl (hb hby at_108) rfl ?_
      show Steps p.tables e below (T45.setTop (mkF m 110 #[.val (.int p0), .val (.int p1), .val (.int p2), .val (.int p3), .val (.int p4), .val (.int (4 : Int32)), .val (.int (w0_0 p0 p1)), .val (.int (w0_1 p0 p2)), .val (.int (w0_2 p0 p3)), .val (.int (w0_3 p0 p4)), .val (.ref b41), .unset, .unset] [(.int (w0_2 p0 p3)), (.int (2 : Int32)), (.ref b41)])) _
      exact kZ
    obtain ⟨T47, h47, X47, e47, W47, V47, st47⟩ := AV.iastore V45 X45 hx hZ e45 (j := (2 : Int32)) (by decide) (Ls := #[.val (.int p0), .val (.int p1), .val (.int p2), .val (.int p3), .val (.int p4), .val (.int (4 : Int32)), .val (.int (w0_0 p0 p1)), .val (.int (w0_1 p0 p2)), .val (.int (w0_2 p0 p3)), .val (.int (w0_3 p0 p4)), .val (.ref b41), .unset, .unset]) (rest := []) (hb hby at_110) (x := (w0_2 p0 p3))
    have N47 := Fr.snoc X47 N45 g_b41
    have c48_1 := c46_1.wr W47 g_b41
    have c48_0 := ha0.ext c48_1.2
    have c48_3 := c46_3.wr W47
    have K47 : Keep h0 h47 [] := K45.wr W47 (Or.inr sz_b41)
    have Z47 : n0 ≤ h47.size := Nat.le_trans Z45 (Keep.of_wr W47).1
    refine Go.via st47 ?_
    show Go p e below _ (T47.setTop (mkF m 111 #[.val (.int p0), .val (.int p1), .val (.int p2), .val (.int p3), .val (.int p4), .val (.int (4 : Int32)), .val (.int (w0_0 p0 p1)), .val (.int (w0_1 p0 p2)), .val (.int (w0_2 p0 p3)), .val (.int (w0_3 p0 p4)), .val (.ref b41), .unset, .unset] []))
    refine Go.via (T' := T47.setTop (mkF m 122 #[.val (.int p0), .val (.int p1), .val (.int p2), .val (.int p3), .val (.int p4), .val (.int (4 : Int32)), .val (.int (w0_0 p0 p1)), .val (.int (w0_1 p0 p2)), .val (.int (w0_2 p0 p3)), .val (.int (w0_3 p0 p4)), .val (.ref b41), .unset, .unset] [(.int (w0_3 p0 p4)), (.int (3 : Int32)), (.ref b41)])) (fun tZ kZ => ?_) ?_
    · show Steps p.tables e below (T47.setTop (mkF m 111 #[.val (.int p0), .val (.int p1), .val (.int p2), .val (.int p3), .val (.int p4), .val (.int (4 : Int32)), .val (.int (w0_0 p0 p1)), .val (.int (w0_1 p0 p2)), .val (.int (w0_2 p0 p3)), .val (.int (w0_3 p0 p4)), .val (.ref b41), .unset, .unset] [])) _
      refine XS.iload X47.here hx rfl (hb hby at_111) rfl ?_
      show Steps p.tables e below (T47.setTop (mkF m 113 #[.val (.int p0), .val (.int p1), .val (.int p2), .val (.int p3), .val (.int p4), .val (.int (4 : Int32)), .val (.int (w0_0 p0 p1)), .val (.int (w0_1 p0 p2)), .val (.int (w0_2 p0 p3)), .val (.int (w0_3 p0 p4)), .val (.ref b41), .unset, .unset] [(.int (4 : Int32))])) _
      refine XS.iconst X47.here hx rfl (hb hby at_113) ?_
      show Steps p.tables e below (T47.setTop (mkF m 114 #[.val (.int p0), .val (.int p1), .val (.int p2), .val (.int p3), .val (.int p4), .val (.int (4 : Int32)), .val (.int (w0_0 p0 p1)), .val (.int (w0_1 p0 p2)), .val (.int (w0_2 p0 p3)), .val (.int (w0_3 p0 p4)), .val (.ref b41), .unset, .unset] [(.int (3 : Int32)), (.int (4 : Int32))])) _
      refine XS.icmpNo X47.here hx rfl (hb hby at_114) rfl (tlt (by decide)).2.2.2 ?_
      show Steps p.tables e below (T47.setTop (mkF m 117 #[.val (.int p0), .val (.int p1), .val (.int p2), .val (.int p3), .val (.int p4), .val (.int (4 : Int32)), .val (.int (w0_0 p0 p1)), .val (.int (w0_1 p0 p2)), .val (.int (w0_2 p0 p3)), .val (.int (w0_3 p0 p4)), .val (.ref b41), .unset, .unset] [])) _
      refine XS.aload X47.here hx rfl (hb hby at_117) rfl rfl ?_
      show Steps p.tables e below (T47.setTop (mkF m 119 #[.val (.int p0), .val (.int p1), .val (.int p2), .val (.int p3), .val (.int p4), .val (.int (4 : Int32)), .val (.int (w0_0 p0 p1)), .val (.int (w0_1 p0 p2)), .val (.int (w0_2 p0 p3)), .val (.int (w0_3 p0 p4)), .val (.ref b41), .unset, .unset] [(.ref b41)])) _
      refine XS.iconst X47.here hx rfl (hb hby at_119) ?_
      show Steps p.tables e below (T47.setTop (mkF m 120 #[.val (.int p0), .val (.int p1), .val (.int p2), .val (.int p3), .val (.int p4), .val (.int (4 : Int32)), .val (.int (w0_0 p0 p1)), .val (.int (w0_1 p0 p2)), .val (.int (w0_2 p0 p3)), .val (.int (w0_3 p0 p4)), .val (.ref b41), .unset, .unset] [(.int (3 : Int32)), (.ref b41)])) _
      refine XS.iload X47.here hx rfl (hb hby at_120) rfl ?_
      show Steps p.tables e below (T47.setTop (mkF m 122 #[.val (.int p0), .val (.int p1), .val (.int p2), .val (.int p3), .val (.int p4), .val (.int (4 : Int32)), .val (.int (w0_0 p0 p1)), .val (.int (w0_1 p0 p2)), .val (.int (w0_2 p0 p3)), .val (.int (w0_3 p0 p4)), .val (.ref b41), .unset, .unset] [(.int (w0_3 p0 p4)), (.int (3 : Int32)), (.ref b41)])) _
      exact kZ
    obtain ⟨T49, h49, X49, e49, W49, V49, st49⟩ := AV.iastore V47 X47 hx hZ e47 (j := (3 : Int32)) (by decide) (Ls := #[.val (.int p0), .val (.int p1), .val (.int p2), .val (.int p3), .val (.int p4), .val (.int (4 : Int32)), .val (.int (w0_0 p0 p1)), .val (.int (w0_1 p0 p2)), .val (.int (w0_2 p0 p3)), .val (.int (w0_3 p0 p4)), .val (.ref b41), .unset, .unset]) (rest := []) (hb hby at_122) (x := (w0_3 p0 p4))
    have N49 := Fr.snoc X49 N47 g_b41
    have c50_1 := c48_1.wr W49 g_b41
    have c50_0 := ha0.ext c50_1.2
    have c50_3 := c48_3.wr W49
    have K49 : Keep h0 h49 [] := K47.wr W49 (Or.inr sz_b41)
    have Z49 : n0 ≤ h49.size := Nat.le_trans Z47 (Keep.of_wr W49).1
    refine Go.via st49 ?_
    show Go p e below _ (T49.setTop (mkF m 123 #[.val (.int p0), .val (.int p1), .val (.int p2), .val (.int p3), .val (.int p4), .val (.int (4 : Int32)), .val (.int (w0_0 p0 p1)), .val (.int (w0_1 p0 p2)), .val (.int (w0_2 p0 p3)), .val (.int (w0_3 p0 p4)), .val (.ref b41), .unset, .unset] []))
    obtain ⟨T51, h51, X51, e51, E51, A51, D51, -, st51⟩ := newO X49 hx hZ hown (hw _ (List.mem_of_getElem? (i := 1) rfl)) (hw _ (List.mem_of_getElem? (i := 2) rfl)) (hw _ (List.mem_of_getElem? (i := 3) rfl)) e49 (g := (mkF m 123 #[.val (.int p0), .val (.int p1), .val (.int p2), .val (.int p3), .val (.int p4), .val (.int (4 : Int32)), .val (.int (w0_0 p0 p1)), .val (.int (w0_1 p0 p2)), .val (.int (w0_2 p0 p3)), .val (.int (w0_3 p0 p4)), .val (.ref b41), .unset, .unset] [])) rfl (hb hby at_123) (by decide) (by decide)
    obtain ⟨b51, g51⟩ : ∃ z, z = h49.size := ⟨_, rfl⟩
    rw [← g51] at A51 D51 st51
    have g_b51 : n0 ≤ b51 := Nat.le_trans Z49 (Nat.le_of_eq g51.symm)
    have sz_b51 : h0.size ≤ b51 := Nat.le_trans (K49).1 (Nat.le_of_eq g51.symm)
    have ne_b41_b51 : b41 ≠ b51 := Nat.ne_of_lt (Nat.lt_of_lt_of_le c50_3.lt (Nat.le_of_eq g51.symm))
    have c52_1 := c50_1.ext E51
    have c52_0 := ha0.ext c52_1.2
    have c52_3 := c50_3.ext E51
    have c52_4 := V49.ext E51
    have K51 : Keep h0 h51 [] := K49.ext E51
    have Z51 : n0 ≤ h51.size := Nat.le_trans Z49 E51.1
    have F51_transitions : Fld Z h51 b51 "com/example/ltlconv/ltlconv/dra/RabinDraft" "transitions" "Ljava/util/List;" .null := D51 (Or.inr (hw _ (List.mem_of_getElem? (i := 35) rfl))) (ty := (.object "java/util/List")) (by decide)
    have F51_infiniteCounts : Fld Z h51 b51 "com/example/ltlconv/ltlconv/dra/RabinDraft" "infiniteCounts" "[I" .null := D51 (Or.inr (hw _ (List.mem_of_getElem? (i := 46) rfl))) (ty := (.array .int)) (by decide)
    have F51_finiteSets : Fld Z h51 b51 "com/example/ltlconv/ltlconv/dra/RabinDraft" "finiteSets" "[I" .null := D51 (Or.inr (hw _ (List.mem_of_getElem? (i := 48) rfl))) (ty := (.array .int)) (by decide)
    refine Go.via st51 ?_
    show Go p e below _ (T51.setTop (mkF m 126 #[.val (.int p0), .val (.int p1), .val (.int p2), .val (.int p3), .val (.int p4), .val (.int (4 : Int32)), .val (.int (w0_0 p0 p1)), .val (.int (w0_1 p0 p2)), .val (.int (w0_2 p0 p3)), .val (.int (w0_3 p0 p4)), .val (.ref b41), .unset, .unset] [(.ref b51)]))
    refine Go.via (T' := T51.setTop (mkF m 129 #[.val (.int p0), .val (.int p1), .val (.int p2), .val (.int p3), .val (.int p4), .val (.int (4 : Int32)), .val (.int (w0_0 p0 p1)), .val (.int (w0_1 p0 p2)), .val (.int (w0_2 p0 p3)), .val (.int (w0_3 p0 p4)), .val (.ref b41), .unset, .unset] [(.ref b41), (.ref b51), (.ref b51)])) (fun tZ kZ => ?_) ?_
    · show Steps p.tables e below (T51.setTop (mkF m 126 #[.val (.int p0), .val (.int p1), .val (.int p2), .val (.int p3), .val (.int p4), .val (.int (4 : Int32)), .val (.int (w0_0 p0 p1)), .val (.int (w0_1 p0 p2)), .val (.int (w0_2 p0 p3)), .val (.int (w0_3 p0 p4)), .val (.ref b41), .unset, .unset] [(.ref b51)])) _
      refine XS.dup X51.here hx rfl (hb hby at_126) rfl rfl ?_
      show Steps p.tables e below (T51.setTop (mkF m 127 #[.val (.int p0), .val (.int p1), .val (.int p2), .val (.int p3), .val (.int p4), .val (.int (4 : Int32)), .val (.int (w0_0 p0 p1)), .val (.int (w0_1 p0 p2)), .val (.int (w0_2 p0 p3)), .val (.int (w0_3 p0 p4)), .val (.ref b41), .unset, .unset] [(.ref b51), (.ref b51)])) _
      refine XS.aload X51.here hx rfl (hb hby at_127) rfl rfl ?_
      show Steps p.tables e below (T51.setTop (mkF m 129 #[.val (.int p0), .val (.int p1), .val (.int p2), .val (.int p3), .val (.int p4), .val (.int (4 : Int32)), .val (.int (w0_0 p0 p1)), .val (.int (w0_1 p0 p2)), .val (.int (w0_2 p0 p3)), .val (.int (w0_3 p0 p4)), .val (.ref b41), .unset, .unset] [(.ref b41), (.ref b51), (.ref b51)])) _
      exact kZ
    obtain ⟨_, _, ⟨T53, L53, k53, n53⟩, -, X53, ⟨Lc53, hQ53, l53, y53, z53⟩, st53⟩ := X51.specialBack hx (y := (⟨"com/example/ltlconv/ltlconv/dra/RabinDraft", "<init>", "([I)V"⟩ : MethodName)) rfl hown (mvT hZ (hw _ (List.mem_of_getElem? (i := 4) rfl))) (mvT hZ (hw _ (List.mem_of_getElem? (i := 5) rfl))) (mvT hZ (hw _ (List.mem_of_getElem? (i := 6) rfl))) (by decide) (backOf (W := 1) (rm1n4 l Z a0 hw [] b51 b41 (up (up (up (up (fun _ => (0 : Int32)) (0 : Int32).toNatClampNeg (w0_0 p0 p1)) (1 : Int32).toNatClampNeg (w0_1 p0 p2)) (2 : Int32).toNatClampNeg (w0_2 p0 p3)) (3 : Int32).toNatClampNeg (w0_3 p0 p4)) aD h51 n0 Z51 A51 F51_transitions F51_infiniteCounts F51_finiteSets g_b51 c52_4 c52_3 c52_0 (Ne.symm ne_b41_b51)) hZ (hw _ (List.mem_of_getElem? (i := 6) rfl)) (hw _ (List.mem_of_getElem? (i := 3) rfl)) (by decide) (by decide)) (g := (mkF m 129 #[.val (.int p0), .val (.int p1), .val (.int p2), .val (.int p3), .val (.int p4), .val (.int (4 : Int32)), .val (.int (w0_0 p0 p1)), .val (.int (w0_1 p0 p2)), .val (.int (w0_2 p0 p3)), .val (.int (w0_3 p0 p4)), .val (.ref b41), .unset, .unset] [(.ref b41), (.ref b51), (.ref b51)])) rfl (by rw [hml]; rfl) (Steps.refl _) (a := b51) (argsL := [(.ref b41)]) (rest := [(.ref b51)]) (lenOf pd_0 rfl) rfl (by show 2 * 0 + _ ≤ _; exact Nat.le_of_eq rfl) (hb hby at_129) (fun _ _ => ⟨rfl, e51, (by decide : 0 + 1 + 1 + 3 ≤ _), (by decide : 0 + 4 + 4 + 11 ≤ _)⟩)
    dsimp only [Pt.U, Pt.locs, Pt.cells, Pt.slots] at X53 l53 y53 z53 st53 hQ53
    subst l53 y53 z53
    obtain ⟨rfl, N53q, b53_0, hz_b53_0, Kq53, f53_0, f53_1, f53_2, f53_3, f53_4, f53_5, f53_6⟩ := hQ53
    have g_b53_0 : n0 ≤ b53_0 := Nat.le_trans Z51 hz_b53_0
    have sz_b53_0 : h0.size ≤ b53_0 := Nat.le_trans (K51).1 hz_b53_0
    have ne_b41_b53_0 : b41 ≠ b53_0 := Nat.ne_of_lt (Nat.lt_of_lt_of_le c52_3.lt hz_b53_0)
    have ne_b51_b53_0 : b51 ≠ b53_0 := Nat.ne_of_lt (Nat.lt_of_lt_of_le A51.lt hz_b53_0)
    have c54_1 := c52_1.keep Kq53 (allS g_b51 all0)
    have K53 : Keep h0 T53.heap [] := K51.trans Kq53 (allS (Or.inr sz_b51) all0)
    have Z53 : n0 ≤ T53.heap.size := Nat.le_trans Z51 Kq53.1
    have N53 := Fr.app N49 N53q
    refine Go.via (fun t k => st53.trans k) ?_
    show Go p e below _ (T53.setTop (mkF m 132 #[.val (.int p0), .val (.int p1), .val (.int p2), .val (.int p3), .val (.int p4), .val (.int (4 : Int32)), .val (.int (w0_0 p0 p1)), .val (.int (w0_1 p0 p2)), .val (.int (w0_2 p0 p3)), .val (.int (w0_3 p0 p4)), .val (.ref b41), .unset, .unset] [(.ref b51)]))
    refine Go.via (T' := T53.setTop (mkF m 191 #[.val (.int p0), .val (.int p1), .val (.int p2), .val (.int p3), .val (.int p4), .val (.int (4 : Int32)), .val (.int (w0_0 p0 p1)), .val (.int (w0_1 p0 p2)), .val (.int (w0_2 p0 p3)), .val (.int (w0_3 p0 p4)), .val (.ref b41), .val (.ref b51), .val (.int (w0_13 p0 p1 p2 p3 p4))] [(.ref b51)])) (fun tZ kZ => ?_) ?_
    · show Steps p.tables e below (T53.setTop (mkF m 132 #[.val (.int p0), .val (.int p1), .val (.int p2), .val (.int p3), .val (.int p4), .val (.int (4 : Int32)), .val (.int (w0_0 p0 p1)), .val (.int (w0_1 p0 p2)), .val (.int (w0_2 p0 p3)), .val (.int (w0_3 p0 p4)), .val (.ref b41), .unset, .unset] [(.ref b51)])) _
      refine XS.astore X53.here hx rfl (hb hby at_132) rfl rfl (l' := #[.val (.int p0), .val (.int p1), .val (.int p2), .val (.int p3), .val (.int p4), .val (.int (4 : Int32)), .val (.int (w0_0 p0 p1)), .val (.int (w0_1 p0 p2)), .val (.int (w0_2 p0 p3)), .val (.int (w0_3 p0 p4)), .val (.ref b41), .val (.ref b51), .unset]) rfl ?_
      show Steps p.tables e below (T53.setTop (mkF m 134 #[.val (.int p0), .val (.int p1), .val (.int p2), .val (.int p3), .val (.int p4), .val (.int (4 : Int32)), .val (.int (w0_0 p0 p1)), .val (.int (w0_1 p0 p2)), .val (.int (w0_2 p0 p3)), .val (.int (w0_3 p0 p4)), .val (.ref b41), .val (.ref b51), .unset] [])) _
      refine XS.iload X53.here hx rfl (hb hby at_134) rfl ?_
      show Steps p.tables e below (T53.setTop (mkF m 136 #[.val (.int p0), .val (.int p1), .val (.int p2), .val (.int p3), .val (.int p4), .val (.int (4 : Int32)), .val (.int (w0_0 p0 p1)), .val (.int (w0_1 p0 p2)), .val (.int (w0_2 p0 p3)), .val (.int (w0_3 p0 p4)), .val (.ref b41), .val (.ref b51), .unset] [(.int (4 : Int32))])) _
      refine XS.iconst X53.here hx rfl (hb hby at_136) ?_
      show Steps p.tables e below (T53.setTop (mkF m 137 #[.val (.int p0), .val (.int p1), .val (.int p2), .val (.int p3), .val (.int p4), .val (.int (4 : Int32)), .val (.int (w0_0 p0 p1)), .val (.int (w0_1 p0 p2)), .val (.int (w0_2 p0 p3)), .val (.int (w0_3 p0 p4)), .val (.ref b41), .val (.ref b51), .unset] [(.int (1 : Int32)), (.int (4 : Int32))])) _
      refine XS.icmpNo X53.here hx rfl (hb hby at_137) rfl (flt (by decide)).1 ?_
      show Steps p.tables e below (T53.setTop (mkF m 140 #[.val (.int p0), .val (.int p1), .val (.int p2), .val (.int p3), .val (.int p4), .val (.int (4 : Int32)), .val (.int (w0_0 p0 p1)), .val (.int (w0_1 p0 p2)), .val (.int (w0_2 p0 p3)), .val (.int (w0_3 p0 p4)), .val (.ref b41), .val (.ref b51), .unset] [])) _
      refine XS.iload X53.here hx rfl (hb hby at_140) rfl ?_
      show Steps p.tables e below (T53.setTop (mkF m 142 #[.val (.int p0), .val (.int p1), .val (.int p2), .val (.int p3), .val (.int p4), .val (.int (4 : Int32)), .val (.int (w0_0 p0 p1)), .val (.int (w0_1 p0 p2)), .val (.int (w0_2 p0 p3)), .val (.int (w0_3 p0 p4)), .val (.ref b41), .val (.ref b51), .unset] [(.int (w0_0 p0 p1))])) _
      refine XS.iconst X53.here hx rfl (hb hby at_142) ?_
      show Steps p.tables e below (T53.setTop (mkF m 143 #[.val (.int p0), .val (.int p1), .val (.int p2), .val (.int p3), .val (.int p4), .val (.int (4 : Int32)), .val (.int (w0_0 p0 p1)), .val (.int (w0_1 p0 p2)), .val (.int (w0_2 p0 p3)), .val (.int (w0_3 p0 p4)), .val (.ref b41), .val (.ref b51), .unset] [(.int (1 : Int32)), (.int (w0_0 p0 p1))])) _
      have sg143 : Steps p.tables e below (T53.setTop (mkF m 187 #[.val (.int p0), .val (.int p1), .val (.int p2), .val (.int p3), .val (.int p4), .val (.int (4 : Int32)), .val (.int (w0_0 p0 p1)), .val (.int (w0_1 p0 p2)), .val (.int (w0_2 p0 p3)), .val (.int (w0_3 p0 p4)), .val (.ref b41), .val (.ref b51), .unset] [(.int (if (w0_0 p0 p1) = (1 : Int32) then (w0_12 p0 p2 p3 p4) else (0 : Int32)))])) tZ → Steps p.tables e below (T53.setTop (mkF m 143 #[.val (.int p0), .val (.int p1), .val (.int p2), .val (.int p3), .val (.int p4), .val (.int (4 : Int32)), .val (.int (w0_0 p0 p1)), .val (.int (w0_1 p0 p2)), .val (.int (w0_2 p0 p3)), .val (.int (w0_3 p0 p4)), .val (.ref b41), .val (.ref b51), .unset] [(.int (1 : Int32)), (.int (w0_0 p0 p1))])) tZ := by
        intro kj
        by_cases hc143 : (w0_0 p0 p1) = (1 : Int32)
        · try simp only [if_pos hc143] at kj
          refine XS.icmpNo X53.here hx rfl (hb hby at_143) rfl (teq hc143).2 ?_
          show Steps p.tables e below (T53.setTop (mkF m 146 #[.val (.int p0), .val (.int p1), .val (.int p2), .val (.int p3), .val (.int p4), .val (.int (4 : Int32)), .val (.int (w0_0 p0 p1)), .val (.int (w0_1 p0 p2)), .val (.int (w0_2 p0 p3)), .val (.int (w0_3 p0 p4)), .val (.ref b41), .val (.ref b51), .unset] [])) _
          refine XS.iload X53.here hx rfl (hb hby at_146) rfl ?_
          show Steps p.tables e below (T53.setTop (mkF m 148 #[.val (.int p0), .val (.int p1), .val (.int p2), .val (.int p3), .val (.int p4), .val (.int (4 : Int32)), .val (.int (w0_0 p0 p1)), .val (.int (w0_1 p0 p2)), .val (.int (w0_2 p0 p3)), .val (.int (w0_3 p0 p4)), .val (.ref b41), .val (.ref b51), .unset] [(.int (4 : Int32))])) _
          refine XS.iconst X53.here hx rfl (hb hby at_148) ?_
          show Steps p.tables e below (T53.setTop (mkF m 149 #[.val (.int p0), .val (.int p1), .val (.int p2), .val (.int p3), .val (.int p4), .val (.int (4 : Int32)), .val (.int (w0_0 p0 p1)), .val (.int (w0_1 p0 p2)), .val (.int (w0_2 p0 p3)), .val (.int (w0_3 p0 p4)), .val (.ref b41), .val (.ref b51), .unset] [(.int (2 : Int32)), (.int (4 : Int32))])) _
          refine XS.icmpNo X53.here hx rfl (hb hby at_149) rfl (flt (by decide)).1 ?_
          show Steps p.tables e below (T53.setTop (mkF m 152 #[.val (.int p0), .val (.int p1), .val (.int p2), .val (.int p3), .val (.int p4), .val (.int (4 : Int32)), .val (.int (w0_0 p0 p1)), .val (.int (w0_1 p0 p2)), .val (.int (w0_2 p0 p3)), .val (.int (w0_3 p0 p4)), .val (.ref b41), .val (.ref b51), .unset] [])) _
          refine XS.iload X53.here hx rfl (hb hby at_152) rfl ?_
          show Steps p.tables e below (T53.setTop (mkF m 154 #[.val (.int p0), .val (.int p1), .val (.int p2), .val (.int p3), .val (.int p4), .val (.int (4 : Int32)), .val (.int (w0_0 p0 p1)), .val (.int (w0_1 p0 p2)), .val (.int (w0_2 p0 p3)), .val (.int (w0_3 p0 p4)), .val (.ref b41), .val (.ref b51), .unset] [(.int (w0_1 p0 p2))])) _
          refine XS.iconst X53.here hx rfl (hb hby at_154) ?_
          show Steps p.tables e below (T53.setTop (mkF m 155 #[.val (.int p0), .val (.int p1), .val (.int p2), .val (.int p3), .val (.int p4), .val (.int (4 : Int32)), .val (.int (w0_0 p0 p1)), .val (.int (w0_1 p0 p2)), .val (.int (w0_2 p0 p3)), .val (.int (w0_3 p0 p4)), .val (.ref b41), .val (.ref b51), .unset] [(.int (1 : Int32)), (.int (w0_1 p0 p2))])) _
          have sg155 : Steps p.tables e below (T53.setTop (mkF m 187 #[.val (.int p0), .val (.int p1), .val (.int p2), .val (.int p3), .val (.int p4), .val (.int (4 : Int32)), .val (.int (w0_0 p0 p1)), .val (.int (w0_1 p0 p2)), .val (.int (w0_2 p0 p3)), .val (.int (w0_3 p0 p4)), .val (.ref b41), .val (.ref b51), .unset] [(.int (if (w0_1 p0 p2) = (1 : Int32) then (w0_11 p0 p3 p4) else (0 : Int32)))])) tZ → Steps p.tables e below (T53.setTop (mkF m 155 #[.val (.int p0), .val (.int p1), .val (.int p2), .val (.int p3), .val (.int p4), .val (.int (4 : Int32)), .val (.int (w0_0 p0 p1)), .val (.int (w0_1 p0 p2)), .val (.int (w0_2 p0 p3)), .val (.int (w0_3 p0 p4)), .val (.ref b41), .val (.ref b51), .unset] [(.int (1 : Int32)), (.int (w0_1 p0 p2))])) tZ := by
            intro kj
            by_cases hc155 : (w0_1 p0 p2) = (1 : Int32)
            · try simp only [if_pos hc155] at kj
              refine XS.icmpNo X53.here hx rfl (hb hby at_155) rfl (teq hc155).2 ?_
              show Steps p.tables e below (T53.setTop (mkF m 158 #[.val (.int p0), .val (.int p1), .val (.int p2), .val (.int p3), .val (.int p4), .val (.int (4 : Int32)), .val (.int (w0_0 p0 p1)), .val (.int (w0_1 p0 p2)), .val (.int (w0_2 p0 p3)), .val (.int (w0_3 p0 p4)), .val (.ref b41), .val (.ref b51), .unset] [])) _
              refine XS.iload X53.here hx rfl (hb hby at_158) rfl ?_
              show Steps p.tables e below (T53.setTop (mkF m 160 #[.val (.int p0), .val (.int p1), .val (.int p2), .val (.int p3), .val (.int p4), .val (.int (4 : Int32)), .val (.int (w0_0 p0 p1)), .val (.int (w0_1 p0 p2)), .val (.int (w0_2 p0 p3)), .val (.int (w0_3 p0 p4)), .val (.ref b41), .val (.ref b51), .unset] [(.int (4 : Int32))])) _
              refine XS.iconst X53.here hx rfl (hb hby at_160) ?_
              show Steps p.tables e below (T53.setTop (mkF m 161 #[.val (.int p0), .val (.int p1), .val (.int p2), .val (.int p3), .val (.int p4), .val (.int (4 : Int32)), .val (.int (w0_0 p0 p1)), .val (.int (w0_1 p0 p2)), .val (.int (w0_2 p0 p3)), .val (.int (w0_3 p0 p4)), .val (.ref b41), .val (.ref b51), .unset] [(.int (3 : Int32)), (.int (4 : Int32))])) _
              refine XS.icmpNo X53.here hx rfl (hb hby at_161) rfl (flt (by decide)).1 ?_
              show Steps p.tables e below (T53.setTop (mkF m 164 #[.val (.int p0), .val (.int p1), .val (.int p2), .val (.int p3), .val (.int p4), .val (.int (4 : Int32)), .val (.int (w0_0 p0 p1)), .val (.int (w0_1 p0 p2)), .val (.int (w0_2 p0 p3)), .val (.int (w0_3 p0 p4)), .val (.ref b41), .val (.ref b51), .unset] [])) _
              refine XS.iload X53.here hx rfl (hb hby at_164) rfl ?_
              show Steps p.tables e below (T53.setTop (mkF m 166 #[.val (.int p0), .val (.int p1), .val (.int p2), .val (.int p3), .val (.int p4), .val (.int (4 : Int32)), .val (.int (w0_0 p0 p1)), .val (.int (w0_1 p0 p2)), .val (.int (w0_2 p0 p3)), .val (.int (w0_3 p0 p4)), .val (.ref b41), .val (.ref b51), .unset] [(.int (w0_2 p0 p3))])) _
              refine XS.iconst X53.here hx rfl (hb hby at_166) ?_
              show Steps p.tables e below (T53.setTop (mkF m 167 #[.val (.int p0), .val (.int p1), .val (.int p2), .val (.int p3), .val (.int p4), .val (.int (4 : Int32)), .val (.int (w0_0 p0 p1)), .val (.int (w0_1 p0 p2)), .val (.int (w0_2 p0 p3)), .val (.int (w0_3 p0 p4)), .val (.ref b41), .val (.ref b51), .unset] [(.int (1 : Int32)), (.int (w0_2 p0 p3))])) _
              have sg167 : Steps p.tables e below (T53.setTop (mkF m 187 #[.val (.int p0), .val (.int p1), .val (.int p2), .val (.int p3), .val (.int p4), .val (.int (4 : Int32)), .val (.int (w0_0 p0 p1)), .val (.int (w0_1 p0 p2)), .val (.int (w0_2 p0 p3)), .val (.int (w0_3 p0 p4)), .val (.ref b41), .val (.ref b51), .unset] [(.int (if (w0_2 p0 p3) = (1 : Int32) then (w0_10 p0 p4) else (0 : Int32)))])) tZ → Steps p.tables e below (T53.setTop (mkF m 167 #[.val (.int p0), .val (.int p1), .val (.int p2), .val (.int p3), .val (.int p4), .val (.int (4 : Int32)), .val (.int (w0_0 p0 p1)), .val (.int (w0_1 p0 p2)), .val (.int (w0_2 p0 p3)), .val (.int (w0_3 p0 p4)), .val (.ref b41), .val (.ref b51), .unset] [(.int (1 : Int32)), (.int (w0_2 p0 p3))])) tZ := by
                intro kj
                by_cases hc167 : (w0_2 p0 p3) = (1 : Int32)
                · try simp only [if_pos hc167] at kj
                  refine XS.icmpNo X53.here hx rfl (hb hby at_167) rfl (teq hc167).2 ?_
                  show Steps p.tables e below (T53.setTop (mkF m 170 #[.val (.int p0), .val (.int p1), .val (.int p2), .val (.int p3), .val (.int p4), .val (.int (4 : Int32)), .val (.int (w0_0 p0 p1)), .val (.int (w0_1 p0 p2)), .val (.int (w0_2 p0 p3)), .val (.int (w0_3 p0 p4)), .val (.ref b41), .val (.ref b51), .unset] [])) _
                  refine XS.iload X53.here hx rfl (hb hby at_170) rfl ?_
                  show Steps p.tables e below (T53.setTop (mkF m 172 #[.val (.int p0), .val (.int p1), .val (.int p2), .val (.int p3), .val (.int p4), .val (.int (4 : Int32)), .val (.int (w0_0 p0 p1)), .val (.int (w0_1 p0 p2)), .val (.int (w0_2 p0 p3)), .val (.int (w0_3 p0 p4)), .val (.ref b41), .val (.ref b51), .unset] [(.int (4 : Int32))])) _
                  refine XS.iconst X53.here hx rfl (hb hby at_172) ?_
                  show Steps p.tables e below (T53.setTop (mkF m 173 #[.val (.int p0), .val (.int p1), .val (.int p2), .val (.int p3), .val (.int p4), .val (.int (4 : Int32)), .val (.int (w0_0 p0 p1)), .val (.int (w0_1 p0 p2)), .val (.int (w0_2 p0 p3)), .val (.int (w0_3 p0 p4)), .val (.ref b41), .val (.ref b51), .unset] [(.int (4 : Int32)), (.int (4 : Int32))])) _
                  refine XS.icmpNo X53.here hx rfl (hb hby at_173) rfl (flt (by decide)).1 ?_
                  show Steps p.tables e below (T53.setTop (mkF m 176 #[.val (.int p0), .val (.int p1), .val (.int p2), .val (.int p3), .val (.int p4), .val (.int (4 : Int32)), .val (.int (w0_0 p0 p1)), .val (.int (w0_1 p0 p2)), .val (.int (w0_2 p0 p3)), .val (.int (w0_3 p0 p4)), .val (.ref b41), .val (.ref b51), .unset] [])) _
                  refine XS.iload X53.here hx rfl (hb hby at_176) rfl ?_
                  show Steps p.tables e below (T53.setTop (mkF m 178 #[.val (.int p0), .val (.int p1), .val (.int p2), .val (.int p3), .val (.int p4), .val (.int (4 : Int32)), .val (.int (w0_0 p0 p1)), .val (.int (w0_1 p0 p2)), .val (.int (w0_2 p0 p3)), .val (.int (w0_3 p0 p4)), .val (.ref b41), .val (.ref b51), .unset] [(.int (w0_3 p0 p4))])) _
                  refine XS.iconst X53.here hx rfl (hb hby at_178) ?_
                  show Steps p.tables e below (T53.setTop (mkF m 179 #[.val (.int p0), .val (.int p1), .val (.int p2), .val (.int p3), .val (.int p4), .val (.int (4 : Int32)), .val (.int (w0_0 p0 p1)), .val (.int (w0_1 p0 p2)), .val (.int (w0_2 p0 p3)), .val (.int (w0_3 p0 p4)), .val (.ref b41), .val (.ref b51), .unset] [(.int (1 : Int32)), (.int (w0_3 p0 p4))])) _
                  have sg179 : Steps p.tables e below (T53.setTop (mkF m 187 #[.val (.int p0), .val (.int p1), .val (.int p2), .val (.int p3), .val (.int p4), .val (.int (4 : Int32)), .val (.int (w0_0 p0 p1)), .val (.int (w0_1 p0 p2)), .val (.int (w0_2 p0 p3)), .val (.int (w0_3 p0 p4)), .val (.ref b41), .val (.ref b51), .unset] [(.int (if (w0_3 p0 p4) = (1 : Int32) then (1 : Int32) else (0 : Int32)))])) tZ → Steps p.tables e below (T53.setTop (mkF m 179 #[.val (.int p0), .val (.int p1), .val (.int p2), .val (.int p3), .val (.int p4), .val (.int (4 : Int32)), .val (.int (w0_0 p0 p1)), .val (.int (w0_1 p0 p2)), .val (.int (w0_2 p0 p3)), .val (.int (w0_3 p0 p4)), .val (.ref b41), .val (.ref b51), .unset] [(.int (1 : Int32)), (.int (w0_3 p0 p4))])) tZ := by
                    intro kj
                    by_cases hc179 : (w0_3 p0 p4) = (1 : Int32)
                    · try simp only [if_pos hc179] at kj
                      refine XS.icmpNo X53.here hx rfl (hb hby at_179) rfl (teq hc179).2 ?_
                      show Steps p.tables e below (T53.setTop (mkF m 182 #[.val (.int p0), .val (.int p1), .val (.int p2), .val (.int p3), .val (.int p4), .val (.int (4 : Int32)), .val (.int (w0_0 p0 p1)), .val (.int (w0_1 p0 p2)), .val (.int (w0_2 p0 p3)), .val (.int (w0_3 p0 p4)), .val (.ref b41), .val (.ref b51), .unset] [])) _
                      refine XS.iconst X53.here hx rfl (hb hby at_182) ?_
                      show Steps p.tables e below (T53.setTop (mkF m 183 #[.val (.int p0), .val (.int p1), .val (.int p2), .val (.int p3), .val (.int p4), .val (.int (4 : Int32)), .val (.int (w0_0 p0 p1)), .val (.int (w0_1 p0 p2)), .val (.int (w0_2 p0 p3)), .val (.int (w0_3 p0 p4)), .val (.ref b41), .val (.ref b51), .unset] [(.int (1 : Int32))])) _
                      refine XS.goto X53.here hx rfl (pc0 := 183) (pc' := 187) rfl (hb hby at_183) (by decide) (by decide) ?_
                      show Steps p.tables e below (T53.setTop (mkF m 187 #[.val (.int p0), .val (.int p1), .val (.int p2), .val (.int p3), .val (.int p4), .val (.int (4 : Int32)), .val (.int (w0_0 p0 p1)), .val (.int (w0_1 p0 p2)), .val (.int (w0_2 p0 p3)), .val (.int (w0_3 p0 p4)), .val (.ref b41), .val (.ref b51), .unset] [(.int (1 : Int32))])) _
                      exact kj
                    · try simp only [if_neg hc179] at kj
                      refine XS.icmpYes X53.here hx rfl (pc0 := 179) (pc' := 186) rfl (hb hby at_179) rfl (feq hc179).2 (by decide) (by decide) ?_
                      show Steps p.tables e below (T53.setTop (mkF m 186 #[.val (.int p0), .val (.int p1), .val (.int p2), .val (.int p3), .val (.int p4), .val (.int (4 : Int32)), .val (.int (w0_0 p0 p1)), .val (.int (w0_1 p0 p2)), .val (.int (w0_2 p0 p3)), .val (.int (w0_3 p0 p4)), .val (.ref b41), .val (.ref b51), .unset] [])) _
                      refine XS.iconst X53.here hx rfl (hb hby at_186) ?_
                      show Steps p.tables e below (T53.setTop (mkF m 187 #[.val (.int p0), .val (.int p1), .val (.int p2), .val (.int p3), .val (.int p4), .val (.int (4 : Int32)), .val (.int (w0_0 p0 p1)), .val (.int (w0_1 p0 p2)), .val (.int (w0_2 p0 p3)), .val (.int (w0_3 p0 p4)), .val (.ref b41), .val (.ref b51), .unset] [(.int (0 : Int32))])) _
                      exact kj
                  refine sg179 ?_
                  show Steps p.tables e below (T53.setTop (mkF m 187 #[.val (.int p0), .val (.int p1), .val (.int p2), .val (.int p3), .val (.int p4), .val (.int (4 : Int32)), .val (.int (w0_0 p0 p1)), .val (.int (w0_1 p0 p2)), .val (.int (w0_2 p0 p3)), .val (.int (w0_3 p0 p4)), .val (.ref b41), .val (.ref b51), .unset] [(.int (w0_10 p0 p4))])) _
                  exact kj
                · try simp only [if_neg hc167] at kj
                  refine XS.icmpYes X53.here hx rfl (pc0 := 167) (pc' := 186) rfl (hb hby at_167) rfl (feq hc167).2 (by decide) (by decide) ?_
                  show Steps p.tables e below (T53.setTop (mkF m 186 #[.val (.int p0), .val (.int p1), .val (.int p2), .val (.int p3), .val (.int p4), .val (.int (4 : Int32)), .val (.int (w0_0 p0 p1)), .val (.int (w0_1 p0 p2)), .val (.int (w0_2 p0 p3)), .val (.int (w0_3 p0 p4)), .val (.ref b41), .val (.ref b51), .unset] [])) _
                  refine XS.iconst X53.here hx rfl (hb hby at_186) ?_
                  show Steps p.tables e below (T53.setTop (mkF m 187 #[.val (.int p0), .val (.int p1), .val (.int p2), .val (.int p3), .val (.int p4), .val (.int (4 : Int32)), .val (.int (w0_0 p0 p1)), .val (.int (w0_1 p0 p2)), .val (.int (w0_2 p0 p3)), .val (.int (w0_3 p0 p4)), .val (.ref b41), .val (.ref b51), .unset] [(.int (0 : Int32))])) _
                  exact kj
              refine sg167 ?_
              show Steps p.tables e below (T53.setTop (mkF m 187 #[.val (.int p0), .val (.int p1), .val (.int p2), .val (.int p3), .val (.int p4), .val (.int (4 : Int32)), .val (.int (w0_0 p0 p1)), .val (.int (w0_1 p0 p2)), .val (.int (w0_2 p0 p3)), .val (.int (w0_3 p0 p4)), .val (.ref b41), .val (.ref b51), .unset] [(.int (w0_11 p0 p3 p4))])) _
              exact kj
            · try simp only [if_neg hc155] at kj
              refine XS.icmpYes X53.here hx rfl (pc0 := 155) (pc' := 186) rfl (hb hby at_155) rfl (feq hc155).2 (by decide) (by decide) ?_
              show Steps p.tables e below (T53.setTop (mkF m 186 #[.val (.int p0), .val (.int p1), .val (.int p2), .val (.int p3), .val (.int p4), .val (.int (4 : Int32)), .val (.int (w0_0 p0 p1)), .val (.int (w0_1 p0 p2)), .val (.int (w0_2 p0 p3)), .val (.int (w0_3 p0 p4)), .val (.ref b41), .val (.ref b51), .unset] [])) _
              refine XS.iconst X53.here hx rfl (hb hby at_186) ?_
              show Steps p.tables e below (T53.setTop (mkF m 187 #[.val (.int p0), .val (.int p1), .val (.int p2), .val (.int p3), .val (.int p4), .val (.int (4 : Int32)), .val (.int (w0_0 p0 p1)), .val (.int (w0_1 p0 p2)), .val (.int (w0_2 p0 p3)), .val (.int (w0_3 p0 p4)), .val (.ref b41), .val (.ref b51), .unset] [(.int (0 : Int32))])) _
              exact kj
          refine sg155 ?_
          show Steps p.tables e below (T53.setTop (mkF m 187 #[.val (.int p0), .val (.int p1), .val (.int p2), .val (.int p3), .val (.int p4), .val (.int (4 : Int32)), .val (.int (w0_0 p0 p1)), .val (.int (w0_1 p0 p2)), .val (.int (w0_2 p0 p3)), .val (.int (w0_3 p0 p4)), .val (.ref b41), .val (.ref b51), .unset] [(.int (w0_12 p0 p2 p3 p4))])) _
          exact kj
        · try simp only [if_neg hc143] at kj
          refine XS.icmpYes X53.here hx rfl (pc0 := 143) (pc' := 186) rfl (hb hby at_143) rfl (feq hc143).2 (by decide) (by decide) ?_
          show Steps p.tables e below (T53.setTop (mkF m 186 #[.val (.int p0), .val (.int p1), .val (.int p2), .val (.int p3), .val (.int p4), .val (.int (4 : Int32)), .val (.int (w0_0 p0 p1)), .val (.int (w0_1 p0 p2)), .val (.int (w0_2 p0 p3)), .val (.int (w0_3 p0 p4)), .val (.ref b41), .val (.ref b51), .unset] [])) _
          refine XS.iconst X53.here hx rfl (hb hby at_186) ?_
          show Steps p.tables e below (T53.setTop (mkF m 187 #[.val (.int p0), .val (.int p1), .val (.int p2), .val (.int p3), .val (.int p4), .val (.int (4 : Int32)), .val (.int (w0_0 p0 p1)), .val (.int (w0_1 p0 p2)), .val (.int (w0_2 p0 p3)), .val (.int (w0_3 p0 p4)), .val (.ref b41), .val (.ref b51), .unset] [(.int (0 : Int32))])) _
          exact kj
      refine sg143 ?_
      show Steps p.tables e below (T53.setTop (mkF m 187 #[.val (.int p0), .val (.int p1), .val (.int p2), .val (.int p3), .val (.int p4), .val (.int (4 : Int32)), .val (.int (w0_0 p0 p1)), .val (.int (w0_1 p0 p2)), .val (.int (w0_2 p0 p3)), .val (.int (w0_3 p0 p4)), .val (.ref b41), .val (.ref b51), .unset] [(.int (w0_13 p0 p1 p2 p3 p4))])) _
      refine XS.istore X53.here hx rfl (hb hby at_187) rfl (l' := #[.val (.int p0), .val (.int p1), .val (.int p2), .val (.int p3), .val (.int p4), .val (.int (4 : Int32)), .val (.int (w0_0 p0 p1)), .val (.int (w0_1 p0 p2)), .val (.int (w0_2 p0 p3)), .val (.int (w0_3 p0 p4)), .val (.ref b41), .val (.ref b51), .val (.int (w0_13 p0 p1 p2 p3 p4))]) rfl ?_
      show Steps p.tables e below (T53.setTop (mkF m 189 #[.val (.int p0), .val (.int p1), .val (.int p2), .val (.int p3), .val (.int p4), .val (.int (4 : Int32)), .val (.int (w0_0 p0 p1)), .val (.int (w0_1 p0 p2)), .val (.int (w0_2 p0 p3)), .val (.int (w0_3 p0 p4)), .val (.ref b41), .val (.ref b51), .val (.int (w0_13 p0 p1 p2 p3 p4))] [])) _
      refine XS.aload X53.here hx rfl (hb hby at_189) rfl rfl ?_
      show Steps p.tables e below (T53.setTop (mkF m 191 #[.val (.int p0), .val (.int p1), .val (.int p2), .val (.int p3), .val (.int p4), .val (.int (4 : Int32)), .val (.int (w0_0 p0 p1)), .val (.int (w0_1 p0 p2)), .val (.int (w0_2 p0 p3)), .val (.int (w0_3 p0 p4)), .val (.ref b41), .val (.ref b51), .val (.int (w0_13 p0 p1 p2 p3 p4))] [(.ref b51)])) _
      exact kZ
    obtain ⟨cq55, kq55, q55a, q55b, q55c⟩ := isOf hZ rfl f53_0
    obtain ⟨_, _, ⟨T55, L55, k55, n55⟩, -, X55, ⟨Lc55, hQ55, l55, y55, z55⟩, st55⟩ := X53.virtualBack hx (y := (⟨"com/example/ltlconv/ltlconv/dra/RabinDraft", "isRabin", "()Z"⟩ : MethodName)) (z := (⟨"com/example/ltlconv/ltlconv/dra/RabinDraft", "isRabin", "()Z"⟩ : MethodName)) hown (mvT hZ (hw _ (List.mem_of_getElem? (i := 49) rfl))) (mvT hZ (hw _ (List.mem_of_getElem? (i := 50) rfl))) (notFace_of_selects (args := #[]) (mvT hZ (hw _ (List.mem_of_getElem? (i := 52) rfl)))) (mvT hZ (hw _ (List.mem_of_getElem? (i := 52) rfl))) (mvT hZ (hw _ (List.mem_of_getElem? (i := 51) rfl))) (by decide) (backOf (W := 0) (rm6n4 l Z a0 hw [] b51 b53_0 (up (up (up (up (fun _ => (0 : Int32)) (0 : Int32).toNatClampNeg (w0_0 p0 p1)) (1 : Int32).toNatClampNeg (w0_1 p0 p2)) (2 : Int32).toNatClampNeg (w0_2 p0 p3)) (3 : Int32).toNatClampNeg (w0_3 p0 p4)) T53.heap n0 Z53 f53_1 f53_5) hZ (hw _ (List.mem_of_getElem? (i := 53) rfl)) (hw _ (List.mem_of_getElem? (i := 3) rfl)) (by decide) (by decide)) q55a q55c (g := (mkF m 191 #[.val (.int p0), .val (.int p1), .val (.int p2), .val (.int p3), .val (.int p4), .val (.int (4 : Int32)), .val (.int (w0_0 p0 p1)), .val (.int (w0_1 p0 p2)), .val (.int (w0_2 p0 p3)), .val (.int (w0_3 p0 p4)), .val (.ref b41), .val (.ref b51), .val (.int (w0_13 p0 p1 p2 p3 p4))] [(.ref b51)])) rfl (by rw [hml]; rfl) (Steps.refl _) (argsL := []) (rest := []) (lenOf pd_3 rfl) rfl (by show 2 * 0 + _ ≤ _; exact Nat.le_of_eq rfl) (hb hby at_191) (fun _ _ => ⟨rfl, rfl, (by decide : 0 + 1 + 1 + 3 + 0 ≤ _), (by decide : 0 + 4 + 4 + 11 + 0 ≤ _)⟩)
    dsimp only [Pt.U, Pt.locs, Pt.cells, Pt.slots] at X55 l55 y55 z55 st55 hQ55
    subst l55 y55 z55
    obtain ⟨rfl, N55q, e55⟩ := hQ55
    have N55 := Fr.app N53 N55q
    refine Go.via (fun t k => st55.trans k) ?_
    show Go p e below _ (T55.setTop (mkF m 194 #[.val (.int p0), .val (.int p1), .val (.int p2), .val (.int p3), .val (.int p4), .val (.int (4 : Int32)), .val (.int (w0_0 p0 p1)), .val (.int (w0_1 p0 p2)), .val (.int (w0_2 p0 p3)), .val (.int (w0_3 p0 p4)), .val (.ref b41), .val (.ref b51), .val (.int (w0_13 p0 p1 p2 p3 p4))] [(.int (f6n4 b51 b53_0 (up (up (up (up (fun _ => (0 : Int32)) (0 : Int32).toNatClampNeg (w0_0 p0 p1)) (1 : Int32).toNatClampNeg (w0_1 p0 p2)) (2 : Int32).toNatClampNeg (w0_2 p0 p3)) (3 : Int32).toNatClampNeg (w0_3 p0 p4))))]))
    refine Go.via (T' := T55.setTop (mkF m 204 #[.val (.int p0), .val (.int p1), .val (.int p2), .val (.int p3), .val (.int p4), .val (.int (4 : Int32)), .val (.int (w0_0 p0 p1)), .val (.int (w0_1 p0 p2)), .val (.int (w0_2 p0 p3)), .val (.int (w0_3 p0 p4)), .val (.ref b41), .val (.ref b51), .val (.int (w0_13 p0 p1 p2 p3 p4))] [(.int (1 : Int32))])) (fun tZ kZ => ?_) ?_
    · show Steps p.tables e below (T55.setTop (mkF m 194 #[.val (.int p0), .val (.int p1), .val (.int p2), .val (.int p3), .val (.int p4), .val (.int (4 : Int32)), .val (.int (w0_0 p0 p1)), .val (.int (w0_1 p0 p2)), .val (.int (w0_2 p0 p3)), .val (.int (w0_3 p0 p4)), .val (.ref b41), .val (.ref b51), .val (.int (w0_13 p0 p1 p2 p3 p4))] [(.int (f6n4 b51 b53_0 (up (up (up (up (fun _ => (0 : Int32)) (0 : Int32).toNatClampNeg (w0_0 p0 p1)) (1 : Int32).toNatClampNeg (w0_1 p0 p2)) (2 : Int32).toNatClampNeg (w0_2 p0 p3)) (3 : Int32).toNatClampNeg (w0_3 p0 p4))))])) _
      refine XS.iload X55.here hx rfl (hb hby at_194) rfl ?_
      show Steps p.tables e below (T55.setTop (mkF m 196 #[.val (.int p0), .val (.int p1), .val (.int p2), .val (.int p3), .val (.int p4), .val (.int (4 : Int32)), .val (.int (w0_0 p0 p1)), .val (.int (w0_1 p0 p2)), .val (.int (w0_2 p0 p3)), .val (.int (w0_3 p0 p4)), .val (.ref b41), .val (.ref b51), .val (.int (w0_13 p0 p1 p2 p3 p4))] [(.int (w0_13 p0 p1 p2 p3 p4)), (.int (f6n4 b51 b53_0 (up (up (up (up (fun _ => (0 : Int32)) (0 : Int32).toNatClampNeg (w0_0 p0 p1)) (1 : Int32).toNatClampNeg (w0_1 p0 p2)) (2 : Int32).toNatClampNeg (w0_2 p0 p3)) (3 : Int32).toNatClampNeg (w0_3 p0 p4))))])) _
      refine XS.icmpNo X55.here hx rfl (hb hby at_196) rfl (teq (by first | (simp [f6n4, up, nar, Int32.toNatClampNeg]; done) | (simp [f6n4, up, nar, Int32.toNatClampNeg]; rfl))).2 ?_
      show Steps p.tables e below (T55.setTop (mkF m 199 #[.val (.int p0), .val (.int p1), .val (.int p2), .val (.int p3), .val (.int p4), .val (.int (4 : Int32)), .val (.int (w0_0 p0 p1)), .val (.int (w0_1 p0 p2)), .val (.int (w0_2 p0 p3)), .val (.int (w0_3 p0 p4)), .val (.ref b41), .val (.ref b51), .val (.int (w0_13 p0 p1 p2 p3 p4))] [])) _
      refine XS.iconst X55.here hx rfl (hb hby at_199) ?_
      show Steps p.tables e below (T55.setTop (mkF m 200 #[.val (.int p0), .val (.int p1), .val (.int p2), .val (.int p3), .val (.int p4), .val (.int (4 : Int32)), .val (.int (w0_0 p0 p1)), .val (.int (w0_1 p0 p2)), .val (.int (w0_2 p0 p3)), .val (.int (w0_3 p0 p4)), .val (.ref b41), .val (.ref b51), .val (.int (w0_13 p0 p1 p2 p3 p4))] [(.int (1 : Int32))])) _
      refine XS.goto X55.here hx rfl (pc0 := 200) (pc' := 204) rfl (hb hby at_200) (by decide) (by decide) ?_
      show Steps p.tables e below (T55.setTop (mkF m 204 #[.val (.int p0), .val (.int p1), .val (.int p2), .val (.int p3), .val (.int p4), .val (.int (4 : Int32)), .val (.int (w0_0 p0 p1)), .val (.int (w0_1 p0 p2)), .val (.int (w0_2 p0 p3)), .val (.int (w0_3 p0 p4)), .val (.ref b41), .val (.ref b51), .val (.int (w0_13 p0 p1 p2 p3 p4))] [(.int (1 : Int32))])) _
      exact kZ
    refine Go.retN X55 hx Bd.notSynchronized (t := .boolean) Bd.returns (by simp) (hb hby at_204) (by decide) (by decide) ?_
    exact ⟨rfl, N55⟩
set_option maxRecDepth 65536 in
set_option maxHeartbeats 40000000 in
theorem comes_1 {Post : Tables → Env → Array Value → State → Outcome → State → Prop} (hpost : ∀ tb e args s v u, (limb_1_1.after args s (.returned v) u = true ∧ limb_1_2.after args s (.returned v) u = true ∧ True) → FrameEnd s (.returned v) u (Jvm.fieldLocs frame_1_writes args s ++ Jvm.arrayLocs frame_1_arrays args s ++ Jvm.staticLocs frame_1_statics s) 24 128 → Post tb e args s (.returned v) u) :
    ArmFor flags0 classFile x code maxLocals ret World_1 tables_1 room_1 Calls_1 rest_1 Pre_1 Post := by
  intro l hfl _ _ p e ha hc hk s m args below hf hA hF happ hP
  obtain ⟨hcalls, hrest, hpre⟩ := hP
  obtain ⟨-, -, -, hnamed, -, -, -, hat⟩ := (Spec.applies_iff hf).mp happ
  obtain ⟨hg, hn⟩ := and_e (Cond.before_iff.mp (show (Jvm.Cond.and given_1 narrow_1).before args s = true from hpre))
  obtain ⟨g1, g2⟩ := and_e hg
  obtain ⟨g3, g4⟩ := and_e g2
  obtain ⟨g5, g6⟩ := and_e g4
  obtain ⟨g7, g8⟩ := and_e g6
  obtain ⟨g9, g10⟩ := and_e g8
  obtain ⟨w0, w1, w2, w3, w4, rfl⟩ : ∃ w0 w1 w2 w3 w4 : Value, args = #[w0, w1, w2, w3, w4] := by
    have hs : args.size = 5 := by simpa [Cond.value, given_1] using g1
    obtain ⟨L⟩ := args
    match L, hs with
    | [w0, w1, w2, w3, w4], _ => exact ⟨w0, w1, w2, w3, w4, rfl⟩
  have hw := fun d (hd : d ∈ tables_1) => atoms_spec (ws := Jvm.Cond.code x code maxLocals ret :: tables_1) hat d (List.mem_cons_of_mem _ hd)
  have hfit : Fit s := fun {y c} hc i hi => by
    obtain ⟨ha, rfl⟩ := Array.getElem?_eq_some_iff.mp hc
    have q := List.all_eq_true.mp ((Array.all_eq_true_iff_forall_mem.mp hF) _ (Array.getElem_mem ha)) i (List.mem_range.mpr hi)
    simpa [Array.getElem?_eq_getElem hi] using q
  obtain ⟨hsets, hown0⟩ := atoms_of _ (rest_1_c_eq ▸ (show rest_1_c.before _ s = true from hrest))
  have hr0 := Cond.before_iff.mp hown0
  obtain ⟨i0, ei0⟩ := is_v g3
  obtain rfl : w0 = (.int i0) := Option.some.inj ei0
  obtain ⟨i1, ei1⟩ := is_v g5
  obtain rfl : w1 = (.int i1) := Option.some.inj ei1
  obtain ⟨i2, ei2⟩ := is_v g7
  obtain rfl : w2 = (.int i2) := Option.some.inj ei2
  obtain ⟨i3, ei3⟩ := is_v g9
  obtain rfl : w3 = (.int i3) := Option.some.inj ei3
  obtain ⟨i4, ei4⟩ := is_v g10
  obtain rfl : w4 = (.int i4) := Option.some.inj ei4
  obtain ⟨aD, evD⟩ := exa_v (Cond.before_iff.mp (hsets _ (List.mem_of_getElem? (i := 7) rfl)))
  have SD : Sta s s.heap "java/util/ArrayList" "DEFAULTCAPACITY_EMPTY_ELEMENTDATA" "[Ljava/lang/Object;" (.ref aD) := Sta.start evD (Or.inr ⟨(hw _ (List.mem_of_getElem? (i := 12) rfl)), (hsets _ (List.mem_of_getElem? (i := 2) rfl))⟩)
  obtain ⟨n, o, h1, h2, h3, _, L, rfl, ⟨rfl, N⟩, hq⟩ := rm0 l s _ hw tables_1 i0 i1 i2 i3 i4 aD s.heap s.heap.size (Nat.le_refl _) SD (Old.start s) p e ha hc hk s m _ below hf ((Spec.applies_iff_loose hf).mp happ).1 ⟨rfl, State.Warmed39.refl s, rfl⟩ trivial
  refine ⟨n, _, h1, h2, h3, hpost _ _ _ _ _ _ ⟨Cond.after_iff.mpr rfl, Cond.after_iff.mpr (eq_i res_at (Term.int_eval (1)) rfl), trivial⟩ ⟨hq.1, hq.2.1, (hq.2.2.sift fun y hy => Or.inr (N y hy)).mono (by decide) (by decide)⟩⟩
theorem main_1_1 : Claimed_1_1 := comes_1 fun _ _ _ _ _ _ h hF => ⟨h.1, hF⟩
theorem main_1_2 : Claimed_1_2 := comes_1 fun _ _ _ _ _ _ h hF => ⟨h.2.1, hF⟩
end Jvm.Pilot.@@N@@
namespace Jvm.Pilot.@@N@@
open Jvm Jvm.ClassFile Sem Op Lib Jvm.Free Jvm.Stand Jvm.Pilot.@@N@@.Jvm.D
/-! MADE BY PROGRAM (witnessworld.py) out of the Statement's table words and the real class files: 18 classes; the members and pool entries that the words name. The judged class is class 1, her method 1. -/
namespace start1
open Jvm.ClassFile
def u (s : String) : CpInfo := .utf8 (stringToUtf16 s)
/-- a pool by its gaps: so many unusable entries, then the entry; so many at the end -/
def gap : Nat → List CpInfo → List CpInfo
  | 0, r => r
  | n + 1, r => .unusable :: gap n r
def poolList (es : List (Nat × CpInfo)) (last : Nat) : List CpInfo := es.foldr (fun e r => gap e.1 (e.2 :: r)) (gap last [])
def pool (es : List (Nat × CpInfo)) (last : Nat) : Array CpInfo := ⟨poolList es last⟩
def fileOf (pool : Array CpInfo) (this : Nat) (attrs : Array Attribute := #[]) (ms : Array MethodInfo := #[]) (fl : Nat := 33) (sup : Nat := 0) (ifs : Array Nat := #[]) (fds : Array FieldInfo := #[]) : ClassFile where
  minorVersion := 0
  majorVersion := 65
  constantPool := pool
  accessFlags := fl
  thisClass := this
  superClass := sup
  interfaces := ifs
  fields := fds
  methods := ms
  attributes := attrs
def plain (name : String) (sup : Option ClassId) : Class where
  name := name
  kind := .ordinary
  loader := none
  accessFlags := 33
  super := sup
  interfaces := #[]
  cf := none
  fields := #[]
  methods := #[]
  instanceTypes := #[]
  staticTypes := #[]
  resolved := #[]
  callSites := []
  init := .initialized
  statics := none
  mirror := none

def pool0 : Array CpInfo := pool [(5, u "<init>"), (0, u "()V"), (1, .class_ 10), (1, u "java/lang/Object"), (85, u "clone"), (0, u "()Ljava/lang/Object;")] 26

def k0c0 : Code := { maxStack := 0, maxLocals := 1, code := object_method_1_code, exceptionTable := #[], attributes := #[] }
def k0m0 : Method := { name := "<init>", desc := "()V", sig := { parameters := [], returnType := none }, accessFlags := 1, code := some k0c0 }
def k0m1 : Method := { name := "clone", desc := "()Ljava/lang/Object;", sig := { parameters := [], returnType := some (.object "java/lang/Object") }, accessFlags := 260, code := none }
/-- java/lang/Object -/
def k0 : Class := { plain "java/lang/Object" none with
  accessFlags := 33
  interfaces := #[]
  cf := some (fileOf pool0 8 #[] #[{ accessFlags := 1, nameIndex := 5, descriptorIndex := 6, attributes := #[] }, { accessFlags := 260, nameIndex := 96, descriptorIndex := 97, attributes := #[] }] 33 0 #[] #[])
  fields := #[]
  methods := #[k0m0, k0m1]
  instanceTypes := #[]
  staticTypes := #[]
  resolved := Array.replicate 124 none
  statics := none }

def pool1 : Array CpInfo := pool [(2, .class_ 4), (1, u "java/lang/Object"), (0, u "<init>"), (0, u "()V"), (0, .class_ 8), (0, u "com/example/ltlconv/ltlconv/dra/RabinDraft"), (0, .methodref 7 10), (0, .nameAndType 5 11), (0, u "([I)V"), (0, .methodref 7 13), (0, .nameAndType 14 15), (0, u "isRabin"), (0, u "()Z"), (0, .class_ 17), (0, u "com/example/ltlconv/ltlconv/dra/RabinDraftIsRabinPinLaw"), (2, u "law"), (0, u "(IIIII)Z")] 5

def k1m0 : Method := { name := "<init>", desc := "()V", sig := { parameters := [], returnType := none }, accessFlags := 1, code := none }
def k1c1 : Code := { maxStack := 3, maxLocals := 13, code := code, exceptionTable := #[], attributes := #[] }
def k1m1 : Method := { name := "law", desc := "(IIIII)Z", sig := { parameters := [.int, .int, .int, .int, .int], returnType := some .boolean }, accessFlags := 9, code := some k1c1 }
/-- com/example/ltlconv/ltlconv/dra/RabinDraftIsRabinPinLaw -/
def k1 : Class := { plain "com/example/ltlconv/ltlconv/dra/RabinDraftIsRabinPinLaw" (some 0) with
  accessFlags := 49
  interfaces := #[]
  cf := some (fileOf pool1 16 #[] #[{ accessFlags := 1, nameIndex := 5, descriptorIndex := 6, attributes := #[] }, { accessFlags := 9, nameIndex := 20, descriptorIndex := 21, attributes := #[] }] 49 2 #[] #[])
  fields := #[]
  methods := #[k1m0, k1m1]
  instanceTypes := #[]
  staticTypes := #[]
  resolved := Array.replicate 27 none
  statics := none }

def pool2 : Array CpInfo := pool [(1, .methodref 2 3), (0, .class_ 4), (0, .nameAndType 5 6), (0, u "java/lang/Object"), (0, u "<init>"), (0, u "()V"), (0, .class_ 8), (0, u "java/util/ArrayList"), (0, .methodref 7 3), (0, .fieldref 11 12), (0, .class_ 13), (0, .nameAndType 14 15), (0, u "com/example/ltlconv/ltlconv/dra/RabinDraft"), (0, u "transitions"), (0, u "Ljava/util/List;"), (0, .methodref 17 18), (0, .class_ 19), (0, .nameAndType 20 21), (0, u "[I"), (0, u "clone"), (0, u "()Ljava/lang/Object;"), (0, .fieldref 11 23), (0, .nameAndType 24 19), (0, u "infiniteCounts"), (0, .fieldref 11 26), (0, .nameAndType 27 19), (0, u "finiteSets"), (16, u "start"), (0, u "I"), (1, .class_ 48), (0, u "com/example/ltlconv/ltlconv/dra/RabinDraft$Transition"), (5, u "([I)V"), (24, u "()Z"), (25, u "isRabin"), (10, .class_ 117), (0, u "com/example/ltlconv/ltlconv/dra/RabinDraft$Key")] 184

def k2c0 : Code := { maxStack := 4, maxLocals := 4, code := prog_52_method_1_code, exceptionTable := #[], attributes := #[] }
def k2m0 : Method := { name := "<init>", desc := "([I)V", sig := { parameters := [(.array .int)], returnType := none }, accessFlags := 0, code := some k2c0 }
def k2c1 : Code := { maxStack := 2, maxLocals := 5, code := prog_52_method_14_code, exceptionTable := #[], attributes := #[] }
def k2m1 : Method := { name := "isRabin", desc := "()Z", sig := { parameters := [], returnType := some .boolean }, accessFlags := 0, code := some k2c1 }
/-- com/example/ltlconv/ltlconv/dra/RabinDraft -/
def k2 : Class := { plain "com/example/ltlconv/ltlconv/dra/RabinDraft" (some 0) with
  accessFlags := 48
  interfaces := #[]
  cf := some (fileOf pool2 11 #[.nestMembers #[47, 116]] #[{ accessFlags := 0, nameIndex := 5, descriptorIndex := 54, attributes := #[] }, { accessFlags := 0, nameIndex := 105, descriptorIndex := 79, attributes := #[] }] 48 2 #[] #[{ accessFlags := 18, nameIndex := 14, descriptorIndex := 15, attributes := #[] }, { accessFlags := 18, nameIndex := 24, descriptorIndex := 19, attributes := #[] }, { accessFlags := 18, nameIndex := 27, descriptorIndex := 19, attributes := #[] }, { accessFlags := 2, nameIndex := 44, descriptorIndex := 45, attributes := #[] }])
  fields := #[{ name := "transitions", type := (.object "java/util/List"), accessFlags := 18, slot := 0, constantValue := 0 }, { name := "infiniteCounts", type := (.array .int), accessFlags := 18, slot := 1, constantValue := 0 }, { name := "finiteSets", type := (.array .int), accessFlags := 18, slot := 2, constantValue := 0 }, { name := "start", type := .int, accessFlags := 2, slot := 3, constantValue := 0 }]
  methods := #[k2m0, k2m1]
  instanceTypes := #[(.object "java/util/List"), (.array .int), (.array .int), .int]
  staticTypes := #[]
  resolved := Array.replicate 302 none
  statics := none }

def pool3 : Array CpInfo := pool [(8, .class_ 10), (1, u "java/lang/Iterable"), (24, .class_ 36), (0, u "java/lang/Object")] 25

/-- java/lang/Iterable -/
def k3 : Class := { plain "java/lang/Iterable" (some 0) with
  accessFlags := 1537
  interfaces := #[]
  cf := some (fileOf pool3 8 #[] #[] 1537 35 #[] #[])
  fields := #[]
  methods := #[]
  instanceTypes := #[]
  staticTypes := #[]
  resolved := Array.replicate 62 none
  statics := none }

def pool4 : Array CpInfo := pool [(10, .class_ 12), (1, u "java/util/Collection"), (47, .class_ 61), (0, u "java/lang/Object"), (0, .class_ 63), (0, u "java/lang/Iterable")] 51

/-- java/util/Collection -/
def k4 : Class := { plain "java/util/Collection" (some 0) with
  accessFlags := 1537
  interfaces := #[3]
  cf := some (fileOf pool4 10 #[] #[] 1537 60 #[62] #[])
  fields := #[]
  methods := #[]
  instanceTypes := #[]
  staticTypes := #[]
  resolved := Array.replicate 115 none
  statics := none }

def pool5 : Array CpInfo := pool [(1, .methodref 2 3), (0, .class_ 4), (0, .nameAndType 5 6), (0, u "java/lang/Object"), (0, u "<init>"), (0, u "()V"), (1, .class_ 10), (1, u "java/util/AbstractCollection"), (66, .class_ 78), (0, u "java/util/Collection")] 81

def k5c0 : Code := { maxStack := 1, maxLocals := 1, code := jdk_22_method_1_code, exceptionTable := #[], attributes := #[] }
def k5m0 : Method := { name := "<init>", desc := "()V", sig := { parameters := [], returnType := none }, accessFlags := 4, code := some k5c0 }
/-- java/util/AbstractCollection -/
def k5 : Class := { plain "java/util/AbstractCollection" (some 0) with
  accessFlags := 1057
  interfaces := #[4]
  cf := some (fileOf pool5 8 #[] #[{ accessFlags := 4, nameIndex := 5, descriptorIndex := 6, attributes := #[] }] 1057 2 #[77] #[])
  fields := #[]
  methods := #[k5m0]
  instanceTypes := #[]
  staticTypes := #[]
  resolved := Array.replicate 160 none
  statics := none }

def pool6 : Array CpInfo := pool [(8, .class_ 10), (1, u "java/util/SequencedCollection"), (15, .class_ 27), (0, u "java/lang/Object"), (0, .class_ 29), (0, u "java/util/Collection")] 27

/-- java/util/SequencedCollection -/
def k6 : Class := { plain "java/util/SequencedCollection" (some 0) with
  accessFlags := 1537
  interfaces := #[4]
  cf := some (fileOf pool6 8 #[] #[] 1537 26 #[28] #[])
  fields := #[]
  methods := #[]
  instanceTypes := #[]
  staticTypes := #[]
  resolved := Array.replicate 57 none
  statics := none }

def pool7 : Array CpInfo := pool [(8, .class_ 10), (1, u "java/util/List"), (92, .class_ 104), (0, u "java/lang/Object"), (15, .class_ 121), (0, u "java/util/SequencedCollection")] 129

/-- java/util/List -/
def k7 : Class := { plain "java/util/List" (some 0) with
  accessFlags := 1537
  interfaces := #[6]
  cf := some (fileOf pool7 8 #[] #[] 1537 103 #[120] #[])
  fields := #[]
  methods := #[]
  instanceTypes := #[]
  staticTypes := #[]
  resolved := Array.replicate 251 none
  statics := none }

def pool8 : Array CpInfo := pool [(1, .methodref 2 3), (0, .class_ 4), (0, .nameAndType 5 6), (0, u "java/util/AbstractCollection"), (0, u "<init>"), (0, u "()V"), (0, .fieldref 8 9), (0, .class_ 10), (0, .nameAndType 11 12), (0, u "java/util/AbstractList"), (0, u "modCount"), (0, u "I"), (64, .class_ 78), (0, u "java/util/AbstractList$Itr"), (3, .class_ 83), (0, u "java/util/AbstractList$ListItr"), (9, .class_ 94), (0, u "java/util/AbstractList$RandomAccessSubList"), (3, .class_ 99), (0, u "java/util/AbstractList$SubList"), (33, .class_ 134), (0, u "java/util/List"), (73, .class_ 209), (0, u "java/util/AbstractList$SubList$1"), (0, .class_ 211), (0, u "java/util/AbstractList$RandomAccessSpliterator")] 6

def k8c0 : Code := { maxStack := 2, maxLocals := 1, code := jdk_39_method_1_code, exceptionTable := #[], attributes := #[] }
def k8m0 : Method := { name := "<init>", desc := "()V", sig := { parameters := [], returnType := none }, accessFlags := 4, code := some k8c0 }
/-- java/util/AbstractList -/
def k8 : Class := { plain "java/util/AbstractList" (some 5) with
  accessFlags := 1057
  interfaces := #[7]
  cf := some (fileOf pool8 8 #[.nestMembers #[93, 98, 208, 210, 82, 77]] #[{ accessFlags := 4, nameIndex := 5, descriptorIndex := 6, attributes := #[] }] 1057 2 #[133] #[{ accessFlags := 132, nameIndex := 11, descriptorIndex := 12, attributes := #[] }])
  fields := #[{ name := "modCount", type := .int, accessFlags := 132, slot := 0, constantValue := 0 }]
  methods := #[k8m0]
  instanceTypes := #[.int]
  staticTypes := #[]
  resolved := Array.replicate 218 none
  statics := none }

def pool9 : Array CpInfo := pool [(1, .class_ 2), (0, u "java/util/RandomAccess"), (0, .class_ 4), (0, u "java/lang/Object")] 2

/-- java/util/RandomAccess -/
def k9 : Class := { plain "java/util/RandomAccess" (some 0) with
  accessFlags := 1537
  interfaces := #[]
  cf := some (fileOf pool9 1 #[] #[] 1537 3 #[] #[])
  fields := #[]
  methods := #[]
  instanceTypes := #[]
  staticTypes := #[]
  resolved := Array.replicate 7 none
  statics := none }

def pool10 : Array CpInfo := pool [(1, .class_ 2), (0, u "java/lang/Cloneable"), (0, .class_ 4), (0, u "java/lang/Object")] 2

/-- java/lang/Cloneable -/
def k10 : Class := { plain "java/lang/Cloneable" (some 0) with
  accessFlags := 1537
  interfaces := #[]
  cf := some (fileOf pool10 1 #[] #[] 1537 3 #[] #[])
  fields := #[]
  methods := #[]
  instanceTypes := #[]
  staticTypes := #[]
  resolved := Array.replicate 7 none
  statics := none }

def pool11 : Array CpInfo := pool [(1, .class_ 2), (0, u "java/io/Serializable"), (0, .class_ 4), (0, u "java/lang/Object")] 2

/-- java/io/Serializable -/
def k11 : Class := { plain "java/io/Serializable" (some 0) with
  accessFlags := 1537
  interfaces := #[]
  cf := some (fileOf pool11 1 #[] #[] 1537 3 #[] #[])
  fields := #[]
  methods := #[]
  instanceTypes := #[]
  staticTypes := #[]
  resolved := Array.replicate 7 none
  statics := none }

def pool12 : Array CpInfo := pool [(1, .methodref 2 3), (0, .class_ 4), (0, .nameAndType 5 6), (0, u "java/util/AbstractList"), (0, u "<init>"), (0, u "()V"), (2, .fieldref 10 11), (0, .class_ 12), (0, .nameAndType 13 14), (0, u "java/util/ArrayList"), (0, u "elementData"), (0, u "[Ljava/lang/Object;"), (2, u "EMPTY_ELEMENTDATA"), (21, .fieldref 10 40), (0, .nameAndType 41 14), (0, u "DEFAULTCAPACITY_EMPTY_ELEMENTDATA"), (8, u "size"), (0, u "I"), (96, .class_ 149), (0, u "java/util/List"), (112, .class_ 263), (0, u "java/util/ArrayList$ListItr"), (3, .class_ 268), (0, u "java/util/ArrayList$Itr"), (7, .class_ 277), (0, u "java/util/ArrayList$SubList"), (12, .class_ 291), (0, u "java/util/ArrayList$ArrayListSpliterator"), (37, .class_ 330), (0, u "java/util/RandomAccess"), (0, .class_ 332), (0, u "java/lang/Cloneable"), (0, .class_ 334), (0, u "java/io/Serializable"), (0, u "serialVersionUID"), (0, u "J"), (3, u "DEFAULT_CAPACITY"), (159, .class_ 501), (0, u "java/util/ArrayList$SubList$2"), (0, .class_ 503), (0, u "java/util/ArrayList$SubList$1")] 5

def k12c0 : Code := { maxStack := 2, maxLocals := 1, code := jdk_38_method_2_code, exceptionTable := #[], attributes := #[] }
def k12m0 : Method := { name := "<init>", desc := "()V", sig := { parameters := [], returnType := none }, accessFlags := 1, code := some k12c0 }
/-- java/util/ArrayList -/
def k12 : Class := { plain "java/util/ArrayList" (some 8) with
  accessFlags := 33
  interfaces := #[7, 9, 10, 11]
  cf := some (fileOf pool12 10 #[.nestMembers #[290, 276, 500, 502, 262, 267]] #[{ accessFlags := 1, nameIndex := 5, descriptorIndex := 6, attributes := #[] }] 33 2 #[148, 329, 331, 333] #[{ accessFlags := 26, nameIndex := 335, descriptorIndex := 336, attributes := #[] }, { accessFlags := 26, nameIndex := 340, descriptorIndex := 51, attributes := #[] }, { accessFlags := 26, nameIndex := 17, descriptorIndex := 14, attributes := #[] }, { accessFlags := 26, nameIndex := 41, descriptorIndex := 14, attributes := #[] }, { accessFlags := 128, nameIndex := 13, descriptorIndex := 14, attributes := #[] }, { accessFlags := 2, nameIndex := 50, descriptorIndex := 51, attributes := #[] }])
  fields := #[{ name := "serialVersionUID", type := .long, accessFlags := 26, slot := 0, constantValue := 0 }, { name := "DEFAULT_CAPACITY", type := .int, accessFlags := 26, slot := 1, constantValue := 0 }, { name := "EMPTY_ELEMENTDATA", type := (.array (.object "java/lang/Object")), accessFlags := 26, slot := 2, constantValue := 0 }, { name := "DEFAULTCAPACITY_EMPTY_ELEMENTDATA", type := (.array (.object "java/lang/Object")), accessFlags := 26, slot := 3, constantValue := 0 }, { name := "elementData", type := (.array (.object "java/lang/Object")), accessFlags := 128, slot := 1, constantValue := 0 }, { name := "size", type := .int, accessFlags := 2, slot := 2, constantValue := 0 }]
  methods := #[k12m0]
  instanceTypes := #[.int, (.array (.object "java/lang/Object")), .int]
  staticTypes := #[.long, .int, (.array (.object "java/lang/Object")), (.array (.object "java/lang/Object"))]
  resolved := Array.replicate 509 none
  statics := some 0 }

/-- the primitive byte -/
def k13 : Class := { plain "byte" none with kind := .primitive 'B', accessFlags := 0x411 }
/-- [B -/
def k14 : Class := { plain "[B" (some 0) with kind := .array 13 .byte, interfaces := #[10, 11], accessFlags := 1041 }

/-- the primitive int -/
def k15 : Class := { plain "int" none with kind := .primitive 'I', accessFlags := 0x411 }
/-- [I -/
def k16 : Class := { plain "[I" (some 0) with kind := .array 15 .int, interfaces := #[10, 11], accessFlags := 1041 }

/-- [Ljava/lang/Object; -/
def k17 : Class := { plain "[Ljava/lang/Object;" (some 0) with kind := .array 0 (.object "java/lang/Object"), interfaces := #[10, 11], accessFlags := 1041 }

def heap : Heap := #[{ cls := 12, slots := #[.long 0, .int 0, .ref 1, .ref 2], vm := .statics 12 },
  { cls := 17, slots := #[], vm := .none },
  { cls := 17, slots := #[], vm := .none }]
def classes : Array Class := #[k0, k1, k2, k3, k4, k5, k6, k7, k8, k9, k10, k11, k12, k13, k14, k15, k16, k17]
def interned : List (Array UInt16 × Addr) := []
def slotsUsed : Nat := 4
def theMethod : MethodId := ⟨1, 1⟩
def args0 : Array Value := #[.int 1, .int 2, .int 3, .int 4, .int 5]
def aboutOver (below : List Frame) : State where
  vm := { classes := classes, interned := interned.toArray }
  heap := heap
  slotsUsed := slotsUsed
  threads := #[{ frames := .invoking theMethod args0 :: below }]
def below0 : List Frame := [.native { method := ⟨0, 0⟩, args := #[] }]
def about1 : State := aboutOver below0
def p0 : Program := .bare "" "" ""
def e0 : Env := launch0.env 0 0 0
theorem w_frames : about1.frames = Frame.invoking theMethod args0 :: below0 := rfl
set_option maxRecDepth 65536 in
theorem w_args : argsFit about1.vm theMethod args0 = true := by decide +kernel
set_option maxRecDepth 65536 in
theorem w_heap : heapFits about1 = true := by decide +kernel
set_option maxRecDepth 65536 in
theorem w_runnable : about1.curStatus? = some .runnable := by decide +kernel
set_option maxRecDepth 65536 in
theorem w_alone : about1.alone = true := by decide +kernel
set_option maxRecDepth 65536 in
theorem w_named : about1.methodNamed? x = some theMethod := by decide +kernel
set_option maxRecDepth 65536 in
theorem w_hears : about1.hears theMethod below0 = true := by decide +kernel
set_option maxRecDepth 65536 in
theorem w_ripe : about1.ripe theMethod args0 below0 = true := by decide +kernel
theorem w_running : about1.status = .running := rfl
set_option maxRecDepth 65536 in
theorem w_room : about1.hasRoom e0.platform room_1 = true :=
  launch0.hasRoom_least _ room_1 (by decide +kernel) (by decide +kernel) (by decide +kernel) (by decide +kernel) (by decide +kernel) (by decide +kernel)
theorem allAtoms_all (ts : List Jvm.Cond) (a : Array Jvm.Value) (st : Jvm.State) : (allAtoms ts).before a st = ts.all (fun c => c.before a st) := by
  induction ts with
  | nil => rfl
  | cons c t ih =>
    show (Jvm.Cond.and c (allAtoms t)).before a st = _
    rw [Jvm.Cond.before_and, ih, List.all_cons]
def words1 : List Jvm.Cond := Jvm.Cond.code x code maxLocals ret :: tables_1
/-- a 'code' word, met by the world's own term for the bytes: nothing is compared byte by byte -/
theorem code_word {y : MethodName} {bytes : ByteArray} {mx : Nat} {rt : Option FieldType} {a : Array Value} {s : State} {m : MethodId} {meth : Method} {c : Code} (h1 : s.methodNamed? y = some m) (h2 : s.vm.method? m = some meth) (h3 : meth.code = some c) (h4 : c.code = bytes)
    (h5 : (c.maxLocals == mx && c.exceptionTable.isEmpty && decide (c.maxStack ≤ mostOperands) && decide (meth.sig.returnType = rt) && !meth.locks && decide (parseMethodDescriptor y.desc = some meth.sig)) = true) : (Jvm.Cond.code y bytes mx rt).before a s = true := by
  simp only [Bool.and_eq_true, beq_iff_eq, Bool.not_eq_true', decide_eq_true_eq] at h5
  obtain ⟨⟨⟨⟨⟨g1, g2⟩, g3⟩, g4⟩, g5⟩, g6⟩ := h5
  simp [Cond.before, Cond.holds, Cond.value, h1, h2, h3, h4, g1, g2, g3, g4, g5, g6]
def isCode : Jvm.Cond → Bool
  | .code _ _ _ _ => true
  | _ => false
theorem all_split {L : List Jvm.Cond} {P : Jvm.Cond → Bool} (h1 : L.all (fun c => isCode c || P c) = true) (h2 : ∀ c ∈ L.filter isCode, P c = true) : L.all P = true := by
  refine List.all_eq_true.mpr fun c hc => ?_
  have h := List.all_eq_true.mp h1 c hc
  rcases Bool.eq_false_or_eq_true (isCode c) with hi | hi
  · exact h2 c (List.mem_filter.mpr ⟨hc, hi⟩)
  · simpa [hi] using h
set_option maxRecDepth 65536 in
theorem w_c0 : (Jvm.Cond.code x code maxLocals ret).before args0 about1 = true := code_word (m := ⟨1, 1⟩) (meth := k1m1) (c := k1c1) (by decide +kernel) rfl rfl rfl (by decide +kernel)
set_option maxRecDepth 65536 in
theorem w_c1 : (Jvm.Cond.code ({ cls := "com/example/ltlconv/ltlconv/dra/RabinDraft", name := "<init>", desc := "([I)V" } : Jvm.MethodName) prog_52_method_1_code (4 : Nat) (Option.none : Option Jvm.ClassFile.FieldType)).before args0 about1 = true := code_word (m := ⟨2, 0⟩) (meth := k2m0) (c := k2c0) (by decide +kernel) rfl rfl rfl (by decide +kernel)
set_option maxRecDepth 65536 in
theorem w_c2 : (Jvm.Cond.code ({ cls := "java/lang/Object", name := "<init>", desc := "()V" } : Jvm.MethodName) object_method_1_code (1 : Nat) (Option.none : Option Jvm.ClassFile.FieldType)).before args0 about1 = true := code_word (m := ⟨0, 0⟩) (meth := k0m0) (c := k0c0) (by decide +kernel) rfl rfl rfl (by decide +kernel)
set_option maxRecDepth 65536 in
theorem w_c3 : (Jvm.Cond.code ({ cls := "java/util/ArrayList", name := "<init>", desc := "()V" } : Jvm.MethodName) jdk_38_method_2_code (1 : Nat) (Option.none : Option Jvm.ClassFile.FieldType)).before args0 about1 = true := code_word (m := ⟨12, 0⟩) (meth := k12m0) (c := k12c0) (by decide +kernel) rfl rfl rfl (by decide +kernel)
set_option maxRecDepth 65536 in
theorem w_c4 : (Jvm.Cond.code ({ cls := "java/util/AbstractList", name := "<init>", desc := "()V" } : Jvm.MethodName) jdk_39_method_1_code (1 : Nat) (Option.none : Option Jvm.ClassFile.FieldType)).before args0 about1 = true := code_word (m := ⟨8, 0⟩) (meth := k8m0) (c := k8c0) (by decide +kernel) rfl rfl rfl (by decide +kernel)
set_option maxRecDepth 65536 in
theorem w_c5 : (Jvm.Cond.code ({ cls := "java/util/AbstractCollection", name := "<init>", desc := "()V" } : Jvm.MethodName) jdk_22_method_1_code (1 : Nat) (Option.none : Option Jvm.ClassFile.FieldType)).before args0 about1 = true := code_word (m := ⟨5, 0⟩) (meth := k5m0) (c := k5c0) (by decide +kernel) rfl rfl rfl (by decide +kernel)
set_option maxRecDepth 65536 in
theorem w_c6 : (Jvm.Cond.code ({ cls := "com/example/ltlconv/ltlconv/dra/RabinDraft", name := "isRabin", desc := "()Z" } : Jvm.MethodName) prog_52_method_14_code (5 : Nat) (Option.some Jvm.ClassFile.FieldType.boolean)).before args0 about1 = true := code_word (m := ⟨2, 1⟩) (meth := k2m1) (c := k2c1) (by decide +kernel) rfl rfl rfl (by decide +kernel)
def codes1 : List Jvm.Cond := [Jvm.Cond.code x code maxLocals ret, Jvm.Cond.code ({ cls := "com/example/ltlconv/ltlconv/dra/RabinDraft", name := "<init>", desc := "([I)V" } : Jvm.MethodName) prog_52_method_1_code (4 : Nat) (Option.none : Option Jvm.ClassFile.FieldType), Jvm.Cond.code ({ cls := "java/lang/Object", name := "<init>", desc := "()V" } : Jvm.MethodName) object_method_1_code (1 : Nat) (Option.none : Option Jvm.ClassFile.FieldType), Jvm.Cond.code ({ cls := "java/util/ArrayList", name := "<init>", desc := "()V" } : Jvm.MethodName) jdk_38_method_2_code (1 : Nat) (Option.none : Option Jvm.ClassFile.FieldType), Jvm.Cond.code ({ cls := "java/util/AbstractList", name := "<init>", desc := "()V" } : Jvm.MethodName) jdk_39_method_1_code (1 : Nat) (Option.none : Option Jvm.ClassFile.FieldType), Jvm.Cond.code ({ cls := "java/util/AbstractCollection", name := "<init>", desc := "()V" } : Jvm.MethodName) jdk_22_method_1_code (1 : Nat) (Option.none : Option Jvm.ClassFile.FieldType), Jvm.Cond.code ({ cls := "com/example/ltlconv/ltlconv/dra/RabinDraft", name := "isRabin", desc := "()Z" } : Jvm.MethodName) prog_52_method_14_code (5 : Nat) (Option.some Jvm.ClassFile.FieldType.boolean)]
set_option maxRecDepth 65536 in
theorem codes_eq : words1.filter isCode = codes1 := rfl
theorem w_codes : ∀ c ∈ words1.filter isCode, c.before args0 about1 = true := by
  rw [codes_eq]
  intro c hc
  simp only [codes1, List.mem_cons, List.not_mem_nil, or_false] at hc
  rcases hc with rfl | rfl | rfl | rfl | rfl | rfl | rfl
  · exact w_c0
  · exact w_c1
  · exact w_c2
  · exact w_c3
  · exact w_c4
  · exact w_c5
  · exact w_c6
set_option maxRecDepth 65536 in
theorem w_t1 : (words1.take 24).all (fun c => isCode c || c.before args0 about1) = true := by decide +kernel
set_option maxRecDepth 65536 in
theorem w_t2 : ((words1.drop 24).take 24).all (fun c => isCode c || c.before args0 about1) = true := by decide +kernel
set_option maxRecDepth 65536 in
theorem w_t3 : ((words1.drop 24).drop 24).all (fun c => isCode c || c.before args0 about1) = true := by decide +kernel
theorem w_tables : (allAtoms (Jvm.Cond.code x code maxLocals ret :: tables_1)).before args0 about1 = true := by
  rw [allAtoms_all]
  show words1.all (fun c => c.before args0 about1) = true
  refine all_split ?_ w_codes
  rw [← List.take_append_drop 24 words1, List.all_append, w_t1, ← List.take_append_drop 24 (words1.drop 24), List.all_append, w_t2, w_t3]
  rfl
set_option maxRecDepth 65536 in
theorem w_rest : rest_1_c.before args0 about1 = true := by decide +kernel
set_option maxRecDepth 65536 in
theorem w_case : (Jvm.Cond.and given_1 narrow_1).before args0 about1 = true := by decide +kernel
theorem w_applies : (headSpec (Jvm.Cond.code x code maxLocals ret :: tables_1) room_1).applies x e0.platform about1 = true :=
  (Spec.applies_iff w_frames).mpr ⟨w_running, w_runnable, w_alone, w_named, w_hears, w_ripe, w_room, w_tables⟩
theorem atStart : AtStart classFile x code maxLocals ret World_1 tables_1 room_1 Calls_1 rest_1 Pre_1 launch0 p0 e0 about1 theMethod args0 below0 :=
  ⟨lists_1, trivial, launch0.admits_env _ _ _, launch0.least_env, fairChoices_fair.cas, fairChoices_fair.clock, w_frames, w_args, w_heap, w_applies, trivial, w_rest, w_case⟩
end start1
theorem witness_1 : WitnessClaimed_1 := ⟨start1.p0, start1.e0, start1.about1, start1.theMethod, start1.args0, start1.below0, start1.atStart⟩
end Jvm.Pilot.@@N@@
