import JvmDerived
import JvmDerived.Pilot.@@N@@Statement
import JvmDerived.Pilot.@@N@@Code
set_option linter.unusedVariables false
set_option linter.unusedSimpArgs false
@@BLOCK:NumsL.lean.txt@@
namespace Jvm.Pilot.@@N@@
open Jvm Jvm.ClassFile Sem Op Lib Jvm.Free Jvm.Stand Jvm.LawKit Jvm.RoadKit Bundle Jvm.Pilot.@@N@@.Jvm.D
/-- from T the run comes to an end of which P speaks -/
def Go (p : Program) (e : Env) (below : List Frame) (P : Outcome → State → Prop) (T : State) : Prop := ∃ s₂ o, Steps p.tables e below T s₂ ∧ s₂.status = .running ∧ Ended s₂ below o ∧ P o s₂
theorem Go.via {p : Program} {e : Env} {below : List Frame} {P : Outcome → State → Prop} {T T' : State} (h : ∀ t, Steps p.tables e below T' t → Steps p.tables e below T t) (g : Go p e below P T') : Go p e below P T := by
  obtain ⟨s₂, o, a, b⟩ := g
  exact ⟨s₂, o, h _ a, b⟩
theorem Go.into {p : Program} {e : Env} {below : List Frame} {P : Outcome → State → Prop} {T : State} {g g' : JFrame} (q : g = g') (h : Go p e below P (T.setTop g')) : ∃ s₂ o, Steps p.tables e below (T.setTop g) s₂ ∧ s₂.status = .running ∧ Ended s₂ below o ∧ P o s₂ := by
  subst q; exact h
section Ret
variable {p : Program} {l : Launch} {e : Env} {R : Room} {s : State} {m : MethodId} {args : Array Value} {below : List Frame} {meth : Method} {c : Code} {T : State} {locs : List Loc} {cells slots K N : Nat}
theorem Go.fin (X : Stand p l e R s m args below meth c T locs cells slots) (hlk : meth.locks = false) {v : Option Value} (hv : meth.sig.returnType = none → v = none) {Q : Option Value → Heap → List Loc → Prop} {g : JFrame}
    (st : ∀ fs, (∀ (f : JFrame) (acts : List Action), f.method = m → f.locked = none → f.entered = [] → (doReturn e (T.setTop f) acts v).1 = T.setFrames fs) → Steps p.tables e below (T.setTop g) (T.setFrames fs))
    (hk : cells ≤ K) (hn : slots ≤ N) (hq : Q v T.heap locs) : Go p e below (fun o u => ∃ v L, o = .returned v ∧ Q v u.heap L ∧ FrameEnd s o u L K N) (T.setTop g) := by
  obtain ⟨fs, hr, hrun, hended, hW, hsame⟩ := X.leave (v := v) hv
  exact ⟨_, _, st fs hr, hrun, hended, _, _, rfl, hq, ⟨_, rfl⟩, hW, hsame.mono hk hn⟩
theorem Go.retI (X : Stand p l e R s m args below meth c T locs cells slots) (hx : p.tables.exec = Jvm.exec) (hlk : meth.locks = false) {Q : Option Value → Heap → List Loc → Prop} {pc : Nat} {Ls : Array Slot} {z : Int32} {rest : List Value} (hret : meth.sig.returnType = some .int) (hd : decode c.code pc = .ok (.ireturn, 1))
    (hk : cells ≤ K) (hn : slots ≤ N) (hq : Q (some (.int z)) T.heap locs) : Go p e below (fun o u => ∃ v L, o = .returned v ∧ Q v u.heap L ∧ FrameEnd s o u L K N) (T.setTop (mkF m pc Ls (.int z :: rest))) :=
  Go.fin X hlk (v := some (.int z)) (fun h => by rw [hret] at h; cases h) (fun fs hr => retOut X hx hret rfl (Or.inl ⟨rfl, Or.inl rfl, _, rfl⟩) hd hr) hk hn hq
theorem Go.retN (X : Stand p l e R s m args below meth c T locs cells slots) (hx : p.tables.exec = Jvm.exec) (hlk : meth.locks = false) {Q : Option Value → Heap → List Loc → Prop} {pc : Nat} {Ls : Array Slot} {z : Int32} {rest : List Value} {t : FieldType} (hret : meth.sig.returnType = some t) (ht : t = .boolean ∨ t = .byte ∨ t = .char ∨ t = .short) (hd : decode c.code pc = .ok (.ireturn, 1))
    (hk : cells ≤ K) (hn : slots ≤ N) (hq : Q (some (.int (nar t z))) T.heap locs) : Go p e below (fun o u => ∃ v L, o = .returned v ∧ Q v u.heap L ∧ FrameEnd s o u L K N) (T.setTop (mkF m pc Ls (.int z :: rest))) :=
  Go.fin X hlk (v := some (.int (nar t z))) (fun h => by rw [hret] at h; cases h) (fun fs hr => Jvm.RoadKit.retN X hx hret ht hd hr) hk hn hq
theorem Go.retJ (X : Stand p l e R s m args below meth c T locs cells slots) (hx : p.tables.exec = Jvm.exec) (hlk : meth.locks = false) {Q : Option Value → Heap → List Loc → Prop} {pc : Nat} {Ls : Array Slot} {z : Int64} {rest : List Value} (hret : meth.sig.returnType = some .long) (hd : decode c.code pc = .ok (.lreturn, 1))
    (hk : cells ≤ K) (hn : slots ≤ N) (hq : Q (some (.long z)) T.heap locs) : Go p e below (fun o u => ∃ v L, o = .returned v ∧ Q v u.heap L ∧ FrameEnd s o u L K N) (T.setTop (mkF m pc Ls (.long z :: rest))) :=
  Go.fin X hlk (v := some (.long z)) (fun h => by rw [hret] at h; cases h) (fun fs hr => retOut X hx hret rfl (Or.inr (Or.inl ⟨rfl, rfl, _, rfl⟩)) hd hr) hk hn hq
theorem Go.retR (X : Stand p l e R s m args below meth c T locs cells slots) (hx : p.tables.exec = Jvm.exec) (hlk : meth.locks = false) {Q : Option Value → Heap → List Loc → Prop} {pc : Nat} {Ls : Array Slot} {w : Value} {rest : List Value} {t : FieldType} (hret : meth.sig.returnType = some t) (ht : t.isReference = true) (hw : w.isRef = true) (hd : decode c.code pc = .ok (.areturn, 1))
    (hk : cells ≤ K) (hn : slots ≤ N) (hq : Q (some w) T.heap locs) : Go p e below (fun o u => ∃ v L, o = .returned v ∧ Q v u.heap L ∧ FrameEnd s o u L K N) (T.setTop (mkF m pc Ls (w :: rest))) :=
  Go.fin X hlk (v := some w) (fun h => by rw [hret] at h; cases h) (fun fs hr => retOut X hx hret (by rcases ref_cases hw with rfl | ⟨z, rfl⟩ <;> cases t <;> rfl) (Or.inr (Or.inr (Or.inr (Or.inr ⟨rfl, ht, hw⟩)))) hd hr) hk hn hq
theorem Go.retV (X : Stand p l e R s m args below meth c T locs cells slots) (hx : p.tables.exec = Jvm.exec) (hlk : meth.locks = false) {Q : Option Value → Heap → List Loc → Prop} {pc : Nat} {Ls : Array Slot} (hret : meth.sig.returnType = none) (hd : decode c.code pc = .ok (.return_, 1))
    (hk : cells ≤ K) (hn : slots ≤ N) (hq : Q none T.heap locs) : Go p e below (fun o u => ∃ v L, o = .returned v ∧ Q v u.heap L ∧ FrameEnd s o u L K N) (T.setTop (mkF m pc Ls [])) :=
  Go.fin X hlk (v := none) (fun _ => rfl) (fun fs hr => X.returnOut hx hret hd hr) hk hn hq
theorem Go.retNW {vm₁ : Vm} (X : Stand p l e R (s.setVm vm₁) m args below meth c T locs cells slots) (hx : p.tables.exec = Jvm.exec) {n : Nat} (hS : s.Since vm₁ n) (hnn : n ≤ T.heap.size) (hlk : meth.locks = false) {Q : Option Value → Heap → List Loc → Prop} {pc : Nat} {Ls : Array Slot} {z : Int32} {rest : List Value} {t : FieldType} (hret : meth.sig.returnType = some t) (ht : t = .boolean ∨ t = .byte ∨ t = .char ∨ t = .short) (hd : decode c.code pc = .ok (.ireturn, 1))
    (hk : cells ≤ K) (hn : slots ≤ N) (hq : Q (some (.int (nar t z))) T.heap locs) : Go p e below (fun o u => ∃ v L, o = .returned v ∧ Q v u.heap L ∧ ReturnedEndW s o u L K N) (T.setTop (mkF m pc Ls (.int z :: rest))) := by
  obtain ⟨fs, hr, hrun, hended, h1, h2, h3, h4⟩ := X.leaveW hS hnn (v := some (.int (nar t z))) (fun h => by rw [hret] at h; cases h) hlk
  exact ⟨_, _, Jvm.RoadKit.retN X hx hret ht hd hr, hrun, hended, _, _, rfl, hq, h1, h2, h3, h4.mono hk hn⟩
end Ret
theorem own_eqi {t : Term} {n : Int32} {args : Array Value} {s : State} (h : (Cond.eq t (.int n)).value args s none s [] = some true) : t.eval args s none [] s = some (.int n) := by
  obtain ⟨x, y, h1, h2, k, -⟩ := cmp_v (Or.inl h)
  cases (show some y = some (Value.int n) from h2.symm)
  cases x with
  | int z => rw [h1]; congr 2; have q := h; simp [Cond.value, h1, Term.eval] at q; exact q
  | _ => simp [Kin, Value.isRef] at k
theorem own_ns1 {h : Heap} {a : Addr} {ws : List Addr} (q : ∀ cell : Cell, h[a]? = some cell → cell.vm.isStatics = false) (r : ∀ (x : Addr) (c : Cell), h[x]? = some c → c.vm.isStatics = true → x ∉ ws) : ∀ (x : Addr) (c : Cell), h[x]? = some c → c.vm.isStatics = true → x ∉ a :: ws := fun x c hx hc => ninS (fun e => by subst e; rw [q c hx] at hc; cases hc) (r x c hx hc)
theorem own_sk {Z : State} {h h' : Heap} {C n d : String} {v : Value} {ws : List Addr} (F : Sta Z h C n d v) (K : Keep h h' ws) (q : ∀ (x : Addr) (c : Cell), h[x]? = some c → c.vm.isStatics = true → x ∉ ws) : Sta Z h' C n d v := by
  obtain ⟨cf, i, k, f, st, cell, h1, h2, h3, h4, h5, h6, h7⟩ := F
  exact ⟨cf, i, k, f, st, cell, h1, h2, h3, h4, K.2.1 _ _ h5 (q _ _ h5 h6), h6, h7⟩

/-- an array of n places; place k holds g k -/
def AV (Z : State) (h : Heap) (a : Addr) (ty : FieldType) (n : Nat) (g : Nat → Value) : Prop := n < 2 ^ 31 ∧ ∃ c : Cell, Arr Z h a c ty ∧ c.slots.size = n ∧ ∀ k, k < n → c.slots[k]? = some (g k)
def up {α : Type} (f : Nat → α) (i : Nat) (v : α) : Nat → α := fun k => if k = i then v else f k
section AVs
variable {p : Program} {l : Launch} {e : Env} {R : Room} {s : State} {m : MethodId} {args : Array Value} {below : List Frame} {meth : Method} {c : Code} {T : State} {locs : List Loc} {cells slots : Nat}
variable {Z : State} {h h' : Heap} {a b : Addr} {ty : FieldType} {n : Nat} {g g' : Nat → Value} {sl : Nat} {v : Value} {ws : List Addr} {j : Int32}
theorem AV.lt (F : AV Z h a ty n g) : a < h.size := by obtain ⟨_, c, A, -⟩ := F; exact A.lt
theorem AV.ext (F : AV Z h a ty n g) (E : Ext h h') : AV Z h' a ty n g := by obtain ⟨q, c, A, r⟩ := F; exact ⟨q, c, A.ext E, r⟩
theorem AV.other (F : AV Z h b ty n g) (W : Wr h h' a sl v) (q : b ≠ a) : AV Z h' b ty n g := by obtain ⟨q', c, A, r⟩ := F; exact ⟨q', c, A.other W q, r⟩
theorem AV.keep (F : AV Z h a ty n g) (K : Keep h h' ws) (q : a ∉ ws) : AV Z h' a ty n g := by obtain ⟨q', c, A, r⟩ := F; exact ⟨q', c, ⟨K.2.1 a c A.1 q, A.2⟩, r⟩
theorem AV.congr (F : AV Z h a ty n g) (q : ∀ k, k < n → g k = g' k) : AV Z h a ty n g' := by obtain ⟨q', c, A, r1, r2⟩ := F; exact ⟨q', c, A, r1, fun k hk => by rw [← q k hk]; exact r2 k hk⟩
theorem AV.set (F : AV Z h a ty n g) (W : Wr h h' a sl v) : AV Z h' a ty n (up g sl v) := by
  obtain ⟨q', c, A, r1, r2⟩ := F
  refine ⟨q', _, A.same W, by rw [sz_set]; exact r1, fun k hk => ?_⟩
  by_cases u : k = sl
  · subst u; simp [Cell.setSlot, up, r1, hk]
  · simp only [Cell.setSlot, up, if_neg u]; rw [Array.getElem?_setIfInBounds_ne (Ne.symm u)]; exact r2 k hk
theorem AV.new {k : ClassId} {z : Int32} (A : Arr Z h a (newA k ty z) ty) : AV Z h a ty z.toNatClampNeg (fun _ => defaultValue ty) := by
  refine ⟨by have := Int32.toInt_lt z; simp only [Int32.toNatClampNeg]; omega, _, A, sz_new _ _ _, fun i hi => by simp [newA, hi]⟩
theorem AV.inb {cl : Cell} (hs : cl.slots.size = n) (hj : ¬ j < 0 ∧ j.toNatClampNeg < n) : ¬ (j < 0 ∨ cl.slots.size ≤ j.toNatClampNeg) := fun q => q.elim hj.1 fun q => by rw [hs] at q; exact absurd hj.2 (Nat.not_lt.mpr q)
theorem AV.len (F : AV Z h a ty n g) (X : Stand p l e R s m args below meth c T locs cells slots) (hx : p.tables.exec = Jvm.exec) (hZ : Z.Warmed39 s.vm) (eT : T.heap = h) {pc : Nat} {Ls : Array Slot} {rest : List Value} (hd : decode c.code pc = .ok (.arraylength, 1)) {t : State}
    (k : Steps p.tables e below (T.setTop (mkF m (pc + 1) Ls (.int (Int32.ofNat n) :: rest))) t) : Steps p.tables e below (T.setTop (mkF m pc Ls (.ref a :: rest))) t := by
  obtain ⟨q', cl, A, r1, r2⟩ := F
  subst r1
  exact X.arraylength hx (by rw [eT]; exact A.1) (State.isArrayOf_alike hZ.alike A.2.1) (g := mkF m pc Ls (.ref a :: rest)) rfl rfl hd _ k
theorem AV.iaload {f : Nat → Int32} (F : AV Z h a .int n (fun k => .int (f k))) (X : Stand p l e R s m args below meth c T locs cells slots) (hx : p.tables.exec = Jvm.exec) (hZ : Z.Warmed39 s.vm) (eT : T.heap = h) (hj : ¬ j < 0 ∧ j.toNatClampNeg < n) {pc : Nat} {Ls : Array Slot} {rest : List Value} (hd : decode c.code pc = .ok (.iaload, 1)) {t : State}
    (k : Steps p.tables e below (T.setTop (mkF m (pc + 1) Ls (.int (f j.toNatClampNeg) :: rest))) t) : Steps p.tables e below (T.setTop (mkF m pc Ls (.int j :: .ref a :: rest))) t := by
  obtain ⟨q', cl, A, r1, r2⟩ := F
  exact X.iaload hx (j := j) (v := .int (f j.toNatClampNeg)) (by rw [eT]; exact A.1) (State.isArrayOf_alike hZ.alike A.2.1) A.2.2 (AV.inb r1 hj) (r2 _ hj.2) (g := mkF m pc Ls (.int j :: .ref a :: rest)) rfl rfl hd _ k
theorem AV.laload {f : Nat → Int64} (F : AV Z h a .long n (fun k => .long (f k))) (X : Stand p l e R s m args below meth c T locs cells slots) (hx : p.tables.exec = Jvm.exec) (hZ : Z.Warmed39 s.vm) (eT : T.heap = h) (hj : ¬ j < 0 ∧ j.toNatClampNeg < n) {pc : Nat} {Ls : Array Slot} {rest : List Value} (hd : decode c.code pc = .ok (.laload, 1)) {t : State}
    (k : Steps p.tables e below (T.setTop (mkF m (pc + 1) Ls (.long (f j.toNatClampNeg) :: rest))) t) : Steps p.tables e below (T.setTop (mkF m pc Ls (.int j :: .ref a :: rest))) t := by
  obtain ⟨q', cl, A, r1, r2⟩ := F
  exact X.laload hx (j := j) (v := .long (f j.toNatClampNeg)) (by rw [eT]; exact A.1) (State.isArrayOf_alike hZ.alike A.2.1) A.2.2 (AV.inb r1 hj) (r2 _ hj.2) (g := mkF m pc Ls (.int j :: .ref a :: rest)) rfl rfl hd _ k
theorem AV.aaload (F : AV Z h a ty n g) (hty : ty.isReference = true) (X : Stand p l e R s m args below meth c T locs cells slots) (hx : p.tables.exec = Jvm.exec) (hZ : Z.Warmed39 s.vm) (eT : T.heap = h) (hj : ¬ j < 0 ∧ j.toNatClampNeg < n) {pc : Nat} {Ls : Array Slot} {rest : List Value} (hd : decode c.code pc = .ok (.aaload, 1)) {t : State}
    (k : Steps p.tables e below (T.setTop (mkF m (pc + 1) Ls (g j.toNatClampNeg :: rest))) t) : Steps p.tables e below (T.setTop (mkF m pc Ls (.int j :: .ref a :: rest))) t := by
  obtain ⟨q', cl, A, r1, r2⟩ := F
  exact X.aaload hx (j := j) (v := g j.toNatClampNeg) (by rw [eT]; exact A.1) (State.isArrayOf_alike hZ.alike A.2.1) hty A.2.2 (AV.inb r1 hj) (r2 _ hj.2) (g := mkF m pc Ls (.int j :: .ref a :: rest)) rfl rfl hd _ k
theorem AV.iastore {f : Nat → Int32} {x : Int32} (F : AV Z h a .int n (fun k => .int (f k))) (X : Stand p l e R s m args below meth c T locs cells slots) (hx : p.tables.exec = Jvm.exec) (hZ : Z.Warmed39 s.vm) (eT : T.heap = h) (hj : ¬ j < 0 ∧ j.toNatClampNeg < n) {pc : Nat} {Ls : Array Slot} {rest : List Value} (hd : decode c.code pc = .ok (.iastore, 1)) :
    ∃ T' h', Stand p l e R s m args below meth c T' (locs ++ [⟨a, j.toNatClampNeg⟩]) cells slots ∧ T'.heap = h' ∧ Wr h h' a j.toNatClampNeg (.int x) ∧ AV Z h' a .int n (fun k => .int (up f j.toNatClampNeg x k)) ∧
      ∀ t, Steps p.tables e below (T'.setTop (mkF m (pc + 1) Ls rest)) t → Steps p.tables e below (T.setTop (mkF m pc Ls (.int x :: .int j :: .ref a :: rest))) t := by
  have F0 := F
  obtain ⟨q', cl, A, r1, r2⟩ := F
  obtain ⟨T', h', X', e', W, st⟩ := stI X hx hZ eT A (j := j) (AV.inb r1 hj) (g := mkF m pc Ls (.int x :: .int j :: .ref a :: rest)) rfl rfl hd
  exact ⟨T', h', X', e', W, (F0.set W).congr (fun k _ => by unfold up; split <;> rfl), st⟩
theorem AV.lastore {f : Nat → Int64} {x : Int64} (F : AV Z h a .long n (fun k => .long (f k))) (X : Stand p l e R s m args below meth c T locs cells slots) (hx : p.tables.exec = Jvm.exec) (hZ : Z.Warmed39 s.vm) (eT : T.heap = h) (hj : ¬ j < 0 ∧ j.toNatClampNeg < n) {pc : Nat} {Ls : Array Slot} {rest : List Value} (hd : decode c.code pc = .ok (.lastore, 1)) :
    ∃ T' h', Stand p l e R s m args below meth c T' (locs ++ [⟨a, j.toNatClampNeg⟩]) cells slots ∧ T'.heap = h' ∧ Wr h h' a j.toNatClampNeg (.long x) ∧ AV Z h' a .long n (fun k => .long (up f j.toNatClampNeg x k)) ∧
      ∀ t, Steps p.tables e below (T'.setTop (mkF m (pc + 1) Ls rest)) t → Steps p.tables e below (T.setTop (mkF m pc Ls (.long x :: .int j :: .ref a :: rest))) t := by
  have F0 := F
  obtain ⟨q', cl, A, r1, r2⟩ := F
  obtain ⟨T', h', X', e', W, st⟩ := stJ X hx hZ eT A (j := j) (AV.inb r1 hj) (g := mkF m pc Ls (.long x :: .int j :: .ref a :: rest)) rfl rfl hd
  exact ⟨T', h', X', e', W, (F0.set W).congr (fun k _ => by unfold up; split <;> rfl), st⟩
theorem AV.bastoreZ {f : Nat → Int32} {x : Int32} (F : AV Z h a .boolean n (fun k => .int (f k))) (X : Stand p l e R s m args below meth c T locs cells slots) (hx : p.tables.exec = Jvm.exec) (hZ : Z.Warmed39 s.vm) (eT : T.heap = h) (hj : ¬ j < 0 ∧ j.toNatClampNeg < n) {pc : Nat} {Ls : Array Slot} {rest : List Value} (hd : decode c.code pc = .ok (.bastore, 1)) :
    ∃ T' h', Stand p l e R s m args below meth c T' (locs ++ [⟨a, j.toNatClampNeg⟩]) cells slots ∧ T'.heap = h' ∧ Wr h h' a j.toNatClampNeg (.int (nar .boolean x)) ∧ AV Z h' a .boolean n (fun k => .int (up f j.toNatClampNeg (nar .boolean x) k)) ∧
      ∀ t, Steps p.tables e below (T'.setTop (mkF m (pc + 1) Ls rest)) t → Steps p.tables e below (T.setTop (mkF m pc Ls (.int x :: .int j :: .ref a :: rest))) t := by
  have F0 := F
  obtain ⟨q', cl, A, r1, r2⟩ := F
  obtain ⟨T', h', X', e', W, st⟩ := stZ X hx hZ eT A (j := j) (AV.inb r1 hj) (g := mkF m pc Ls (.int x :: .int j :: .ref a :: rest)) rfl rfl hd
  exact ⟨T', h', X', e', W, (F0.set W).congr (fun k _ => by unfold up; split <;> rfl), st⟩
theorem AV.aastore (F : AV Z h a ty n g) (hty : ty.isReference = true) (S : Sto Z h a v) (X : Stand p l e R s m args below meth c T locs cells slots) (hx : p.tables.exec = Jvm.exec) (hZ : Z.Warmed39 s.vm) (eT : T.heap = h) (hj : ¬ j < 0 ∧ j.toNatClampNeg < n) {pc : Nat} {Ls : Array Slot} {rest : List Value} (hd : decode c.code pc = .ok (.aastore, 1)) :
    ∃ T' h', Stand p l e R s m args below meth c T' (locs ++ [⟨a, j.toNatClampNeg⟩]) cells slots ∧ T'.heap = h' ∧ Wr h h' a j.toNatClampNeg v ∧ AV Z h' a ty n (up g j.toNatClampNeg v) ∧
      ∀ t, Steps p.tables e below (T'.setTop (mkF m (pc + 1) Ls rest)) t → Steps p.tables e below (T.setTop (mkF m pc Ls (v :: .int j :: .ref a :: rest))) t := by
  have F0 := F
  obtain ⟨q', cl, A, r1, r2⟩ := F
  obtain ⟨T', h', X', e', W, st⟩ := stR X hx hZ eT A (j := j) (AV.inb r1 hj) hty S (g := mkF m pc Ls (v :: .int j :: .ref a :: rest)) rfl rfl hd
  exact ⟨T', h', X', e', W, F0.set W, st⟩
end AVs
/-- what may lie in an array of arrays -/
def OV (Z : State) (h : Heap) (a : Addr) (ty : FieldType) (C : String) : Prop := ∃ cl : Cell, h[a]? = some cl ∧ OvrA Z cl.cls ty C
section OVs
variable {Z : State} {h h' : Heap} {a b : Addr} {ty t0 : FieldType} {C : String} {n : Nat} {g : Nat → Value} {sl : Nat} {v : Value} {ws : List Addr}
theorem OV.ext (F : OV Z h a ty C) (E : Ext h h') : OV Z h' a ty C := by obtain ⟨cl, q, O⟩ := F; exact ⟨cl, E.2 _ _ q, O⟩
theorem OV.wr (F : OV Z h a ty C) (W : Wr h h' b sl v) : OV Z h' a ty C := by
  obtain ⟨cl, q, O⟩ := F; obtain ⟨c', e1, e2, -⟩ := wr_at W q; exact ⟨c', e1, by rw [e2]; exact O⟩
theorem OV.keep (F : OV Z h a ty C) (K : Keep h h' ws) : OV Z h' a ty C := by
  obtain ⟨cl, q, O⟩ := F; obtain ⟨c', e1, e2, -⟩ := K.2.2 _ _ q; exact ⟨c', e1, by rw [e2]; exact O⟩
theorem OV.sto (F : OV Z h a ty C) (A : AV Z h a t0 n g) (I : Ins Z h b C true) : Sto Z h a (.ref b) := by
  obtain ⟨cl, q, O⟩ := F; obtain ⟨-, c, A', -⟩ := A; cases q.symm.trans A'.1; exact Sto.ofVA A' rfl O I
end OVs
section AVc
variable {p : Program} {l : Launch} {e : Env} {R : Room} {s : State} {m : MethodId} {args : Array Value} {below : List Frame} {meth : Method} {c : Code} {T : State} {locs : List Loc} {cells slots : Nat}
variable {Z : State} {h : Heap} {a : Addr} {ty : FieldType} {n : Nat} {g0 : Nat → Value} {a0 : Array Value}
theorem AV.clone (F : AV Z h a ty n g0) (ht : ∀ k, k < n → fits ty (g0 k) = true) (X : Stand p l e R s m args below meth c T locs cells slots) (hx : p.tables.exec = Jvm.exec) (hZ : Z.Warmed39 s.vm) {own ad : String} {index : Nat} (hown : s.vm.findClass own = some m.cls)
    (w1 : (Cond.methodLink own index ⟨ad, "clone", "()Ljava/lang/Object;"⟩).before a0 Z = true) (w2 : (Cond.sameMethod ad "java/lang/Object" "clone" "()Ljava/lang/Object;").before a0 Z = true) (w3 : (Cond.native ⟨"java/lang/Object", "clone", "()Ljava/lang/Object;"⟩).before a0 Z = true)
    (w4 : (Cond.instanceMethod ⟨"java/lang/Object", "clone", "()Ljava/lang/Object;"⟩).before a0 Z = true) (w5 : (Cond.selects ad ⟨ad, "clone", "()Ljava/lang/Object;"⟩ ⟨"java/lang/Object", "clone", "()Ljava/lang/Object;"⟩).before a0 Z = true) (w6 : (Cond.castable ad "java/lang/Cloneable").before a0 Z = true)
    (eT : T.heap = h) (E : Exa Z h a ad) {g : JFrame} (hg : g.method = m) (hsize : g.locals.size = c.maxLocals) {rest : List Value} (hst : g.stack = .ref a :: rest) (hd : decode c.code g.pc = .ok (.invokevirtual index, 3))
    (hf : 1 ≤ R.frames) {W cap : Nat} (hW : 2 * g.monitorRoom + (rest.map fun v => v.category).sum ≤ W) (hl : W + 14 ≤ R.locals) (hcap : n ≤ cap) (hc : cells + 1 ≤ R.cells) (hsl : slots + cap ≤ R.slots) :
    ∃ T' h', Stand p l e R s m args below meth c T' locs (cells + 1) (slots + cap) ∧ T'.heap = h' ∧ Ext h h' ∧ AV Z h' h.size ty n g0 ∧ Exa Z h' h.size ad ∧
      ∀ target, Steps p.tables e below (T'.setTop { g with pc := g.pc + 3, stack := .ref h.size :: rest }) target → Steps p.tables e below (T.setTop g) target := by
  obtain ⟨q0, cl, A, S, H⟩ := F
  have FC : FitC Z cl := fitC_of A fun i hi v hv => by
    rw [S] at hi; rw [H i hi] at hv; cases hv; exact ht i hi
  obtain ⟨T', h', X', e', ex, A', E', st⟩ := cloneA X hx hZ hown w1 w2 w3 w4 w5 w6 eT A E FC hg hsize hst hd hf hW hl (by rw [S]; exact hcap) hc hsl
  exact ⟨T', h', X', e', ex, ⟨q0, cloneOf cl, A', S, H⟩, E', st⟩
end AVc

section AVb
variable {p : Program} {l : Launch} {e : Env} {R : Room} {s : State} {m : MethodId} {args : Array Value} {below : List Frame} {meth : Method} {c : Code} {T : State} {locs : List Loc} {cells slots : Nat}
variable {Z : State} {h : Heap} {a : Addr} {n : Nat} {j : Int32}
theorem AV.baload {f : Nat → Int32} (F : AV Z h a .byte n (fun k => .int (f k))) (X : Stand p l e R s m args below meth c T locs cells slots) (hx : p.tables.exec = Jvm.exec) (hZ : Z.Warmed39 s.vm) (eT : T.heap = h) (hj : ¬ j < 0 ∧ j.toNatClampNeg < n) {pc : Nat} {Ls : Array Slot} {rest : List Value} (hd : decode c.code pc = .ok (.baload, 1)) {t : State}
    (k : Steps p.tables e below (T.setTop (mkF m (pc + 1) Ls (.int (f j.toNatClampNeg) :: rest))) t) : Steps p.tables e below (T.setTop (mkF m pc Ls (.int j :: .ref a :: rest))) t := by
  obtain ⟨q', cl, A, r1, r2⟩ := F
  exact X.baloadBytes hx (j := j) (v := .int (f j.toNatClampNeg)) (by rw [eT]; exact A.1) (State.isArrayOf_alike hZ.alike A.2.1) A.2.2 (AV.inb r1 hj) (r2 _ hj.2) (g := mkF m pc Ls (.int j :: .ref a :: rest)) rfl rfl hd _ k
/-- the bytes of a short text -/
def own_t (l : List Int32) : Nat → Int32 := fun k => l.getD k 0
theorem AV.ofArv {k : ClassId} {z : Int32} {l : List Int32} (F : Arv Z h a k .byte z (l.map .int) (.int 0)) (hn : z.toNatClampNeg = n) (h31 : n < 2 ^ 31) : AV Z h a .byte n (fun k => .int (own_t l k)) := by
  obtain ⟨c, A, -, S, -, H, -⟩ := F
  refine ⟨h31, c, A, S.trans hn, fun i hi => ?_⟩
  rw [H i (by rw [S, hn]; exact hi)]
  simp only [own_t, List.getD_eq_getElem?_getD, List.getElem?_map]
  cases l[i]? <;> rfl
end AVb

def own_EL : List (String × Nat) := [("com/example/paratitle/paratitle/titles/HeadingElement", 39), ("com/example/paratitle/paratitle/titles/HeadingElementSeparatorAfterPinLaw", 32), ("com/example/paratitle/paratitle/titles/HeadingElementSeparatorAfterPinLaw", 34), ("com/example/paratitle/paratitle/titles/HeadingElementSeparatorAfterPinLaw", 36)]
theorem own_EW {Z : State} {a0 : Array Value} (hw : ∀ d ∈ tables_1, d.before a0 Z = true) : EW Z a0 own_EL :=
  EW.cons (hw _ (List.mem_of_getElem? (i := 45) rfl)) (by decide) (EW.cons (hw _ (List.mem_of_getElem? (i := 43) rfl)) (by decide) (EW.cons (hw _ (List.mem_of_getElem? (i := 46) rfl)) (by decide) (EW.cons (hw _ (List.mem_of_getElem? (i := 17) rfl)) (by decide) EW.nil)))
theorem d1_0 : decode method_2_code 0 = .ok (.iload_n 0, 1) := by decide +kernel
theorem d1_1 : decode method_2_code 1 = .ok (.ifCond .ne 7, 3) := by decide +kernel
theorem d1_4 : decode method_2_code 4 = .ok (.getstatic 7, 3) := by decide +kernel
theorem d1_7 : decode method_2_code 7 = .ok (.areturn, 1) := by decide +kernel
theorem d1_8 : decode method_2_code 8 = .ok (.iload_n 0, 1) := by decide +kernel
theorem d1_9 : decode method_2_code 9 = .ok (.iconst 1, 1) := by decide +kernel
theorem d1_10 : decode method_2_code 10 = .ok (.if_icmp .ne 7, 3) := by decide +kernel
theorem d1_13 : decode method_2_code 13 = .ok (.getstatic 13, 3) := by decide +kernel
theorem d1_16 : decode method_2_code 16 = .ok (.areturn, 1) := by decide +kernel
theorem d1_17 : decode method_2_code 17 = .ok (.iload_n 0, 1) := by decide +kernel
theorem d1_18 : decode method_2_code 18 = .ok (.iconst 2, 1) := by decide +kernel
theorem d1_19 : decode method_2_code 19 = .ok (.if_icmp .ne 7, 3) := by decide +kernel
theorem d1_22 : decode method_2_code 22 = .ok (.getstatic 16, 3) := by decide +kernel
theorem d1_25 : decode method_2_code 25 = .ok (.areturn, 1) := by decide +kernel
theorem d1_26 : decode method_2_code 26 = .ok (.getstatic 19, 3) := by decide +kernel
theorem d1_29 : decode method_2_code 29 = .ok (.areturn, 1) := by decide +kernel
def f1 (p0 : Int32) (aT : Addr) (aO : Addr) (aN : Addr) (aP : Addr) : Value := (if p0 = (0 : Int32) then (.ref aT) else (if p0 = (1 : Int32) then (.ref aO) else (if p0 = (2 : Int32) then (.ref aN) else (.ref aP))))
def Q1 (p0 : Int32) (aT : Addr) (aO : Addr) (aN : Addr) (aP : Addr) (h0 : Heap) (n0 : Nat) (v : Option Value) (h : Heap) (L : List Loc) : Prop := v = some (f1 p0 aT aO aN aP) ∧ Fr n0 L ∧ h = h0
theorem pn_0 : plainName "com/example/paratitle/paratitle/titles/HeadingElementSeparatorAfterPinLaw" = true := by first | (simp [plainName, overriddenIn]; done) | decide +kernel
theorem ef_1_a (m : MethodId) (x0 : Int32) : entryFrame m #[(.int x0)] 1 = mkF m 0 #[.val (.int x0)] [] := by first | (simp [entryFrame, mkF, argsToLocals, Value.category]; done) | rfl
set_option maxRecDepth 65536 in
set_option maxHeartbeats 40000000 in
theorem rm1 (l : Launch) (Z : State) (a0 : Array Value) (hw : ∀ d ∈ tables_1, d.before a0 Z = true) (ws : List Jvm.Cond) (p0 : Int32) (aT : Addr) (aO : Addr) (aN : Addr) (aP : Addr) (h0 : Heap) (n0 : Nat) (Z0 : n0 ≤ h0.size) (ha0 : Sta Z h0 "com/example/paratitle/paratitle/titles/HeadingElement" "TITLE" "Lcom/example/paratitle/paratitle/titles/HeadingElement;" (.ref aT)) (ha1 : Sta Z h0 "com/example/paratitle/paratitle/titles/HeadingElement" "OTHER_TITLE_INFORMATION" "Lcom/example/paratitle/paratitle/titles/HeadingElement;" (.ref aO)) (ha2 : Sta Z h0 "com/example/paratitle/paratitle/titles/HeadingElement" "PART_NUMBER" "Lcom/example/paratitle/paratitle/titles/HeadingElement;" (.ref aN)) (ha3 : Sta Z h0 "com/example/paratitle/paratitle/titles/HeadingElement" "PART_NAME" "Lcom/example/paratitle/paratitle/titles/HeadingElement;" (.ref aP)) :
    MetFree l (⟨"com/example/paratitle/paratitle/titles/HeadingElementSeparatorAfterPinLaw", "pick", "(I)Lcom/example/paratitle/paratitle/titles/HeadingElement;"⟩ : MethodName) (head1 (Jvm.Cond.code (⟨"com/example/paratitle/paratitle/titles/HeadingElementSeparatorAfterPinLaw", "pick", "(I)Lcom/example/paratitle/paratitle/titles/HeadingElement;"⟩ : MethodName) method_2_code 1 (some (.object "com/example/paratitle/paratitle/titles/HeadingElement")) :: ws) ({ frames := 0, cells := 0, slots := 0, locals := 0 } : Room)) (fun a U => a = #[(.int p0)] ∧ Z.Warmed39 U.vm ∧ U.heap = h0) (fun _ _ _ _ _ => True) (fun _ U o U' => ∃ v L, o = .returned v ∧ Q1 p0 aT aO aN aP h0 n0 v U'.heap L ∧ FrameEnd U o U' L ({ frames := 0, cells := 0, slots := 0, locals := 0 } : Room).cells ({ frames := 0, cells := 0, slots := 0, locals := 0 } : Room).slots) := by
  refine MetFree.of_bodySF (plainFor_of_name pn_0) hisR ?_
  intro p e s m args below meth c s₁ Bd hml0 hP hK
  obtain ⟨rfl, hZ, hh⟩ := hP
  have hx := Bd.exec
  have hby := Bd.bytes
  have hml : c.maxLocals = 1 := hml0
  have hown : s.vm.findClass "com/example/paratitle/paratitle/titles/HeadingElementSeparatorAfterPinLaw" = some m.cls := findClass_of_methodNamed Bd.named
  have hnm := (name_of_methodNamed Bd.named Bd.method).1
  have X0 : Stand p l e ({ frames := 0, cells := 0, slots := 0, locals := 0 } : Room) s m #[(.int p0)] below meth c s₁ [] 0 0 := Stand.of_body Bd
  have e0 : s₁.heap = h0 := by rw [← hh, Bd.state]; rfl
  have N0 := Fr.nil n0
  refine Go.into (P := fun oo uu => ∃ v L, oo = .returned v ∧ Q1 p0 aT aO aN aP h0 n0 v uu.heap L ∧ FrameEnd s oo uu L ({ frames := 0, cells := 0, slots := 0, locals := 0 } : Room).cells ({ frames := 0, cells := 0, slots := 0, locals := 0 } : Room).slots) (ef_1_a m p0) ?_
  show Go p e below _ (s₁.setTop (mkF m 0 #[.val (.int p0)] []))
  refine Go.via (T' := s₁.setTop (mkF m 1 #[.val (.int p0)] [(.int p0)])) (fun tZ kZ => ?_) ?_
  · show Steps p.tables e below (s₁.setTop (mkF m 0 #[.val (.int p0)] [])) _
    refine XS.iloadN X0.here hx rfl (hb hby d1_0) rfl ?_
    show Steps p.tables e below (s₁.setTop (mkF m 1 #[.val (.int p0)] [(.int p0)])) _
    exact kZ
  by_cases hc1 : p0 = (0 : Int32)
  · refine Go.via (T' := s₁.setTop (mkF m 4 #[.val (.int p0)] [])) (fun tZ kZ => ?_) ?_
    · show Steps p.tables e below (s₁.setTop (mkF m 1 #[.val (.int p0)] [(.int p0)])) _
      refine XS.ifNo X0.here hx rfl (hb hby d1_1) rfl ((if0 _ _).trans (teq hc1).2) ?_
      exact kZ
    obtain ⟨T1, X1, e1, st1⟩ := getS2 X0 hx hZ hown (host := "") (Or.inl (hw _ (List.mem_of_getElem? (i := 4) rfl))) Via.refl e0 ha0 (g := (mkF m 4 #[.val (.int p0)] [])) rfl (hb hby d1_4)
    refine Go.via st1 ?_
    show Go p e below _ (T1.setTop (mkF m 7 #[.val (.int p0)] [(.ref aT)]))
    refine Go.retR X1 hx Bd.notSynchronized Bd.returns rfl rfl (hb hby d1_7) (by decide) (by decide) ?_
    refine ⟨?_, N0, e1⟩
    show some ((.ref aT) : Value) = some (f1 p0 aT aO aN aP)
    unfold f1; rw [if_pos hc1] <;> rfl
  · refine Go.via (T' := s₁.setTop (mkF m 8 #[.val (.int p0)] [])) (fun tZ kZ => ?_) ?_
    · show Steps p.tables e below (s₁.setTop (mkF m 1 #[.val (.int p0)] [(.int p0)])) _
      refine XS.ifYes X0.here hx rfl (pc0 := 1) (pc' := 8) rfl (hb hby d1_1) rfl ((if0 _ _).trans (feq hc1).2) (by decide) (by decide) ?_
      exact kZ
    refine Go.via (T' := s₁.setTop (mkF m 10 #[.val (.int p0)] [(.int (1 : Int32)), (.int p0)])) (fun tZ kZ => ?_) ?_
    · show Steps p.tables e below (s₁.setTop (mkF m 8 #[.val (.int p0)] [])) _
      refine XS.iloadN X0.here hx rfl (hb hby d1_8) rfl ?_
      show Steps p.tables e below (s₁.setTop (mkF m 9 #[.val (.int p0)] [(.int p0)])) _
      refine XS.iconst X0.here hx rfl (hb hby d1_9) ?_
      show Steps p.tables e below (s₁.setTop (mkF m 10 #[.val (.int p0)] [(.int (1 : Int32)), (.int p0)])) _
      exact kZ
    by_cases hc10 : p0 = (1 : Int32)
    · refine Go.via (T' := s₁.setTop (mkF m 13 #[.val (.int p0)] [])) (fun tZ kZ => ?_) ?_
      · show Steps p.tables e below (s₁.setTop (mkF m 10 #[.val (.int p0)] [(.int (1 : Int32)), (.int p0)])) _
        refine XS.icmpNo X0.here hx rfl (hb hby d1_10) rfl (teq hc10).2 ?_
        exact kZ
      obtain ⟨T2, X2, e2, st2⟩ := getS2 X0 hx hZ hown (host := "") (Or.inl (hw _ (List.mem_of_getElem? (i := 41) rfl))) Via.refl e0 ha1 (g := (mkF m 13 #[.val (.int p0)] [])) rfl (hb hby d1_13)
      refine Go.via st2 ?_
      show Go p e below _ (T2.setTop (mkF m 16 #[.val (.int p0)] [(.ref aO)]))
      refine Go.retR X2 hx Bd.notSynchronized Bd.returns rfl rfl (hb hby d1_16) (by decide) (by decide) ?_
      refine ⟨?_, N0, e2⟩
      show some ((.ref aO) : Value) = some (f1 p0 aT aO aN aP)
      unfold f1; rw [if_neg hc1, if_pos hc10] <;> rfl
    · refine Go.via (T' := s₁.setTop (mkF m 17 #[.val (.int p0)] [])) (fun tZ kZ => ?_) ?_
      · show Steps p.tables e below (s₁.setTop (mkF m 10 #[.val (.int p0)] [(.int (1 : Int32)), (.int p0)])) _
        refine XS.icmpYes X0.here hx rfl (pc0 := 10) (pc' := 17) rfl (hb hby d1_10) rfl (feq hc10).2 (by decide) (by decide) ?_
        exact kZ
      refine Go.via (T' := s₁.setTop (mkF m 19 #[.val (.int p0)] [(.int (2 : Int32)), (.int p0)])) (fun tZ kZ => ?_) ?_
      · show Steps p.tables e below (s₁.setTop (mkF m 17 #[.val (.int p0)] [])) _
        refine XS.iloadN X0.here hx rfl (hb hby d1_17) rfl ?_
        show Steps p.tables e below (s₁.setTop (mkF m 18 #[.val (.int p0)] [(.int p0)])) _
        refine XS.iconst X0.here hx rfl (hb hby d1_18) ?_
        show Steps p.tables e below (s₁.setTop (mkF m 19 #[.val (.int p0)] [(.int (2 : Int32)), (.int p0)])) _
        exact kZ
      by_cases hc19 : p0 = (2 : Int32)
      · refine Go.via (T' := s₁.setTop (mkF m 22 #[.val (.int p0)] [])) (fun tZ kZ => ?_) ?_
        · show Steps p.tables e below (s₁.setTop (mkF m 19 #[.val (.int p0)] [(.int (2 : Int32)), (.int p0)])) _
          refine XS.icmpNo X0.here hx rfl (hb hby d1_19) rfl (teq hc19).2 ?_
          exact kZ
        obtain ⟨T3, X3, e3, st3⟩ := getS2 X0 hx hZ hown (host := "") (Or.inl (hw _ (List.mem_of_getElem? (i := 39) rfl))) Via.refl e0 ha2 (g := (mkF m 22 #[.val (.int p0)] [])) rfl (hb hby d1_22)
        refine Go.via st3 ?_
        show Go p e below _ (T3.setTop (mkF m 25 #[.val (.int p0)] [(.ref aN)]))
        refine Go.retR X3 hx Bd.notSynchronized Bd.returns rfl rfl (hb hby d1_25) (by decide) (by decide) ?_
        refine ⟨?_, N0, e3⟩
        show some ((.ref aN) : Value) = some (f1 p0 aT aO aN aP)
        unfold f1; rw [if_neg hc1, if_neg hc10, if_pos hc19] <;> rfl
      · refine Go.via (T' := s₁.setTop (mkF m 26 #[.val (.int p0)] [])) (fun tZ kZ => ?_) ?_
        · show Steps p.tables e below (s₁.setTop (mkF m 19 #[.val (.int p0)] [(.int (2 : Int32)), (.int p0)])) _
          refine XS.icmpYes X0.here hx rfl (pc0 := 19) (pc' := 26) rfl (hb hby d1_19) rfl (feq hc19).2 (by decide) (by decide) ?_
          exact kZ
        obtain ⟨T4, X4, e4, st4⟩ := getS2 X0 hx hZ hown (host := "") (Or.inl (hw _ (List.mem_of_getElem? (i := 7) rfl))) Via.refl e0 ha3 (g := (mkF m 26 #[.val (.int p0)] [])) rfl (hb hby d1_26)
        refine Go.via st4 ?_
        show Go p e below _ (T4.setTop (mkF m 29 #[.val (.int p0)] [(.ref aP)]))
        refine Go.retR X4 hx Bd.notSynchronized Bd.returns rfl rfl (hb hby d1_29) (by decide) (by decide) ?_
        refine ⟨?_, N0, e4⟩
        show some ((.ref aP) : Value) = some (f1 p0 aT aO aN aP)
        unfold f1; rw [if_neg hc1, if_neg hc10, if_neg hc19] <;> rfl
theorem d2_0 : decode prog_26_method_4_code 0 = .ok (.aload_n 0, 1) := by decide +kernel
theorem d2_1 : decode prog_26_method_4_code 1 = .ok (.getstatic 13, 3) := by decide +kernel
theorem d2_4 : decode prog_26_method_4_code 4 = .ok (.if_acmp .ne 13, 3) := by decide +kernel
theorem d2_17 : decode prog_26_method_4_code 17 = .ok (.aload_n 0, 1) := by decide +kernel
theorem d2_18 : decode prog_26_method_4_code 18 = .ok (.getfield 35, 3) := by decide +kernel
theorem d2_21 : decode prog_26_method_4_code 21 = .ok (.areturn, 1) := by decide +kernel
def Q2i (Z : State) (o0 : Addr) (o1 : Addr) (aP : Addr) (aN : Addr) (sp : Addr) (h0 : Heap) (n0 : Nat) (v : Option Value) (h : Heap) (L : List Loc) : Prop := v = some (.ref sp) ∧ Fr n0 L ∧ h = h0
theorem pn_1 : plainName "com/example/paratitle/paratitle/titles/HeadingElement" = true := by first | (simp [plainName, overriddenIn]; done) | decide +kernel
theorem ef_2_aa (m : MethodId) (x0 : Addr) (x1 : Addr) : entryFrame m #[(.ref x0), (.ref x1)] 2 = mkF m 0 #[.val (.ref x0), .val (.ref x1)] [] := by first | (simp [entryFrame, mkF, argsToLocals, Value.category]; done) | rfl
set_option maxRecDepth 65536 in
set_option maxHeartbeats 40000000 in
theorem rm2i (l : Launch) (Z : State) (a0 : Array Value) (hw : ∀ d ∈ tables_1, d.before a0 Z = true) (ws : List Jvm.Cond) (o0 : Addr) (o1 : Addr) (aP : Addr) (aN : Addr) (sp : Addr) (h0 : Heap) (n0 : Nat) (Z0 : n0 ≤ h0.size) (ha0 : Sta Z h0 "com/example/paratitle/paratitle/titles/HeadingElement" "PART_NAME" "Lcom/example/paratitle/paratitle/titles/HeadingElement;" (.ref aP)) (ha1 : Sta Z h0 "com/example/paratitle/paratitle/titles/HeadingElement" "PART_NUMBER" "Lcom/example/paratitle/paratitle/titles/HeadingElement;" (.ref aN)) (ha2 : Fld Z h0 o0 "com/example/paratitle/paratitle/titles/HeadingElement" "separator" "Ljava/lang/String;" (.ref sp)) (hne_o0_aP : o0 ≠ aP) :
    MetFree l (⟨"com/example/paratitle/paratitle/titles/HeadingElement", "separatorAfter", "(Lcom/example/paratitle/paratitle/titles/HeadingElement;)Ljava/lang/String;"⟩ : MethodName) (head1 (Jvm.Cond.code (⟨"com/example/paratitle/paratitle/titles/HeadingElement", "separatorAfter", "(Lcom/example/paratitle/paratitle/titles/HeadingElement;)Ljava/lang/String;"⟩ : MethodName) prog_26_method_4_code 2 (some (.object "java/lang/String")) :: ws) ({ frames := 0, cells := 0, slots := 0, locals := 0 } : Room)) (fun a U => a = #[(.ref o0), (.ref o1)] ∧ Z.Warmed39 U.vm ∧ U.heap = h0) (fun _ _ _ _ _ => True) (fun _ U o U' => ∃ v L, o = .returned v ∧ Q2i Z o0 o1 aP aN sp h0 n0 v U'.heap L ∧ FrameEnd U o U' L ({ frames := 0, cells := 0, slots := 0, locals := 0 } : Room).cells ({ frames := 0, cells := 0, slots := 0, locals := 0 } : Room).slots) := by
  refine MetFree.of_bodySF (plainFor_of_name pn_1) hisR ?_
  intro p e s m args below meth c s₁ Bd hml0 hP hK
  obtain ⟨rfl, hZ, hh⟩ := hP
  have hx := Bd.exec
  have hby := Bd.bytes
  have hml : c.maxLocals = 2 := hml0
  have hown : s.vm.findClass "com/example/paratitle/paratitle/titles/HeadingElement" = some m.cls := findClass_of_methodNamed Bd.named
  have hnm := (name_of_methodNamed Bd.named Bd.method).1
  have X0 : Stand p l e ({ frames := 0, cells := 0, slots := 0, locals := 0 } : Room) s m #[(.ref o0), (.ref o1)] below meth c s₁ [] 0 0 := Stand.of_body Bd
  have e0 : s₁.heap = h0 := by rw [← hh, Bd.state]; rfl
  have N0 := Fr.nil n0
  refine Go.into (P := fun oo uu => ∃ v L, oo = .returned v ∧ Q2i Z o0 o1 aP aN sp h0 n0 v uu.heap L ∧ FrameEnd s oo uu L ({ frames := 0, cells := 0, slots := 0, locals := 0 } : Room).cells ({ frames := 0, cells := 0, slots := 0, locals := 0 } : Room).slots) (ef_2_aa m o0 o1) ?_
  show Go p e below _ (s₁.setTop (mkF m 0 #[.val (.ref o0), .val (.ref o1)] []))
  refine Go.via (T' := s₁.setTop (mkF m 1 #[.val (.ref o0), .val (.ref o1)] [(.ref o0)])) (fun tZ kZ => ?_) ?_
  · show Steps p.tables e below (s₁.setTop (mkF m 0 #[.val (.ref o0), .val (.ref o1)] [])) _
    refine XS.aloadN X0.here hx rfl (hb hby d2_0) rfl rfl ?_
    show Steps p.tables e below (s₁.setTop (mkF m 1 #[.val (.ref o0), .val (.ref o1)] [(.ref o0)])) _
    exact kZ
  obtain ⟨T1, X1, e1, st1⟩ := getS2 X0 hx hZ hown (host := "") (Or.inl (hw _ (List.mem_of_getElem? (i := 14) rfl))) Via.refl e0 ha0 (g := (mkF m 1 #[.val (.ref o0), .val (.ref o1)] [(.ref o0)])) rfl (hb hby d2_1)
  refine Go.via st1 ?_
  show Go p e below _ (T1.setTop (mkF m 4 #[.val (.ref o0), .val (.ref o1)] [(.ref aP), (.ref o0)]))
  refine Go.via (T' := T1.setTop (mkF m 18 #[.val (.ref o0), .val (.ref o1)] [(.ref o0)])) (fun tZ kZ => ?_) ?_
  · show Steps p.tables e below (T1.setTop (mkF m 4 #[.val (.ref o0), .val (.ref o1)] [(.ref aP), (.ref o0)])) _
    refine Jvm.RoadKit.acmp (g := (mkF m 4 #[.val (.ref o0), .val (.ref o1)] [(.ref aP), (.ref o0)])) X1 hx rfl rfl rfl (pc0 := 4) (pc' := 17) (same := false) rfl (hb hby d2_4) rfl (decide_eq_false fun q => hne_o0_aP (Value.ref.inj q)) (by decide) (by decide) ?_
    show Steps p.tables e below (T1.setTop (mkF m 17 #[.val (.ref o0), .val (.ref o1)] [])) _
    refine XS.aloadN X1.here hx rfl (hb hby d2_17) rfl rfl ?_
    show Steps p.tables e below (T1.setTop (mkF m 18 #[.val (.ref o0), .val (.ref o1)] [(.ref o0)])) _
    exact kZ
  obtain ⟨T2, X2, e2, st2⟩ := getF X1 hx hZ hown (host := "") (Or.inl (hw _ (List.mem_of_getElem? (i := 15) rfl))) Via.refl e1 ha2 (g := (mkF m 18 #[.val (.ref o0), .val (.ref o1)] [(.ref o0)])) rfl rfl (hb hby d2_18)
  refine Go.via st2 ?_
  show Go p e below _ (T2.setTop (mkF m 21 #[.val (.ref o0), .val (.ref o1)] [(.ref sp)]))
  refine Go.retR X2 hx Bd.notSynchronized Bd.returns rfl rfl (hb hby d2_21) (by decide) (by decide) ?_
  rw [e2]
  exact ⟨rfl, N0, rfl⟩
theorem d2_7 : decode prog_26_method_4_code 7 = .ok (.aload_n 1, 1) := by decide +kernel
theorem d2_8 : decode prog_26_method_4_code 8 = .ok (.getstatic 10, 3) := by decide +kernel
theorem d2_11 : decode prog_26_method_4_code 11 = .ok (.if_acmp .ne 6, 3) := by decide +kernel
def Q2p (Z : State) (aP : Addr) (o1 : Addr) (aN : Addr) (sp : Addr) (h0 : Heap) (n0 : Nat) (v : Option Value) (h : Heap) (L : List Loc) : Prop := v = some (.ref sp) ∧ Fr n0 L ∧ h = h0
set_option maxRecDepth 65536 in
set_option maxHeartbeats 40000000 in
theorem rm2p (l : Launch) (Z : State) (a0 : Array Value) (hw : ∀ d ∈ tables_1, d.before a0 Z = true) (ws : List Jvm.Cond) (aP : Addr) (o1 : Addr) (aN : Addr) (sp : Addr) (h0 : Heap) (n0 : Nat) (Z0 : n0 ≤ h0.size) (ha0 : Sta Z h0 "com/example/paratitle/paratitle/titles/HeadingElement" "PART_NAME" "Lcom/example/paratitle/paratitle/titles/HeadingElement;" (.ref aP)) (ha1 : Sta Z h0 "com/example/paratitle/paratitle/titles/HeadingElement" "PART_NUMBER" "Lcom/example/paratitle/paratitle/titles/HeadingElement;" (.ref aN)) (ha2 : Fld Z h0 aP "com/example/paratitle/paratitle/titles/HeadingElement" "separator" "Ljava/lang/String;" (.ref sp)) (hne_o1_aN : o1 ≠ aN) :
    MetFree l (⟨"com/example/paratitle/paratitle/titles/HeadingElement", "separatorAfter", "(Lcom/example/paratitle/paratitle/titles/HeadingElement;)Ljava/lang/String;"⟩ : MethodName) (head1 (Jvm.Cond.code (⟨"com/example/paratitle/paratitle/titles/HeadingElement", "separatorAfter", "(Lcom/example/paratitle/paratitle/titles/HeadingElement;)Ljava/lang/String;"⟩ : MethodName) prog_26_method_4_code 2 (some (.object "java/lang/String")) :: ws) ({ frames := 0, cells := 0, slots := 0, locals := 0 } : Room)) (fun a U => a = #[(.ref aP), (.ref o1)] ∧ Z.Warmed39 U.vm ∧ U.heap = h0) (fun _ _ _ _ _ => True) (fun _ U o U' => ∃ v L, o = .returned v ∧ Q2p Z aP o1 aN sp h0 n0 v U'.heap L ∧ FrameEnd U o U' L ({ frames := 0, cells := 0, slots := 0, locals := 0 } : Room).cells ({ frames := 0, cells := 0, slots := 0, locals := 0 } : Room).slots) := by
  refine MetFree.of_bodySF (plainFor_of_name pn_1) hisR ?_
  intro p e s m args below meth c s₁ Bd hml0 hP hK
  obtain ⟨rfl, hZ, hh⟩ := hP
  have hx := Bd.exec
  have hby := Bd.bytes
  have hml : c.maxLocals = 2 := hml0
  have hown : s.vm.findClass "com/example/paratitle/paratitle/titles/HeadingElement" = some m.cls := findClass_of_methodNamed Bd.named
  have hnm := (name_of_methodNamed Bd.named Bd.method).1
  have X0 : Stand p l e ({ frames := 0, cells := 0, slots := 0, locals := 0 } : Room) s m #[(.ref aP), (.ref o1)] below meth c s₁ [] 0 0 := Stand.of_body Bd
  have e0 : s₁.heap = h0 := by rw [← hh, Bd.state]; rfl
  have N0 := Fr.nil n0
  refine Go.into (P := fun oo uu => ∃ v L, oo = .returned v ∧ Q2p Z aP o1 aN sp h0 n0 v uu.heap L ∧ FrameEnd s oo uu L ({ frames := 0, cells := 0, slots := 0, locals := 0 } : Room).cells ({ frames := 0, cells := 0, slots := 0, locals := 0 } : Room).slots) (ef_2_aa m aP o1) ?_
  show Go p e below _ (s₁.setTop (mkF m 0 #[.val (.ref aP), .val (.ref o1)] []))
  refine Go.via (T' := s₁.setTop (mkF m 1 #[.val (.ref aP), .val (.ref o1)] [(.ref aP)])) (fun tZ kZ => ?_) ?_
  · show Steps p.tables e below (s₁.setTop (mkF m 0 #[.val (.ref aP), .val (.ref o1)] [])) _
    refine XS.aloadN X0.here hx rfl (hb hby d2_0) rfl rfl ?_
    show Steps p.tables e below (s₁.setTop (mkF m 1 #[.val (.ref aP), .val (.ref o1)] [(.ref aP)])) _
    exact kZ
  obtain ⟨T1, X1, e1, st1⟩ := getS2 X0 hx hZ hown (host := "") (Or.inl (hw _ (List.mem_of_getElem? (i := 14) rfl))) Via.refl e0 ha0 (g := (mkF m 1 #[.val (.ref aP), .val (.ref o1)] [(.ref aP)])) rfl (hb hby d2_1)
  refine Go.via st1 ?_
  show Go p e below _ (T1.setTop (mkF m 4 #[.val (.ref aP), .val (.ref o1)] [(.ref aP), (.ref aP)]))
  refine Go.via (T' := T1.setTop (mkF m 8 #[.val (.ref aP), .val (.ref o1)] [(.ref o1)])) (fun tZ kZ => ?_) ?_
  · show Steps p.tables e below (T1.setTop (mkF m 4 #[.val (.ref aP), .val (.ref o1)] [(.ref aP), (.ref aP)])) _
    refine Jvm.RoadKit.acmp (g := (mkF m 4 #[.val (.ref aP), .val (.ref o1)] [(.ref aP), (.ref aP)])) X1 hx rfl rfl rfl (pc0 := 4) (pc' := 7) (same := true) rfl (hb hby d2_4) rfl (decide_eq_true rfl) (by decide) (by decide) ?_
    show Steps p.tables e below (T1.setTop (mkF m 7 #[.val (.ref aP), .val (.ref o1)] [])) _
    refine XS.aloadN X1.here hx rfl (hb hby d2_7) rfl rfl ?_
    show Steps p.tables e below (T1.setTop (mkF m 8 #[.val (.ref aP), .val (.ref o1)] [(.ref o1)])) _
    exact kZ
  obtain ⟨T2, X2, e2, st2⟩ := getS2 X1 hx hZ hown (host := "") (Or.inl (hw _ (List.mem_of_getElem? (i := 44) rfl))) Via.refl e1 ha1 (g := (mkF m 8 #[.val (.ref aP), .val (.ref o1)] [(.ref o1)])) rfl (hb hby d2_8)
  refine Go.via st2 ?_
  show Go p e below _ (T2.setTop (mkF m 11 #[.val (.ref aP), .val (.ref o1)] [(.ref aN), (.ref o1)]))
  refine Go.via (T' := T2.setTop (mkF m 18 #[.val (.ref aP), .val (.ref o1)] [(.ref aP)])) (fun tZ kZ => ?_) ?_
  · show Steps p.tables e below (T2.setTop (mkF m 11 #[.val (.ref aP), .val (.ref o1)] [(.ref aN), (.ref o1)])) _
    refine Jvm.RoadKit.acmp (g := (mkF m 11 #[.val (.ref aP), .val (.ref o1)] [(.ref aN), (.ref o1)])) X2 hx rfl rfl rfl (pc0 := 11) (pc' := 17) (same := false) rfl (hb hby d2_11) rfl (decide_eq_false fun q => hne_o1_aN (Value.ref.inj q)) (by decide) (by decide) ?_
    show Steps p.tables e below (T2.setTop (mkF m 17 #[.val (.ref aP), .val (.ref o1)] [])) _
    refine XS.aloadN X2.here hx rfl (hb hby d2_17) rfl rfl ?_
    show Steps p.tables e below (T2.setTop (mkF m 18 #[.val (.ref aP), .val (.ref o1)] [(.ref aP)])) _
    exact kZ
  obtain ⟨T3, X3, e3, st3⟩ := getF X2 hx hZ hown (host := "") (Or.inl (hw _ (List.mem_of_getElem? (i := 15) rfl))) Via.refl e2 ha2 (g := (mkF m 18 #[.val (.ref aP), .val (.ref o1)] [(.ref aP)])) rfl rfl (hb hby d2_18)
  refine Go.via st3 ?_
  show Go p e below _ (T3.setTop (mkF m 21 #[.val (.ref aP), .val (.ref o1)] [(.ref sp)]))
  refine Go.retR X3 hx Bd.notSynchronized Bd.returns rfl rfl (hb hby d2_21) (by decide) (by decide) ?_
  rw [e3]
  exact ⟨rfl, N0, rfl⟩
theorem d2_14 : decode prog_26_method_4_code 14 = .ok (.ldc 39, 2) := by decide +kernel
theorem d2_16 : decode prog_26_method_4_code 16 = .ok (.areturn, 1) := by decide +kernel
def QW (Z : State) (h0 : Heap) (n0 : Nat) (v : Option Value) (h : Heap) (L : List Loc) : Prop := ∃ a b : Addr, v = some (.ref a) ∧ Fr n0 L ∧ Keep h0 h [] ∧ Exa Z h a "java/lang/String" ∧ Fld Z h a "java/lang/String" "coder" "B" (.int (0 : Int32)) ∧ Fld Z h a "java/lang/String" "value" "[B" (.ref b) ∧ AV Z h b .byte 2 (fun k => .int ((own_t [44, 32]) k))
set_option maxRecDepth 65536 in
set_option maxHeartbeats 40000000 in
theorem rm2w (l : Launch) (Z : State) (a0 : Array Value) (hw : ∀ d ∈ tables_1, d.before a0 Z = true) (ws : List Jvm.Cond) (aP : Addr) (aN : Addr) (h0 : Heap) (n0 : Nat) (Z0 : n0 ≤ h0.size) (ha0 : Sta Z h0 "com/example/paratitle/paratitle/titles/HeadingElement" "PART_NAME" "Lcom/example/paratitle/paratitle/titles/HeadingElement;" (.ref aP)) (ha1 : Sta Z h0 "com/example/paratitle/paratitle/titles/HeadingElement" "PART_NUMBER" "Lcom/example/paratitle/paratitle/titles/HeadingElement;" (.ref aN)) :
    MetFree l (⟨"com/example/paratitle/paratitle/titles/HeadingElement", "separatorAfter", "(Lcom/example/paratitle/paratitle/titles/HeadingElement;)Ljava/lang/String;"⟩ : MethodName) (head1 (Jvm.Cond.code (⟨"com/example/paratitle/paratitle/titles/HeadingElement", "separatorAfter", "(Lcom/example/paratitle/paratitle/titles/HeadingElement;)Ljava/lang/String;"⟩ : MethodName) prog_26_method_4_code 2 (some (.object "java/lang/String")) :: ws) ({ frames := 0, cells := 2, slots := 68, locals := 0 } : Room)) (fun a U => a = #[(.ref aP), (.ref aN)] ∧ Z.Warmed39 U.vm ∧ U.heap = h0 ∧ CHv Z own_EL U.vm h0) (fun _ _ _ _ _ => True) (fun _ U o U' => ∃ v L, o = .returned v ∧ QW Z h0 n0 v U'.heap L ∧ CHr Z own_EL U.vm U.heap U'.vm U'.heap ∧ ReturnedEndW U o U' L ({ frames := 0, cells := 2, slots := 68, locals := 0 } : Room).cells ({ frames := 0, cells := 2, slots := 68, locals := 0 } : Room).slots) := by
  refine MetFree.of_bodySF (plainFor_of_name pn_1) hisR ?_
  intro p e s m args below meth c s₁ Bd hml0 hP hK
  obtain ⟨rfl, hZ, hh, hCH⟩ := hP
  have hx := Bd.exec
  have hby := Bd.bytes
  have hml : c.maxLocals = 2 := hml0
  have hown : s.vm.findClass "com/example/paratitle/paratitle/titles/HeadingElement" = some m.cls := findClass_of_methodNamed Bd.named
  have hnm := (name_of_methodNamed Bd.named Bd.method).1
  have X0 : Stand p l e ({ frames := 0, cells := 2, slots := 68, locals := 0 } : Room) s m #[(.ref aP), (.ref aN)] below meth c s₁ [] 0 0 := Stand.of_body Bd
  have e0 : s₁.heap = h0 := by rw [← hh, Bd.state]; rfl
  have N0 := Fr.nil n0
  refine Go.into (P := fun oo uu => ∃ v L, oo = .returned v ∧ QW Z h0 n0 v uu.heap L ∧ CHr Z own_EL s.vm s.heap uu.vm uu.heap ∧ ReturnedEndW s oo uu L ({ frames := 0, cells := 2, slots := 68, locals := 0 } : Room).cells ({ frames := 0, cells := 2, slots := 68, locals := 0 } : Room).slots) (ef_2_aa m aP aN) ?_
  show Go p e below _ (s₁.setTop (mkF m 0 #[.val (.ref aP), .val (.ref aN)] []))
  have hS0 : s.Since s.vm 0 := (State.WarmedH.refl s).since 0
  have wS : ∀ a ∈ Bundle.stringAtoms, a.before a0 Z = true := by
    intro d hd
    simp only [Bundle.stringAtoms, List.mem_cons, List.not_mem_nil, or_false] at hd
    rcases hd with rfl | rfl | rfl | rfl | rfl | rfl | rfl
    · exact (hw _ (List.mem_of_getElem? (i := 18) rfl))
    · exact (hw _ (List.mem_of_getElem? (i := 19) rfl))
    · exact (hw _ (List.mem_of_getElem? (i := 20) rfl))
    · exact (hw _ (List.mem_of_getElem? (i := 21) rfl))
    · exact (hw _ (List.mem_of_getElem? (i := 22) rfl))
    · exact (hw _ (List.mem_of_getElem? (i := 23) rfl))
    · exact (hw _ (List.mem_of_getElem? (i := 24) rfl))
  refine Go.via (T' := s₁.setTop (mkF m 1 #[.val (.ref aP), .val (.ref aN)] [(.ref aP)])) (fun tZ kZ => ?_) ?_
  · show Steps p.tables e below (s₁.setTop (mkF m 0 #[.val (.ref aP), .val (.ref aN)] [])) _
    refine XS.aloadN X0.here hx rfl (hb hby d2_0) rfl rfl ?_
    show Steps p.tables e below (s₁.setTop (mkF m 1 #[.val (.ref aP), .val (.ref aN)] [(.ref aP)])) _
    exact kZ
  obtain ⟨T1, X1, e1, st1⟩ := getS2 X0 hx hZ hown (host := "") (Or.inl (hw _ (List.mem_of_getElem? (i := 14) rfl))) Via.refl e0 ha0 (g := (mkF m 1 #[.val (.ref aP), .val (.ref aN)] [(.ref aP)])) rfl (hb hby d2_1)
  refine Go.via st1 ?_
  show Go p e below _ (T1.setTop (mkF m 4 #[.val (.ref aP), .val (.ref aN)] [(.ref aP), (.ref aP)]))
  refine Go.via (T' := T1.setTop (mkF m 8 #[.val (.ref aP), .val (.ref aN)] [(.ref aN)])) (fun tZ kZ => ?_) ?_
  · show Steps p.tables e below (T1.setTop (mkF m 4 #[.val (.ref aP), .val (.ref aN)] [(.ref aP), (.ref aP)])) _
    refine Jvm.RoadKit.acmp (g := (mkF m 4 #[.val (.ref aP), .val (.ref aN)] [(.ref aP), (.ref aP)])) X1 hx rfl rfl rfl (pc0 := 4) (pc' := 7) (same := true) rfl (hb hby d2_4) rfl (decide_eq_true rfl) (by decide) (by decide) ?_
    show Steps p.tables e below (T1.setTop (mkF m 7 #[.val (.ref aP), .val (.ref aN)] [])) _
    refine XS.aloadN X1.here hx rfl (hb hby d2_7) rfl rfl ?_
    show Steps p.tables e below (T1.setTop (mkF m 8 #[.val (.ref aP), .val (.ref aN)] [(.ref aN)])) _
    exact kZ
  obtain ⟨T2, X2, e2, st2⟩ := getS2 X1 hx hZ hown (host := "") (Or.inl (hw _ (List.mem_of_getElem? (i := 44) rfl))) Via.refl e1 ha1 (g := (mkF m 8 #[.val (.ref aP), .val (.ref aN)] [(.ref aN)])) rfl (hb hby d2_8)
  refine Go.via st2 ?_
  show Go p e below _ (T2.setTop (mkF m 11 #[.val (.ref aP), .val (.ref aN)] [(.ref aN), (.ref aN)]))
  refine Go.via (T' := T2.setTop (mkF m 14 #[.val (.ref aP), .val (.ref aN)] [])) (fun tZ kZ => ?_) ?_
  · show Steps p.tables e below (T2.setTop (mkF m 11 #[.val (.ref aP), .val (.ref aN)] [(.ref aN), (.ref aN)])) _
    refine Jvm.RoadKit.acmp (g := (mkF m 11 #[.val (.ref aP), .val (.ref aN)] [(.ref aN), (.ref aN)])) X2 hx rfl rfl rfl (pc0 := 11) (pc' := 14) (same := true) rfl (hb hby d2_11) rfl (decide_eq_true rfl) (by decide) (by decide) ?_
    show Steps p.tables e below (T2.setTop (mkF m 14 #[.val (.ref aP), .val (.ref aN)] [])) _
    exact kZ
  obtain ⟨as3, T3, h3, kk3, ab3, kc3, X3, e3, E3, hS3, hk3, hZ, hown, Ea3, Fc3, Fv3, Ar3, -, -, CR3, -, -, st3⟩ := ldcCH (s := s) (vm0 := s.vm) (EL := own_EL) X2 hx hZ hown (hw _ (List.mem_of_getElem? (i := 45) rfl)) wS e2 hS0 (Nat.zero_le _) (own_EW hw) (by simp [own_EL]) hCH (vs := [44, 32].map Value.int) (z := 2) ⟨by decide, by decide +kernel⟩ (by decide) rfl (g := (mkF m 14 #[.val (.ref aP), .val (.ref aN)] [])) rfl (hb hby d2_14) (n := 64) (by decide) (by decide) (by decide) (by decide)
  have c4_0 := ha0.ext E3
  have c4_1 := ha1.ext E3
  have Va3 := AV.ofArv Ar3 (n := 2) rfl (by decide)
  have K3 : Keep h0 h3 [] := (Keep.refl h0 []).ext E3
  have Z3 : n0 ≤ h3.size := Nat.le_trans Z0 E3.1
  refine Go.via st3 ?_
  show Go p e below _ (T3.setTop (mkF m 16 #[.val (.ref aP), .val (.ref aN)] [(.ref as3)]))
  obtain ⟨fs, hr, hrun, hended, hRW⟩ := X3.leaveW (s := s) (vm₁ := T3.vm) hS3 (by rw [e3]; exact hk3) (v := some (.ref as3)) (fun h => by rw [Bd.returns] at h; cases h) Bd.notSynchronized
  refine ⟨_, _, retOut X3 hx Bd.returns rfl (Or.inr (Or.inr (Or.inr (Or.inr ⟨rfl, rfl, rfl⟩)))) (hb hby d2_16) hr, hrun, hended, _, _, rfl, ?_, ?_, hRW⟩
  · show QW _ _ _ _ (T3.heap) _
    rw [e3]
    exact ⟨as3, ab3, rfl, N0, K3, Ea3, Fc3, Fv3, Va3⟩
  · show CHr _ _ _ _ T3.vm T3.heap
    rw [e3, hh]
    exact CR3
theorem d4_0 : decode jdk_43_method_13_code 0 = .ok (.aload_n 0, 1) := by decide +kernel
theorem d4_1 : decode jdk_43_method_13_code 1 = .ok (.arraylength, 1) := by decide +kernel
theorem d4_2 : decode jdk_43_method_13_code 2 = .ok (.aload_n 1, 1) := by decide +kernel
theorem d4_3 : decode jdk_43_method_13_code 3 = .ok (.arraylength, 1) := by decide +kernel
theorem d4_4 : decode jdk_43_method_13_code 4 = .ok (.if_icmp .ne 30, 3) := by decide +kernel
theorem d4_7 : decode jdk_43_method_13_code 7 = .ok (.iconst 0, 1) := by decide +kernel
theorem d4_8 : decode jdk_43_method_13_code 8 = .ok (.istore_n 2, 1) := by decide +kernel
theorem d4_9 : decode jdk_43_method_13_code 9 = .ok (.iload_n 2, 1) := by decide +kernel
theorem d4_10 : decode jdk_43_method_13_code 10 = .ok (.aload_n 0, 1) := by decide +kernel
theorem d4_11 : decode jdk_43_method_13_code 11 = .ok (.arraylength, 1) := by decide +kernel
theorem d4_12 : decode jdk_43_method_13_code 12 = .ok (.if_icmp .ge 20, 3) := by decide +kernel
theorem d4_15 : decode jdk_43_method_13_code 15 = .ok (.aload_n 0, 1) := by decide +kernel
theorem d4_16 : decode jdk_43_method_13_code 16 = .ok (.iload_n 2, 1) := by decide +kernel
theorem d4_17 : decode jdk_43_method_13_code 17 = .ok (.baload, 1) := by decide +kernel
theorem d4_18 : decode jdk_43_method_13_code 18 = .ok (.aload_n 1, 1) := by decide +kernel
theorem d4_19 : decode jdk_43_method_13_code 19 = .ok (.iload_n 2, 1) := by decide +kernel
theorem d4_20 : decode jdk_43_method_13_code 20 = .ok (.baload, 1) := by decide +kernel
theorem d4_21 : decode jdk_43_method_13_code 21 = .ok (.if_icmp .eq 5, 3) := by decide +kernel
theorem d4_26 : decode jdk_43_method_13_code 26 = .ok (.iinc 2 1, 3) := by decide +kernel
theorem d4_29 : decode jdk_43_method_13_code 29 = .ok (.goto (-20), 3) := by decide +kernel
theorem d4_32 : decode jdk_43_method_13_code 32 = .ok (.iconst 1, 1) := by decide +kernel
theorem d4_33 : decode jdk_43_method_13_code 33 = .ok (.ireturn, 1) := by decide +kernel
def Q4n2 (Z : State) (o0 : Addr) (o1 : Addr) (fF : Nat → Int32) (h0 : Heap) (n0 : Nat) (v : Option Value) (h : Heap) (L : List Loc) : Prop := v = some (.int (1 : Int32)) ∧ Fr n0 L ∧ h = h0
theorem pn_2 : plainName "java/lang/StringLatin1" = true := by first | (simp [plainName, overriddenIn]; done) | decide +kernel
theorem ef_4_aa (m : MethodId) (x0 : Addr) (x1 : Addr) : entryFrame m #[(.ref x0), (.ref x1)] 3 = mkF m 0 #[.val (.ref x0), .val (.ref x1), .unset] [] := by first | (simp [entryFrame, mkF, argsToLocals, Value.category]; done) | rfl
set_option maxRecDepth 65536 in
set_option maxHeartbeats 40000000 in
theorem rm4n2 (l : Launch) (Z : State) (a0 : Array Value) (hw : ∀ d ∈ tables_1, d.before a0 Z = true) (ws : List Jvm.Cond) (o0 : Addr) (o1 : Addr) (fF : Nat → Int32) (h0 : Heap) (n0 : Nat) (Z0 : n0 ≤ h0.size) (ha0 : AV Z h0 o0 .byte 2 (fun k => .int (fF k))) (ha1 : AV Z h0 o1 .byte 2 (fun k => .int (fF k))) :
    MetFree l (⟨"java/lang/StringLatin1", "equals", "([B[B)Z"⟩ : MethodName) (head1 (Jvm.Cond.code (⟨"java/lang/StringLatin1", "equals", "([B[B)Z"⟩ : MethodName) jdk_43_method_13_code 3 (some .boolean) :: ws) ({ frames := 0, cells := 0, slots := 0, locals := 0 } : Room)) (fun a U => a = #[(.ref o0), (.ref o1)] ∧ Z.Warmed39 U.vm ∧ U.heap = h0) (fun _ _ _ _ _ => True) (fun _ U o U' => ∃ v L, o = .returned v ∧ Q4n2 Z o0 o1 fF h0 n0 v U'.heap L ∧ FrameEnd U o U' L ({ frames := 0, cells := 0, slots := 0, locals := 0 } : Room).cells ({ frames := 0, cells := 0, slots := 0, locals := 0 } : Room).slots) := by
  refine MetFree.of_bodySF (plainFor_of_name pn_2) hisR ?_
  intro p e s m args below meth c s₁ Bd hml0 hP hK
  obtain ⟨rfl, hZ, hh⟩ := hP
  have hx := Bd.exec
  have hby := Bd.bytes
  have hml : c.maxLocals = 3 := hml0
  have hown : s.vm.findClass "java/lang/StringLatin1" = some m.cls := findClass_of_methodNamed Bd.named
  have hnm := (name_of_methodNamed Bd.named Bd.method).1
  have X0 : Stand p l e ({ frames := 0, cells := 0, slots := 0, locals := 0 } : Room) s m #[(.ref o0), (.ref o1)] below meth c s₁ [] 0 0 := Stand.of_body Bd
  have e0 : s₁.heap = h0 := by rw [← hh, Bd.state]; rfl
  have N0 := Fr.nil n0
  refine Go.into (P := fun oo uu => ∃ v L, oo = .returned v ∧ Q4n2 Z o0 o1 fF h0 n0 v uu.heap L ∧ FrameEnd s oo uu L ({ frames := 0, cells := 0, slots := 0, locals := 0 } : Room).cells ({ frames := 0, cells := 0, slots := 0, locals := 0 } : Room).slots) (ef_4_aa m o0 o1) ?_
  show Go p e below _ (s₁.setTop (mkF m 0 #[.val (.ref o0), .val (.ref o1), .unset] []))
  refine Go.via (T' := s₁.setTop (mkF m 33 #[.val (.ref o0), .val (.ref o1), .val (.int (2 : Int32))] [(.int (1 : Int32))])) (fun tZ kZ => ?_) ?_
  · show Steps p.tables e below (s₁.setTop (mkF m 0 #[.val (.ref o0), .val (.ref o1), .unset] [])) _
    refine XS.aloadN X0.here hx rfl (hb hby d4_0) rfl rfl ?_
    show Steps p.tables e below (s₁.setTop (mkF m 1 #[.val (.ref o0), .val (.ref o1), .unset] [(.ref o0)])) _
    refine AV.len ha0 X0 hx hZ e0 (hb hby d4_1) ?_
    show Steps p.tables e below (s₁.setTop (mkF m 2 #[.val (.ref o0), .val (.ref o1), .unset] [(.int (2 : Int32))])) _
    refine XS.aloadN X0.here hx rfl (hb hby d4_2) rfl rfl ?_
    show Steps p.tables e below (s₁.setTop (mkF m 3 #[.val (.ref o0), .val (.ref o1), .unset] [(.ref o1), (.int (2 : Int32))])) _
    refine AV.len ha1 X0 hx hZ e0 (hb hby d4_3) ?_
    show Steps p.tables e below (s₁.setTop (mkF m 4 #[.val (.ref o0), .val (.ref o1), .unset] [(.int (2 : Int32)), (.int (2 : Int32))])) _
    refine XS.icmpNo X0.here hx rfl (hb hby d4_4) rfl (teq (by decide)).2 ?_
    show Steps p.tables e below (s₁.setTop (mkF m 7 #[.val (.ref o0), .val (.ref o1), .unset] [])) _
    refine XS.iconst X0.here hx rfl (hb hby d4_7) ?_
    show Steps p.tables e below (s₁.setTop (mkF m 8 #[.val (.ref o0), .val (.ref o1), .unset] [(.int (0 : Int32))])) _
    refine XS.istoreN X0.here hx rfl (hb hby d4_8) rfl (l' := #[.val (.ref o0), .val (.ref o1), .val (.int (0 : Int32))]) rfl ?_
    show Steps p.tables e below (s₁.setTop (mkF m 9 #[.val (.ref o0), .val (.ref o1), .val (.int (0 : Int32))] [])) _
    refine XS.iloadN X0.here hx rfl (hb hby d4_9) rfl ?_
    show Steps p.tables e below (s₁.setTop (mkF m 10 #[.val (.ref o0), .val (.ref o1), .val (.int (0 : Int32))] [(.int (0 : Int32))])) _
    refine XS.aloadN X0.here hx rfl (hb hby d4_10) rfl rfl ?_
    show Steps p.tables e below (s₁.setTop (mkF m 11 #[.val (.ref o0), .val (.ref o1), .val (.int (0 : Int32))] [(.ref o0), (.int (0 : Int32))])) _
    refine AV.len ha0 X0 hx hZ e0 (hb hby d4_11) ?_
    show Steps p.tables e below (s₁.setTop (mkF m 12 #[.val (.ref o0), .val (.ref o1), .val (.int (0 : Int32))] [(.int (2 : Int32)), (.int (0 : Int32))])) _
    refine XS.icmpNo X0.here hx rfl (hb hby d4_12) rfl (tlt (by decide)).2.1 ?_
    show Steps p.tables e below (s₁.setTop (mkF m 15 #[.val (.ref o0), .val (.ref o1), .val (.int (0 : Int32))] [])) _
    refine XS.aloadN X0.here hx rfl (hb hby d4_15) rfl rfl ?_
    show Steps p.tables e below (s₁.setTop (mkF m 16 #[.val (.ref o0), .val (.ref o1), .val (.int (0 : Int32))] [(.ref o0)])) _
    refine XS.iloadN X0.here hx rfl (hb hby d4_16) rfl ?_
    show Steps p.tables e below (s₁.setTop (mkF m 17 #[.val (.ref o0), .val (.ref o1), .val (.int (0 : Int32))] [(.int (0 : Int32)), (.ref o0)])) _
    refine AV.baload ha0 X0 hx hZ e0 (j := (0 : Int32)) (by decide) (hb hby d4_17) ?_
    show Steps p.tables e below (s₁.setTop (mkF m 18 #[.val (.ref o0), .val (.ref o1), .val (.int (0 : Int32))] [(.int (fF (0 : Int32).toNatClampNeg))])) _
    refine XS.aloadN X0.here hx rfl (hb hby d4_18) rfl rfl ?_
    show Steps p.tables e below (s₁.setTop (mkF m 19 #[.val (.ref o0), .val (.ref o1), .val (.int (0 : Int32))] [(.ref o1), (.int (fF (0 : Int32).toNatClampNeg))])) _
    refine XS.iloadN X0.here hx rfl (hb hby d4_19) rfl ?_
    show Steps p.tables e below (s₁.setTop (mkF m 20 #[.val (.ref o0), .val (.ref o1), .val (.int (0 : Int32))] [(.int (0 : Int32)), (.ref o1), (.int (fF (0 : Int32).toNatClampNeg))])) _
    refine AV.baload ha1 X0 hx hZ e0 (j := (0 : Int32)) (by decide) (hb hby d4_20) ?_
    show Steps p.tables e below (s₁.setTop (mkF m 21 #[.val (.ref o0), .val (.ref o1), .val (.int (0 : Int32))] [(.int (fF (0 : Int32).toNatClampNeg)), (.int (fF (0 : Int32).toNatClampNeg))])) _
    refine XS.icmpYes X0.here hx rfl (pc0 := 21) (pc' := 26) rfl (hb hby d4_21) rfl (teq rfl).1 (by decide) (by decide) ?_
    show Steps p.tables e below (s₁.setTop (mkF m 26 #[.val (.ref o0), .val (.ref o1), .val (.int (0 : Int32))] [])) _
    refine XS.iinc X0.here hx rfl (hb hby d4_26) rfl (l' := #[.val (.ref o0), .val (.ref o1), .val (.int (1 : Int32))]) rfl ?_
    show Steps p.tables e below (s₁.setTop (mkF m 29 #[.val (.ref o0), .val (.ref o1), .val (.int (1 : Int32))] [])) _
    refine XS.goto X0.here hx rfl (pc0 := 29) (pc' := 9) rfl (hb hby d4_29) (by decide) (by decide) ?_
    show Steps p.tables e below (s₁.setTop (mkF m 9 #[.val (.ref o0), .val (.ref o1), .val (.int (1 : Int32))] [])) _
    refine XS.iloadN X0.here hx rfl (hb hby d4_9) rfl ?_
    show Steps p.tables e below (s₁.setTop (mkF m 10 #[.val (.ref o0), .val (.ref o1), .val (.int (1 : Int32))] [(.int (1 : Int32))])) _
    refine XS.aloadN X0.here hx rfl (hb hby d4_10) rfl rfl ?_
    show Steps p.tables e below (s₁.setTop (mkF m 11 #[.val (.ref o0), .val (.ref o1), .val (.int (1 : Int32))] [(.ref o0), (.int (1 : Int32))])) _
    refine AV.len ha0 X0 hx hZ e0 (hb hby d4_11) ?_
    show Steps p.tables e below (s₁.setTop (mkF m 12 #[.val (.ref o0), .val (.ref o1), .val (.int (1 : Int32))] [(.int (2 : Int32)), (.int (1 : Int32))])) _
    refine XS.icmpNo X0.here hx rfl (hb hby d4_12) rfl (tlt (by decide)).2.1 ?_
    show Steps p.tables e below (s₁.setTop (mkF m 15 #[.val (.ref o0), .val (.ref o1), .val (.int (1 : Int32))] [])) _
    refine XS.aloadN X0.here hx rfl (hb hby d4_15) rfl rfl ?_
    show Steps p.tables e below (s₁.setTop (mkF m 16 #[.val (.ref o0), .val (.ref o1), .val (.int (1 : Int32))] [(.ref o0)])) _
    refine XS.iloadN X0.here hx rfl (hb hby d4_16) rfl ?_
    show Steps p.tables e below (s₁.setTop (mkF m 17 #[.val (.ref o0), .val (.ref o1), .val (.int (1 : Int32))] [(.int (1 : Int32)), (.ref o0)])) _
    refine AV.baload ha0 X0 hx hZ e0 (j := (1 : Int32)) (by decide) (hb hby d4_17) ?_
    show Steps p.tables e below (s₁.setTop (mkF m 18 #[.val (.ref o0), .val (.ref o1), .val (.int (1 : Int32))] [(.int (fF (1 : Int32).toNatClampNeg))])) _
    refine XS.aloadN X0.here hx rfl (hb hby d4_18) rfl rfl ?_
    show Steps p.tables e below (s₁.setTop (mkF m 19 #[.val (.ref o0), .val (.ref o1), .val (.int (1 : Int32))] [(.ref o1), (.int (fF (1 : Int32).toNatClampNeg))])) _
    refine XS.iloadN X0.here hx rfl (hb hby d4_19) rfl ?_
    show Steps p.tables e below (s₁.setTop (mkF m 20 #[.val (.ref o0), .val (.ref o1), .val (.int (1 : Int32))] [(.int (1 : Int32)), (.ref o1), (.int (fF (1 : Int32).toNatClampNeg))])) _
    refine AV.baload ha1 X0 hx hZ e0 (j := (1 : Int32)) (by decide) (hb hby d4_20) ?_
    show Steps p.tables e below (s₁.setTop (mkF m 21 #[.val (.ref o0), .val (.ref o1), .val (.int (1 : Int32))] [(.int (fF (1 : Int32).toNatClampNeg)), (.int (fF (1 : Int32).toNatClampNeg))])) _
    refine XS.icmpYes X0.here hx rfl (pc0 := 21) (pc' := 26) rfl (hb hby d4_21) rfl (teq rfl).1 (by decide) (by decide) ?_
    show Steps p.tables e below (s₁.setTop (mkF m 26 #[.val (.ref o0), .val (.ref o1), .val (.int (1 : Int32))] [])) _
    refine XS.iinc X0.here hx rfl (hb hby d4_26) rfl (l' := #[.val (.ref o0), .val (.ref o1), .val (.int (2 : Int32))]) rfl ?_
    show Steps p.tables e below (s₁.setTop (mkF m 29 #[.val (.ref o0), .val (.ref o1), .val (.int (2 : Int32))] [])) _
    refine XS.goto X0.here hx rfl (pc0 := 29) (pc' := 9) rfl (hb hby d4_29) (by decide) (by decide) ?_
    show Steps p.tables e below (s₁.setTop (mkF m 9 #[.val (.ref o0), .val (.ref o1), .val (.int (2 : Int32))] [])) _
    refine XS.iloadN X0.here hx rfl (hb hby d4_9) rfl ?_
    show Steps p.tables e below (s₁.setTop (mkF m 10 #[.val (.ref o0), .val (.ref o1), .val (.int (2 : Int32))] [(.int (2 : Int32))])) _
    refine XS.aloadN X0.here hx rfl (hb hby d4_10) rfl rfl ?_
    show Steps p.tables e below (s₁.setTop (mkF m 11 #[.val (.ref o0), .val (.ref o1), .val (.int (2 : Int32))] [(.ref o0), (.int (2 : Int32))])) _
    refine AV.len ha0 X0 hx hZ e0 (hb hby d4_11) ?_
    show Steps p.tables e below (s₁.setTop (mkF m 12 #[.val (.ref o0), .val (.ref o1), .val (.int (2 : Int32))] [(.int (2 : Int32)), (.int (2 : Int32))])) _
    refine XS.icmpYes X0.here hx rfl (pc0 := 12) (pc' := 32) rfl (hb hby d4_12) rfl (flt (by decide)).2.1 (by decide) (by decide) ?_
    show Steps p.tables e below (s₁.setTop (mkF m 32 #[.val (.ref o0), .val (.ref o1), .val (.int (2 : Int32))] [])) _
    refine XS.iconst X0.here hx rfl (hb hby d4_32) ?_
    show Steps p.tables e below (s₁.setTop (mkF m 33 #[.val (.ref o0), .val (.ref o1), .val (.int (2 : Int32))] [(.int (1 : Int32))])) _
    exact kZ
  refine Go.retN X0 hx Bd.notSynchronized (t := .boolean) Bd.returns (by simp) (hb hby d4_33) (by decide) (by decide) ?_
  rw [e0]
  exact ⟨rfl, N0, rfl⟩
theorem d3_0 : decode jdk_42_method_66_code 0 = .ok (.aload_n 0, 1) := by decide +kernel
theorem d3_1 : decode jdk_42_method_66_code 1 = .ok (.aload_n 1, 1) := by decide +kernel
theorem d3_2 : decode jdk_42_method_66_code 2 = .ok (.if_acmp .ne 5, 3) := by decide +kernel
theorem d3_5 : decode jdk_42_method_66_code 5 = .ok (.iconst 1, 1) := by decide +kernel
theorem d3_6 : decode jdk_42_method_66_code 6 = .ok (.ireturn, 1) := by decide +kernel
theorem d3_7 : decode jdk_42_method_66_code 7 = .ok (.aload_n 1, 1) := by decide +kernel
theorem d3_8 : decode jdk_42_method_66_code 8 = .ok (.instanceof 10, 3) := by decide +kernel
theorem d3_11 : decode jdk_42_method_66_code 11 = .ok (.ifCond .eq 43, 3) := by decide +kernel
theorem d3_14 : decode jdk_42_method_66_code 14 = .ok (.aload_n 1, 1) := by decide +kernel
theorem d3_15 : decode jdk_42_method_66_code 15 = .ok (.checkcast 10, 3) := by decide +kernel
theorem d3_18 : decode jdk_42_method_66_code 18 = .ok (.astore_n 2, 1) := by decide +kernel
theorem d3_19 : decode jdk_42_method_66_code 19 = .ok (.getstatic 38, 3) := by decide +kernel
theorem d3_22 : decode jdk_42_method_66_code 22 = .ok (.ifCond .eq 14, 3) := by decide +kernel
theorem d3_25 : decode jdk_42_method_66_code 25 = .ok (.aload_n 0, 1) := by decide +kernel
theorem d3_26 : decode jdk_42_method_66_code 26 = .ok (.getfield 15, 3) := by decide +kernel
theorem d3_29 : decode jdk_42_method_66_code 29 = .ok (.aload_n 2, 1) := by decide +kernel
theorem d3_30 : decode jdk_42_method_66_code 30 = .ok (.getfield 15, 3) := by decide +kernel
theorem d3_33 : decode jdk_42_method_66_code 33 = .ok (.if_icmp .ne 21, 3) := by decide +kernel
theorem d3_36 : decode jdk_42_method_66_code 36 = .ok (.aload_n 0, 1) := by decide +kernel
theorem d3_37 : decode jdk_42_method_66_code 37 = .ok (.getfield 9, 3) := by decide +kernel
theorem d3_40 : decode jdk_42_method_66_code 40 = .ok (.aload_n 2, 1) := by decide +kernel
theorem d3_41 : decode jdk_42_method_66_code 41 = .ok (.getfield 9, 3) := by decide +kernel
theorem pd_3 : parseMethodDescriptor "([B[B)Z" = some ⟨[(.array .byte), (.array .byte)], some .boolean⟩ := by decide +kernel
theorem d3_44 : decode jdk_42_method_66_code 44 = .ok (.invokestatic 541, 3) := by decide +kernel
theorem d3_47 : decode jdk_42_method_66_code 47 = .ok (.ifCond .eq 7, 3) := by decide +kernel
theorem d3_50 : decode jdk_42_method_66_code 50 = .ok (.iconst 1, 1) := by decide +kernel
theorem d3_51 : decode jdk_42_method_66_code 51 = .ok (.goto 4, 3) := by decide +kernel
theorem d3_55 : decode jdk_42_method_66_code 55 = .ok (.ireturn, 1) := by decide +kernel
def f3n2 (o0 : Addr) (o1 : Addr) (b0 : Addr) (b1 : Addr) (fF : Nat → Int32) (cs : Int32) : Int32 := (if o0 = o1 then (1 : Int32) else (1 : Int32))
def Q3n2 (o0 : Addr) (o1 : Addr) (b0 : Addr) (b1 : Addr) (fF : Nat → Int32) (cs : Int32) (h0 : Heap) (n0 : Nat) (v : Option Value) (h : Heap) (L : List Loc) : Prop := v = some (.int (f3n2 o0 o1 b0 b1 fF cs)) ∧ Fr n0 L ∧ h = h0
theorem pn_3 : plainName "java/lang/String" = true := by first | (simp [plainName, overriddenIn]; done) | decide +kernel
theorem ef_3_aa (m : MethodId) (x0 : Addr) (x1 : Addr) : entryFrame m #[(.ref x0), (.ref x1)] 3 = mkF m 0 #[.val (.ref x0), .val (.ref x1), .unset] [] := by first | (simp [entryFrame, mkF, argsToLocals, Value.category]; done) | rfl
set_option maxRecDepth 65536 in
set_option maxHeartbeats 40000000 in
theorem rm3n2 (l : Launch) (Z : State) (a0 : Array Value) (hw : ∀ d ∈ tables_1, d.before a0 Z = true) (ws : List Jvm.Cond) (o0 : Addr) (o1 : Addr) (b0 : Addr) (b1 : Addr) (fF : Nat → Int32) (cs : Int32) (h0 : Heap) (n0 : Nat) (Z0 : n0 ≤ h0.size) (ha0 : Exa Z h0 o1 "java/lang/String") (ha1 : Fld Z h0 o0 "java/lang/String" "coder" "B" (.int (0 : Int32))) (ha2 : Fld Z h0 o1 "java/lang/String" "coder" "B" (.int (0 : Int32))) (ha3 : Fld Z h0 o0 "java/lang/String" "value" "[B" (.ref b0)) (ha4 : Fld Z h0 o1 "java/lang/String" "value" "[B" (.ref b1)) (ha5 : AV Z h0 b0 .byte 2 (fun k => .int (fF k))) (ha6 : AV Z h0 b1 .byte 2 (fun k => .int (fF k))) (ha7 : Sta Z h0 "java/lang/String" "COMPACT_STRINGS" "Z" (.int cs)) (hcs : ¬ cs = 0) :
    MetFree l (⟨"java/lang/String", "equals", "(Ljava/lang/Object;)Z"⟩ : MethodName) (head1 (Jvm.Cond.code (⟨"java/lang/String", "equals", "(Ljava/lang/Object;)Z"⟩ : MethodName) jdk_42_method_66_code 3 (some .boolean) :: ws) ({ frames := 1, cells := 0, slots := 0, locals := 14 } : Room)) (fun a U => a = #[(.ref o0), (.ref o1)] ∧ Z.Warmed39 U.vm ∧ U.heap = h0) (fun _ _ _ _ _ => True) (fun _ U o U' => ∃ v L, o = .returned v ∧ Q3n2 o0 o1 b0 b1 fF cs h0 n0 v U'.heap L ∧ FrameEnd U o U' L ({ frames := 1, cells := 0, slots := 0, locals := 14 } : Room).cells ({ frames := 1, cells := 0, slots := 0, locals := 14 } : Room).slots) := by
  refine MetFree.of_bodySF (plainFor_of_name pn_3) hisR ?_
  intro p e s m args below meth c s₁ Bd hml0 hP hK
  obtain ⟨rfl, hZ, hh⟩ := hP
  have hx := Bd.exec
  have hby := Bd.bytes
  have hml : c.maxLocals = 3 := hml0
  have hown : s.vm.findClass "java/lang/String" = some m.cls := findClass_of_methodNamed Bd.named
  have hnm := (name_of_methodNamed Bd.named Bd.method).1
  have X0 : Stand p l e ({ frames := 1, cells := 0, slots := 0, locals := 14 } : Room) s m #[(.ref o0), (.ref o1)] below meth c s₁ [] 0 0 := Stand.of_body Bd
  have e0 : s₁.heap = h0 := by rw [← hh, Bd.state]; rfl
  have N0 := Fr.nil n0
  refine Go.into (P := fun oo uu => ∃ v L, oo = .returned v ∧ Q3n2 o0 o1 b0 b1 fF cs h0 n0 v uu.heap L ∧ FrameEnd s oo uu L ({ frames := 1, cells := 0, slots := 0, locals := 14 } : Room).cells ({ frames := 1, cells := 0, slots := 0, locals := 14 } : Room).slots) (ef_3_aa m o0 o1) ?_
  show Go p e below _ (s₁.setTop (mkF m 0 #[.val (.ref o0), .val (.ref o1), .unset] []))
  refine Go.via (T' := s₁.setTop (mkF m 2 #[.val (.ref o0), .val (.ref o1), .unset] [(.ref o1), (.ref o0)])) (fun tZ kZ => ?_) ?_
  · show Steps p.tables e below (s₁.setTop (mkF m 0 #[.val (.ref o0), .val (.ref o1), .unset] [])) _
    refine XS.aloadN X0.here hx rfl (hb hby d3_0) rfl rfl ?_
    show Steps p.tables e below (s₁.setTop (mkF m 1 #[.val (.ref o0), .val (.ref o1), .unset] [(.ref o0)])) _
    refine XS.aloadN X0.here hx rfl (hb hby d3_1) rfl rfl ?_
    show Steps p.tables e below (s₁.setTop (mkF m 2 #[.val (.ref o0), .val (.ref o1), .unset] [(.ref o1), (.ref o0)])) _
    exact kZ
  by_cases hc2 : o0 = o1
  · refine Go.via (T' := s₁.setTop (mkF m 5 #[.val (.ref o0), .val (.ref o1), .unset] [])) (fun tZ kZ => ?_) ?_
    · show Steps p.tables e below (s₁.setTop (mkF m 2 #[.val (.ref o0), .val (.ref o1), .unset] [(.ref o1), (.ref o0)])) _
      refine Jvm.RoadKit.acmp (g := (mkF m 2 #[.val (.ref o0), .val (.ref o1), .unset] [(.ref o1), (.ref o0)])) X0 hx rfl rfl rfl (pc0 := 2) (pc' := 5) (same := true) rfl (hb hby d3_2) rfl (decide_eq_true (congrArg Value.ref hc2)) (by decide) (by decide) ?_
      exact kZ
    refine Go.via (T' := s₁.setTop (mkF m 6 #[.val (.ref o0), .val (.ref o1), .unset] [(.int (1 : Int32))])) (fun tZ kZ => ?_) ?_
    · show Steps p.tables e below (s₁.setTop (mkF m 5 #[.val (.ref o0), .val (.ref o1), .unset] [])) _
      refine XS.iconst X0.here hx rfl (hb hby d3_5) ?_
      show Steps p.tables e below (s₁.setTop (mkF m 6 #[.val (.ref o0), .val (.ref o1), .unset] [(.int (1 : Int32))])) _
      exact kZ
    refine Go.retN X0 hx Bd.notSynchronized (t := .boolean) Bd.returns (by simp) (hb hby d3_6) (by decide) (by decide) ?_
    refine ⟨?_, N0, e0⟩
    show some ((Value.int (nar .boolean (1 : Int32))) : Value) = some (.int (f3n2 o0 o1 b0 b1 fF cs))
    unfold f3n2; rw [if_pos hc2] <;> rfl
  · refine Go.via (T' := s₁.setTop (mkF m 7 #[.val (.ref o0), .val (.ref o1), .unset] [])) (fun tZ kZ => ?_) ?_
    · show Steps p.tables e below (s₁.setTop (mkF m 2 #[.val (.ref o0), .val (.ref o1), .unset] [(.ref o1), (.ref o0)])) _
      refine Jvm.RoadKit.acmp (g := (mkF m 2 #[.val (.ref o0), .val (.ref o1), .unset] [(.ref o1), (.ref o0)])) X0 hx rfl rfl rfl (pc0 := 2) (pc' := 7) (same := false) rfl (hb hby d3_2) rfl (decide_eq_false fun q => hc2 (Value.ref.inj q)) (by decide) (by decide) ?_
      exact kZ
    refine Go.via (T' := s₁.setTop (mkF m 8 #[.val (.ref o0), .val (.ref o1), .unset] [(.ref o1)])) (fun tZ kZ => ?_) ?_
    · show Steps p.tables e below (s₁.setTop (mkF m 7 #[.val (.ref o0), .val (.ref o1), .unset] [])) _
      refine XS.aloadN X0.here hx rfl (hb hby d3_7) rfl rfl ?_
      show Steps p.tables e below (s₁.setTop (mkF m 8 #[.val (.ref o0), .val (.ref o1), .unset] [(.ref o1)])) _
      exact kZ
    obtain ⟨T1, X1, e1, st1⟩ := instY X0 hx hZ hown (hw _ (List.mem_of_getElem? (i := 30) rfl)) e0 (Ins.self ha0) (g := (mkF m 8 #[.val (.ref o0), .val (.ref o1), .unset] [(.ref o1)])) rfl rfl (hb hby d3_8)
    refine Go.via st1 ?_
    show Go p e below _ (T1.setTop (mkF m 11 #[.val (.ref o0), .val (.ref o1), .unset] [(.int (1 : Int32))]))
    refine Go.via (T' := T1.setTop (mkF m 15 #[.val (.ref o0), .val (.ref o1), .unset] [(.ref o1)])) (fun tZ kZ => ?_) ?_
    · show Steps p.tables e below (T1.setTop (mkF m 11 #[.val (.ref o0), .val (.ref o1), .unset] [(.int (1 : Int32))])) _
      refine XS.ifNo X1.here hx rfl (hb hby d3_11) rfl ((if0 _ _).trans (feq (by decide)).1) ?_
      show Steps p.tables e below (T1.setTop (mkF m 14 #[.val (.ref o0), .val (.ref o1), .unset] [])) _
      refine XS.aloadN X1.here hx rfl (hb hby d3_14) rfl rfl ?_
      show Steps p.tables e below (T1.setTop (mkF m 15 #[.val (.ref o0), .val (.ref o1), .unset] [(.ref o1)])) _
      exact kZ
    obtain ⟨T2, X2, e2, st2⟩ := castY X1 hx hZ hown (hw _ (List.mem_of_getElem? (i := 30) rfl)) e1 (Ins.self ha0) (g := (mkF m 15 #[.val (.ref o0), .val (.ref o1), .unset] [(.ref o1)])) rfl rfl (hb hby d3_15)
    refine Go.via st2 ?_
    show Go p e below _ (T2.setTop (mkF m 18 #[.val (.ref o0), .val (.ref o1), .unset] [(.ref o1)]))
    refine Go.via (T' := T2.setTop (mkF m 19 #[.val (.ref o0), .val (.ref o1), .val (.ref o1)] [])) (fun tZ kZ => ?_) ?_
    · show Steps p.tables e below (T2.setTop (mkF m 18 #[.val (.ref o0), .val (.ref o1), .unset] [(.ref o1)])) _
      refine XS.astoreN X2.here hx rfl (hb hby d3_18) rfl rfl (l' := #[.val (.ref o0), .val (.ref o1), .val (.ref o1)]) rfl ?_
      show Steps p.tables e below (T2.setTop (mkF m 19 #[.val (.ref o0), .val (.ref o1), .val (.ref o1)] [])) _
      exact kZ
    obtain ⟨T3, X3, e3, st3⟩ := getS2 X2 hx hZ hown (host := "") (Or.inl (hw _ (List.mem_of_getElem? (i := 32) rfl))) Via.refl e2 ha7 (g := (mkF m 19 #[.val (.ref o0), .val (.ref o1), .val (.ref o1)] [])) rfl (hb hby d3_19)
    refine Go.via st3 ?_
    show Go p e below _ (T3.setTop (mkF m 22 #[.val (.ref o0), .val (.ref o1), .val (.ref o1)] [(.int cs)]))
    refine Go.via (T' := T3.setTop (mkF m 26 #[.val (.ref o0), .val (.ref o1), .val (.ref o1)] [(.ref o0)])) (fun tZ kZ => ?_) ?_
    · show Steps p.tables e below (T3.setTop (mkF m 22 #[.val (.ref o0), .val (.ref o1), .val (.ref o1)] [(.int cs)])) _
      refine XS.ifNo X3.here hx rfl (hb hby d3_22) rfl ((if0 _ _).trans (feq hcs).1) ?_
      show Steps p.tables e below (T3.setTop (mkF m 25 #[.val (.ref o0), .val (.ref o1), .val (.ref o1)] [])) _
      refine XS.aloadN X3.here hx rfl (hb hby d3_25) rfl rfl ?_
      show Steps p.tables e below (T3.setTop (mkF m 26 #[.val (.ref o0), .val (.ref o1), .val (.ref o1)] [(.ref o0)])) _
      exact kZ
    obtain ⟨T4, X4, e4, st4⟩ := getF X3 hx hZ hown (host := "") (Or.inl (hw _ (List.mem_of_getElem? (i := 33) rfl))) Via.refl e3 ha1 (g := (mkF m 26 #[.val (.ref o0), .val (.ref o1), .val (.ref o1)] [(.ref o0)])) rfl rfl (hb hby d3_26)
    refine Go.via st4 ?_
    show Go p e below _ (T4.setTop (mkF m 29 #[.val (.ref o0), .val (.ref o1), .val (.ref o1)] [(.int (0 : Int32))]))
    refine Go.via (T' := T4.setTop (mkF m 30 #[.val (.ref o0), .val (.ref o1), .val (.ref o1)] [(.ref o1), (.int (0 : Int32))])) (fun tZ kZ => ?_) ?_
    · show Steps p.tables e below (T4.setTop (mkF m 29 #[.val (.ref o0), .val (.ref o1), .val (.ref o1)] [(.int (0 : Int32))])) _
      refine XS.aloadN X4.here hx rfl (hb hby d3_29) rfl rfl ?_
      show Steps p.tables e below (T4.setTop (mkF m 30 #[.val (.ref o0), .val (.ref o1), .val (.ref o1)] [(.ref o1), (.int (0 : Int32))])) _
      exact kZ
    obtain ⟨T5, X5, e5, st5⟩ := getF X4 hx hZ hown (host := "") (Or.inl (hw _ (List.mem_of_getElem? (i := 33) rfl))) Via.refl e4 ha2 (g := (mkF m 30 #[.val (.ref o0), .val (.ref o1), .val (.ref o1)] [(.ref o1), (.int (0 : Int32))])) rfl rfl (hb hby d3_30)
    refine Go.via st5 ?_
    show Go p e below _ (T5.setTop (mkF m 33 #[.val (.ref o0), .val (.ref o1), .val (.ref o1)] [(.int (0 : Int32)), (.int (0 : Int32))]))
    refine Go.via (T' := T5.setTop (mkF m 37 #[.val (.ref o0), .val (.ref o1), .val (.ref o1)] [(.ref o0)])) (fun tZ kZ => ?_) ?_
    · show Steps p.tables e below (T5.setTop (mkF m 33 #[.val (.ref o0), .val (.ref o1), .val (.ref o1)] [(.int (0 : Int32)), (.int (0 : Int32))])) _
      refine XS.icmpNo X5.here hx rfl (hb hby d3_33) rfl (teq (by decide)).2 ?_
      show Steps p.tables e below (T5.setTop (mkF m 36 #[.val (.ref o0), .val (.ref o1), .val (.ref o1)] [])) _
      refine XS.aloadN X5.here hx rfl (hb hby d3_36) rfl rfl ?_
      show Steps p.tables e below (T5.setTop (mkF m 37 #[.val (.ref o0), .val (.ref o1), .val (.ref o1)] [(.ref o0)])) _
      exact kZ
    obtain ⟨T6, X6, e6, st6⟩ := getF X5 hx hZ hown (host := "") (Or.inl (hw _ (List.mem_of_getElem? (i := 34) rfl))) Via.refl e5 ha3 (g := (mkF m 37 #[.val (.ref o0), .val (.ref o1), .val (.ref o1)] [(.ref o0)])) rfl rfl (hb hby d3_37)
    refine Go.via st6 ?_
    show Go p e below _ (T6.setTop (mkF m 40 #[.val (.ref o0), .val (.ref o1), .val (.ref o1)] [(.ref b0)]))
    refine Go.via (T' := T6.setTop (mkF m 41 #[.val (.ref o0), .val (.ref o1), .val (.ref o1)] [(.ref o1), (.ref b0)])) (fun tZ kZ => ?_) ?_
    · show Steps p.tables e below (T6.setTop (mkF m 40 #[.val (.ref o0), .val (.ref o1), .val (.ref o1)] [(.ref b0)])) _
      refine XS.aloadN X6.here hx rfl (hb hby d3_40) rfl rfl ?_
      show Steps p.tables e below (T6.setTop (mkF m 41 #[.val (.ref o0), .val (.ref o1), .val (.ref o1)] [(.ref o1), (.ref b0)])) _
      exact kZ
    obtain ⟨T7, X7, e7, st7⟩ := getF X6 hx hZ hown (host := "") (Or.inl (hw _ (List.mem_of_getElem? (i := 34) rfl))) Via.refl e6 ha4 (g := (mkF m 41 #[.val (.ref o0), .val (.ref o1), .val (.ref o1)] [(.ref o1), (.ref b0)])) rfl rfl (hb hby d3_41)
    refine Go.via st7 ?_
    show Go p e below _ (T7.setTop (mkF m 44 #[.val (.ref o0), .val (.ref o1), .val (.ref o1)] [(.ref b1), (.ref b0)]))
    obtain ⟨_, _, ⟨T8, L8, k8, n8⟩, -, X8, ⟨Lc8, hQ8, l8, y8, z8⟩, st8⟩ := Jvm.LawKit.callS X7 hx (y := (⟨"java/lang/StringLatin1", "equals", "([B[B)Z"⟩ : MethodName)) hown (mvT hZ (hw _ (List.mem_of_getElem? (i := 35) rfl))) (mvT hZ (hw _ (List.mem_of_getElem? (i := 36) rfl))) (mvT hZ (hw _ (List.mem_of_getElem? (i := 37) rfl))) (mvT hZ (hw _ (List.mem_of_getElem? (i := 38) rfl))) (by decide) (backOf (W := 0) (rm4n2 l Z a0 hw [] b0 b1 fF h0 n0 Z0 ha5 ha6) hZ (hw _ (List.mem_of_getElem? (i := 38) rfl)) (hw _ (List.mem_of_getElem? (i := 37) rfl)) (by decide) (by decide)) (g := (mkF m 44 #[.val (.ref o0), .val (.ref o1), .val (.ref o1)] [(.ref b1), (.ref b0)])) rfl (by rw [hml]; rfl) (argsL := [(.ref b0), (.ref b1)]) (rest := []) (lenOf pd_3 rfl) rfl (by show 2 * 0 + _ ≤ _; exact Nat.le_of_eq rfl) (hb hby d3_44) (fun _ _ => ⟨rfl, e7, (by decide : 0 + 0 ≤ _), (by decide : 0 + 0 ≤ _)⟩)
    dsimp only [Pt.U, Pt.locs, Pt.cells, Pt.slots] at X8 l8 y8 z8 st8 hQ8
    subst l8 y8 z8
    obtain ⟨rfl, N8q, e8⟩ := hQ8
    have N8 := Fr.app N0 N8q
    refine Go.via st8 ?_
    show Go p e below _ (T8.setTop (mkF m 47 #[.val (.ref o0), .val (.ref o1), .val (.ref o1)] [(.int (1 : Int32))]))
    refine Go.via (T' := T8.setTop (mkF m 55 #[.val (.ref o0), .val (.ref o1), .val (.ref o1)] [(.int (1 : Int32))])) (fun tZ kZ => ?_) ?_
    · show Steps p.tables e below (T8.setTop (mkF m 47 #[.val (.ref o0), .val (.ref o1), .val (.ref o1)] [(.int (1 : Int32))])) _
      refine XS.ifNo X8.here hx rfl (hb hby d3_47) rfl ((if0 _ _).trans (feq (by decide)).1) ?_
      show Steps p.tables e below (T8.setTop (mkF m 50 #[.val (.ref o0), .val (.ref o1), .val (.ref o1)] [])) _
      refine XS.iconst X8.here hx rfl (hb hby d3_50) ?_
      show Steps p.tables e below (T8.setTop (mkF m 51 #[.val (.ref o0), .val (.ref o1), .val (.ref o1)] [(.int (1 : Int32))])) _
      refine XS.goto X8.here hx rfl (pc0 := 51) (pc' := 55) rfl (hb hby d3_51) (by decide) (by decide) ?_
      show Steps p.tables e below (T8.setTop (mkF m 55 #[.val (.ref o0), .val (.ref o1), .val (.ref o1)] [(.int (1 : Int32))])) _
      exact kZ
    refine Go.retN X8 hx Bd.notSynchronized (t := .boolean) Bd.returns (by simp) (hb hby d3_55) (by decide) (by decide) ?_
    refine ⟨?_, N8, e8⟩
    show some ((Value.int (nar .boolean (1 : Int32))) : Value) = some (.int (f3n2 o0 o1 b0 b1 fF cs))
    unfold f3n2; rw [if_neg hc2] <;> rfl
theorem own_eq2 (o0 o1 b0 b1 : Addr) (fF : Nat → Int32) (cs : Int32) : f3n2 o0 o1 b0 b1 fF cs = 1 := by unfold f3n2; split <;> rfl
def Q4n3 (Z : State) (o0 : Addr) (o1 : Addr) (fF : Nat → Int32) (h0 : Heap) (n0 : Nat) (v : Option Value) (h : Heap) (L : List Loc) : Prop := v = some (.int (1 : Int32)) ∧ Fr n0 L ∧ h = h0
set_option maxRecDepth 65536 in
set_option maxHeartbeats 40000000 in
theorem rm4n3 (l : Launch) (Z : State) (a0 : Array Value) (hw : ∀ d ∈ tables_1, d.before a0 Z = true) (ws : List Jvm.Cond) (o0 : Addr) (o1 : Addr) (fF : Nat → Int32) (h0 : Heap) (n0 : Nat) (Z0 : n0 ≤ h0.size) (ha0 : AV Z h0 o0 .byte 3 (fun k => .int (fF k))) (ha1 : AV Z h0 o1 .byte 3 (fun k => .int (fF k))) :
    MetFree l (⟨"java/lang/StringLatin1", "equals", "([B[B)Z"⟩ : MethodName) (head1 (Jvm.Cond.code (⟨"java/lang/StringLatin1", "equals", "([B[B)Z"⟩ : MethodName) jdk_43_method_13_code 3 (some .boolean) :: ws) ({ frames := 0, cells := 0, slots := 0, locals := 0 } : Room)) (fun a U => a = #[(.ref o0), (.ref o1)] ∧ Z.Warmed39 U.vm ∧ U.heap = h0) (fun _ _ _ _ _ => True) (fun _ U o U' => ∃ v L, o = .returned v ∧ Q4n3 Z o0 o1 fF h0 n0 v U'.heap L ∧ FrameEnd U o U' L ({ frames := 0, cells := 0, slots := 0, locals := 0 } : Room).cells ({ frames := 0, cells := 0, slots := 0, locals := 0 } : Room).slots) := by
  refine MetFree.of_bodySF (plainFor_of_name pn_2) hisR ?_
  intro p e s m args below meth c s₁ Bd hml0 hP hK
  obtain ⟨rfl, hZ, hh⟩ := hP
  have hx := Bd.exec
  have hby := Bd.bytes
  have hml : c.maxLocals = 3 := hml0
  have hown : s.vm.findClass "java/lang/StringLatin1" = some m.cls := findClass_of_methodNamed Bd.named
  have hnm := (name_of_methodNamed Bd.named Bd.method).1
  have X0 : Stand p l e ({ frames := 0, cells := 0, slots := 0, locals := 0 } : Room) s m #[(.ref o0), (.ref o1)] below meth c s₁ [] 0 0 := Stand.of_body Bd
  have e0 : s₁.heap = h0 := by rw [← hh, Bd.state]; rfl
  have N0 := Fr.nil n0
  refine Go.into (P := fun oo uu => ∃ v L, oo = .returned v ∧ Q4n3 Z o0 o1 fF h0 n0 v uu.heap L ∧ FrameEnd s oo uu L ({ frames := 0, cells := 0, slots := 0, locals := 0 } : Room).cells ({ frames := 0, cells := 0, slots := 0, locals := 0 } : Room).slots) (ef_4_aa m o0 o1) ?_
  show Go p e below _ (s₁.setTop (mkF m 0 #[.val (.ref o0), .val (.ref o1), .unset] []))
  refine Go.via (T' := s₁.setTop (mkF m 33 #[.val (.ref o0), .val (.ref o1), .val (.int (3 : Int32))] [(.int (1 : Int32))])) (fun tZ kZ => ?_) ?_
  · show Steps p.tables e below (s₁.setTop (mkF m 0 #[.val (.ref o0), .val (.ref o1), .unset] [])) _
    refine XS.aloadN X0.here hx rfl (hb hby d4_0) rfl rfl ?_
    show Steps p.tables e below (s₁.setTop (mkF m 1 #[.val (.ref o0), .val (.ref o1), .unset] [(.ref o0)])) _
    refine AV.len ha0 X0 hx hZ e0 (hb hby d4_1) ?_
    show Steps p.tables e below (s₁.setTop (mkF m 2 #[.val (.ref o0), .val (.ref o1), .unset] [(.int (3 : Int32))])) _
    refine XS.aloadN X0.here hx rfl (hb hby d4_2) rfl rfl ?_
    show Steps p.tables e below (s₁.setTop (mkF m 3 #[.val (.ref o0), .val (.ref o1), .unset] [(.ref o1), (.int (3 : Int32))])) _
    refine AV.len ha1 X0 hx hZ e0 (hb hby d4_3) ?_
    show Steps p.tables e below (s₁.setTop (mkF m 4 #[.val (.ref o0), .val (.ref o1), .unset] [(.int (3 : Int32)), (.int (3 : Int32))])) _
    refine XS.icmpNo X0.here hx rfl (hb hby d4_4) rfl (teq (by decide)).2 ?_
    show Steps p.tables e below (s₁.setTop (mkF m 7 #[.val (.ref o0), .val (.ref o1), .unset] [])) _
    refine XS.iconst X0.here hx rfl (hb hby d4_7) ?_
    show Steps p.tables e below (s₁.setTop (mkF m 8 #[.val (.ref o0), .val (.ref o1), .unset] [(.int (0 : Int32))])) _
    refine XS.istoreN X0.here hx rfl (hb hby d4_8) rfl (l' := #[.val (.ref o0), .val (.ref o1), .val (.int (0 : Int32))]) rfl ?_
    show Steps p.tables e below (s₁.setTop (mkF m 9 #[.val (.ref o0), .val (.ref o1), .val (.int (0 : Int32))] [])) _
    refine XS.iloadN X0.here hx rfl (hb hby d4_9) rfl ?_
    show Steps p.tables e below (s₁.setTop (mkF m 10 #[.val (.ref o0), .val (.ref o1), .val (.int (0 : Int32))] [(.int (0 : Int32))])) _
    refine XS.aloadN X0.here hx rfl (hb hby d4_10) rfl rfl ?_
    show Steps p.tables e below (s₁.setTop (mkF m 11 #[.val (.ref o0), .val (.ref o1), .val (.int (0 : Int32))] [(.ref o0), (.int (0 : Int32))])) _
    refine AV.len ha0 X0 hx hZ e0 (hb hby d4_11) ?_
    show Steps p.tables e below (s₁.setTop (mkF m 12 #[.val (.ref o0), .val (.ref o1), .val (.int (0 : Int32))] [(.int (3 : Int32)), (.int (0 : Int32))])) _
    refine XS.icmpNo X0.here hx rfl (hb hby d4_12) rfl (tlt (by decide)).2.1 ?_
    show Steps p.tables e below (s₁.setTop (mkF m 15 #[.val (.ref o0), .val (.ref o1), .val (.int (0 : Int32))] [])) _
    refine XS.aloadN X0.here hx rfl (hb hby d4_15) rfl rfl ?_
    show Steps p.tables e below (s₁.setTop (mkF m 16 #[.val (.ref o0), .val (.ref o1), .val (.int (0 : Int32))] [(.ref o0)])) _
    refine XS.iloadN X0.here hx rfl (hb hby d4_16) rfl ?_
    show Steps p.tables e below (s₁.setTop (mkF m 17 #[.val (.ref o0), .val (.ref o1), .val (.int (0 : Int32))] [(.int (0 : Int32)), (.ref o0)])) _
    refine AV.baload ha0 X0 hx hZ e0 (j := (0 : Int32)) (by decide) (hb hby d4_17) ?_
    show Steps p.tables e below (s₁.setTop (mkF m 18 #[.val (.ref o0), .val (.ref o1), .val (.int (0 : Int32))] [(.int (fF (0 : Int32).toNatClampNeg))])) _
    refine XS.aloadN X0.here hx rfl (hb hby d4_18) rfl rfl ?_
    show Steps p.tables e below (s₁.setTop (mkF m 19 #[.val (.ref o0), .val (.ref o1), .val (.int (0 : Int32))] [(.ref o1), (.int (fF (0 : Int32).toNatClampNeg))])) _
    refine XS.iloadN X0.here hx rfl (hb hby d4_19) rfl ?_
    show Steps p.tables e below (s₁.setTop (mkF m 20 #[.val (.ref o0), .val (.ref o1), .val (.int (0 : Int32))] [(.int (0 : Int32)), (.ref o1), (.int (fF (0 : Int32).toNatClampNeg))])) _
    refine AV.baload ha1 X0 hx hZ e0 (j := (0 : Int32)) (by decide) (hb hby d4_20) ?_
    show Steps p.tables e below (s₁.setTop (mkF m 21 #[.val (.ref o0), .val (.ref o1), .val (.int (0 : Int32))] [(.int (fF (0 : Int32).toNatClampNeg)), (.int (fF (0 : Int32).toNatClampNeg))])) _
    refine XS.icmpYes X0.here hx rfl (pc0 := 21) (pc' := 26) rfl (hb hby d4_21) rfl (teq rfl).1 (by decide) (by decide) ?_
    show Steps p.tables e below (s₁.setTop (mkF m 26 #[.val (.ref o0), .val (.ref o1), .val (.int (0 : Int32))] [])) _
    refine XS.iinc X0.here hx rfl (hb hby d4_26) rfl (l' := #[.val (.ref o0), .val (.ref o1), .val (.int (1 : Int32))]) rfl ?_
    show Steps p.tables e below (s₁.setTop (mkF m 29 #[.val (.ref o0), .val (.ref o1), .val (.int (1 : Int32))] [])) _
    refine XS.goto X0.here hx rfl (pc0 := 29) (pc' := 9) rfl (hb hby d4_29) (by decide) (by decide) ?_
    show Steps p.tables e below (s₁.setTop (mkF m 9 #[.val (.ref o0), .val (.ref o1), .val (.int (1 : Int32))] [])) _
    refine XS.iloadN X0.here hx rfl (hb hby d4_9) rfl ?_
    show Steps p.tables e below (s₁.setTop (mkF m 10 #[.val (.ref o0), .val (.ref o1), .val (.int (1 : Int32))] [(.int (1 : Int32))])) _
    refine XS.aloadN X0.here hx rfl (hb hby d4_10) rfl rfl ?_
    show Steps p.tables e below (s₁.setTop (mkF m 11 #[.val (.ref o0), .val (.ref o1), .val (.int (1 : Int32))] [(.ref o0), (.int (1 : Int32))])) _
    refine AV.len ha0 X0 hx hZ e0 (hb hby d4_11) ?_
    show Steps p.tables e below (s₁.setTop (mkF m 12 #[.val (.ref o0), .val (.ref o1), .val (.int (1 : Int32))] [(.int (3 : Int32)), (.int (1 : Int32))])) _
    refine XS.icmpNo X0.here hx rfl (hb hby d4_12) rfl (tlt (by decide)).2.1 ?_
    show Steps p.tables e below (s₁.setTop (mkF m 15 #[.val (.ref o0), .val (.ref o1), .val (.int (1 : Int32))] [])) _
    refine XS.aloadN X0.here hx rfl (hb hby d4_15) rfl rfl ?_
    show Steps p.tables e below (s₁.setTop (mkF m 16 #[.val (.ref o0), .val (.ref o1), .val (.int (1 : Int32))] [(.ref o0)])) _
    refine XS.iloadN X0.here hx rfl (hb hby d4_16) rfl ?_
    show Steps p.tables e below (s₁.setTop (mkF m 17 #[.val (.ref o0), .val (.ref o1), .val (.int (1 : Int32))] [(.int (1 : Int32)), (.ref o0)])) _
    refine AV.baload ha0 X0 hx hZ e0 (j := (1 : Int32)) (by decide) (hb hby d4_17) ?_
    show Steps p.tables e below (s₁.setTop (mkF m 18 #[.val (.ref o0), .val (.ref o1), .val (.int (1 : Int32))] [(.int (fF (1 : Int32).toNatClampNeg))])) _
    refine XS.aloadN X0.here hx rfl (hb hby d4_18) rfl rfl ?_
    show Steps p.tables e below (s₁.setTop (mkF m 19 #[.val (.ref o0), .val (.ref o1), .val (.int (1 : Int32))] [(.ref o1), (.int (fF (1 : Int32).toNatClampNeg))])) _
    refine XS.iloadN X0.here hx rfl (hb hby d4_19) rfl ?_
    show Steps p.tables e below (s₁.setTop (mkF m 20 #[.val (.ref o0), .val (.ref o1), .val (.int (1 : Int32))] [(.int (1 : Int32)), (.ref o1), (.int (fF (1 : Int32).toNatClampNeg))])) _
    refine AV.baload ha1 X0 hx hZ e0 (j := (1 : Int32)) (by decide) (hb hby d4_20) ?_
    show Steps p.tables e below (s₁.setTop (mkF m 21 #[.val (.ref o0), .val (.ref o1), .val (.int (1 : Int32))] [(.int (fF (1 : Int32).toNatClampNeg)), (.int (fF (1 : Int32).toNatClampNeg))])) _
    refine XS.icmpYes X0.here hx rfl (pc0 := 21) (pc' := 26) rfl (hb hby d4_21) rfl (teq rfl).1 (by decide) (by decide) ?_
    show Steps p.tables e below (s₁.setTop (mkF m 26 #[.val (.ref o0), .val (.ref o1), .val (.int (1 : Int32))] [])) _
    refine XS.iinc X0.here hx rfl (hb hby d4_26) rfl (l' := #[.val (.ref o0), .val (.ref o1), .val (.int (2 : Int32))]) rfl ?_
    show Steps p.tables e below (s₁.setTop (mkF m 29 #[.val (.ref o0), .val (.ref o1), .val (.int (2 : Int32))] [])) _
    refine XS.goto X0.here hx rfl (pc0 := 29) (pc' := 9) rfl (hb hby d4_29) (by decide) (by decide) ?_
    show Steps p.tables e below (s₁.setTop (mkF m 9 #[.val (.ref o0), .val (.ref o1), .val (.int (2 : Int32))] [])) _
    refine XS.iloadN X0.here hx rfl (hb hby d4_9) rfl ?_
    show Steps p.tables e below (s₁.setTop (mkF m 10 #[.val (.ref o0), .val (.ref o1), .val (.int (2 : Int32))] [(.int (2 : Int32))])) _
    refine XS.aloadN X0.here hx rfl (hb hby d4_10) rfl rfl ?_
    show Steps p.tables e below (s₁.setTop (mkF m 11 #[.val (.ref o0), .val (.ref o1), .val (.int (2 : Int32))] [(.ref o0), (.int (2 : Int32))])) _
    refine AV.len ha0 X0 hx hZ e0 (hb hby d4_11) ?_
    show Steps p.tables e below (s₁.setTop (mkF m 12 #[.val (.ref o0), .val (.ref o1), .val (.int (2 : Int32))] [(.int (3 : Int32)), (.int (2 : Int32))])) _
    refine XS.icmpNo X0.here hx rfl (hb hby d4_12) rfl (tlt (by decide)).2.1 ?_
    show Steps p.tables e below (s₁.setTop (mkF m 15 #[.val (.ref o0), .val (.ref o1), .val (.int (2 : Int32))] [])) _
    refine XS.aloadN X0.here hx rfl (hb hby d4_15) rfl rfl ?_
    show Steps p.tables e below (s₁.setTop (mkF m 16 #[.val (.ref o0), .val (.ref o1), .val (.int (2 : Int32))] [(.ref o0)])) _
    refine XS.iloadN X0.here hx rfl (hb hby d4_16) rfl ?_
    show Steps p.tables e below (s₁.setTop (mkF m 17 #[.val (.ref o0), .val (.ref o1), .val (.int (2 : Int32))] [(.int (2 : Int32)), (.ref o0)])) _
    refine AV.baload ha0 X0 hx hZ e0 (j := (2 : Int32)) (by decide) (hb hby d4_17) ?_
    show Steps p.tables e below (s₁.setTop (mkF m 18 #[.val (.ref o0), .val (.ref o1), .val (.int (2 : Int32))] [(.int (fF (2 : Int32).toNatClampNeg))])) _
    refine XS.aloadN X0.here hx rfl (hb hby d4_18) rfl rfl ?_
    show Steps p.tables e below (s₁.setTop (mkF m 19 #[.val (.ref o0), .val (.ref o1), .val (.int (2 : Int32))] [(.ref o1), (.int (fF (2 : Int32).toNatClampNeg))])) _
    refine XS.iloadN X0.here hx rfl (hb hby d4_19) rfl ?_
    show Steps p.tables e below (s₁.setTop (mkF m 20 #[.val (.ref o0), .val (.ref o1), .val (.int (2 : Int32))] [(.int (2 : Int32)), (.ref o1), (.int (fF (2 : Int32).toNatClampNeg))])) _
    refine AV.baload ha1 X0 hx hZ e0 (j := (2 : Int32)) (by decide) (hb hby d4_20) ?_
    show Steps p.tables e below (s₁.setTop (mkF m 21 #[.val (.ref o0), .val (.ref o1), .val (.int (2 : Int32))] [(.int (fF (2 : Int32).toNatClampNeg)), (.int (fF (2 : Int32).toNatClampNeg))])) _
    refine XS.icmpYes X0.here hx rfl (pc0 := 21) (pc' := 26) rfl (hb hby d4_21) rfl (teq rfl).1 (by decide) (by decide) ?_
    show Steps p.tables e below (s₁.setTop (mkF m 26 #[.val (.ref o0), .val (.ref o1), .val (.int (2 : Int32))] [])) _
    refine XS.iinc X0.here hx rfl (hb hby d4_26) rfl (l' := #[.val (.ref o0), .val (.ref o1), .val (.int (3 : Int32))]) rfl ?_
    show Steps p.tables e below (s₁.setTop (mkF m 29 #[.val (.ref o0), .val (.ref o1), .val (.int (3 : Int32))] [])) _
    refine XS.goto X0.here hx rfl (pc0 := 29) (pc' := 9) rfl (hb hby d4_29) (by decide) (by decide) ?_
    show Steps p.tables e below (s₁.setTop (mkF m 9 #[.val (.ref o0), .val (.ref o1), .val (.int (3 : Int32))] [])) _
    refine XS.iloadN X0.here hx rfl (hb hby d4_9) rfl ?_
    show Steps p.tables e below (s₁.setTop (mkF m 10 #[.val (.ref o0), .val (.ref o1), .val (.int (3 : Int32))] [(.int (3 : Int32))])) _
    refine XS.aloadN X0.here hx rfl (hb hby d4_10) rfl rfl ?_
    show Steps p.tables e below (s₁.setTop (mkF m 11 #[.val (.ref o0), .val (.ref o1), .val (.int (3 : Int32))] [(.ref o0), (.int (3 : Int32))])) _
    refine AV.len ha0 X0 hx hZ e0 (hb hby d4_11) ?_
    show Steps p.tables e below (s₁.setTop (mkF m 12 #[.val (.ref o0), .val (.ref o1), .val (.int (3 : Int32))] [(.int (3 : Int32)), (.int (3 : Int32))])) _
    refine XS.icmpYes X0.here hx rfl (pc0 := 12) (pc' := 32) rfl (hb hby d4_12) rfl (flt (by decide)).2.1 (by decide) (by decide) ?_
    show Steps p.tables e below (s₁.setTop (mkF m 32 #[.val (.ref o0), .val (.ref o1), .val (.int (3 : Int32))] [])) _
    refine XS.iconst X0.here hx rfl (hb hby d4_32) ?_
    show Steps p.tables e below (s₁.setTop (mkF m 33 #[.val (.ref o0), .val (.ref o1), .val (.int (3 : Int32))] [(.int (1 : Int32))])) _
    exact kZ
  refine Go.retN X0 hx Bd.notSynchronized (t := .boolean) Bd.returns (by simp) (hb hby d4_33) (by decide) (by decide) ?_
  rw [e0]
  exact ⟨rfl, N0, rfl⟩
def f3n3 (o0 : Addr) (o1 : Addr) (b0 : Addr) (b1 : Addr) (fF : Nat → Int32) (cs : Int32) : Int32 := (if o0 = o1 then (1 : Int32) else (1 : Int32))
def Q3n3 (o0 : Addr) (o1 : Addr) (b0 : Addr) (b1 : Addr) (fF : Nat → Int32) (cs : Int32) (h0 : Heap) (n0 : Nat) (v : Option Value) (h : Heap) (L : List Loc) : Prop := v = some (.int (f3n3 o0 o1 b0 b1 fF cs)) ∧ Fr n0 L ∧ h = h0
set_option maxRecDepth 65536 in
set_option maxHeartbeats 40000000 in
theorem rm3n3 (l : Launch) (Z : State) (a0 : Array Value) (hw : ∀ d ∈ tables_1, d.before a0 Z = true) (ws : List Jvm.Cond) (o0 : Addr) (o1 : Addr) (b0 : Addr) (b1 : Addr) (fF : Nat → Int32) (cs : Int32) (h0 : Heap) (n0 : Nat) (Z0 : n0 ≤ h0.size) (ha0 : Exa Z h0 o1 "java/lang/String") (ha1 : Fld Z h0 o0 "java/lang/String" "coder" "B" (.int (0 : Int32))) (ha2 : Fld Z h0 o1 "java/lang/String" "coder" "B" (.int (0 : Int32))) (ha3 : Fld Z h0 o0 "java/lang/String" "value" "[B" (.ref b0)) (ha4 : Fld Z h0 o1 "java/lang/String" "value" "[B" (.ref b1)) (ha5 : AV Z h0 b0 .byte 3 (fun k => .int (fF k))) (ha6 : AV Z h0 b1 .byte 3 (fun k => .int (fF k))) (ha7 : Sta Z h0 "java/lang/String" "COMPACT_STRINGS" "Z" (.int cs)) (hcs : ¬ cs = 0) :
    MetFree l (⟨"java/lang/String", "equals", "(Ljava/lang/Object;)Z"⟩ : MethodName) (head1 (Jvm.Cond.code (⟨"java/lang/String", "equals", "(Ljava/lang/Object;)Z"⟩ : MethodName) jdk_42_method_66_code 3 (some .boolean) :: ws) ({ frames := 1, cells := 0, slots := 0, locals := 14 } : Room)) (fun a U => a = #[(.ref o0), (.ref o1)] ∧ Z.Warmed39 U.vm ∧ U.heap = h0) (fun _ _ _ _ _ => True) (fun _ U o U' => ∃ v L, o = .returned v ∧ Q3n3 o0 o1 b0 b1 fF cs h0 n0 v U'.heap L ∧ FrameEnd U o U' L ({ frames := 1, cells := 0, slots := 0, locals := 14 } : Room).cells ({ frames := 1, cells := 0, slots := 0, locals := 14 } : Room).slots) := by
  refine MetFree.of_bodySF (plainFor_of_name pn_3) hisR ?_
  intro p e s m args below meth c s₁ Bd hml0 hP hK
  obtain ⟨rfl, hZ, hh⟩ := hP
  have hx := Bd.exec
  have hby := Bd.bytes
  have hml : c.maxLocals = 3 := hml0
  have hown : s.vm.findClass "java/lang/String" = some m.cls := findClass_of_methodNamed Bd.named
  have hnm := (name_of_methodNamed Bd.named Bd.method).1
  have X0 : Stand p l e ({ frames := 1, cells := 0, slots := 0, locals := 14 } : Room) s m #[(.ref o0), (.ref o1)] below meth c s₁ [] 0 0 := Stand.of_body Bd
  have e0 : s₁.heap = h0 := by rw [← hh, Bd.state]; rfl
  have N0 := Fr.nil n0
  refine Go.into (P := fun oo uu => ∃ v L, oo = .returned v ∧ Q3n3 o0 o1 b0 b1 fF cs h0 n0 v uu.heap L ∧ FrameEnd s oo uu L ({ frames := 1, cells := 0, slots := 0, locals := 14 } : Room).cells ({ frames := 1, cells := 0, slots := 0, locals := 14 } : Room).slots) (ef_3_aa m o0 o1) ?_
  show Go p e below _ (s₁.setTop (mkF m 0 #[.val (.ref o0), .val (.ref o1), .unset] []))
  refine Go.via (T' := s₁.setTop (mkF m 2 #[.val (.ref o0), .val (.ref o1), .unset] [(.ref o1), (.ref o0)])) (fun tZ kZ => ?_) ?_
  · show Steps p.tables e below (s₁.setTop (mkF m 0 #[.val (.ref o0), .val (.ref o1), .unset] [])) _
    refine XS.aloadN X0.here hx rfl (hb hby d3_0) rfl rfl ?_
    show Steps p.tables e below (s₁.setTop (mkF m 1 #[.val (.ref o0), .val (.ref o1), .unset] [(.ref o0)])) _
    refine XS.aloadN X0.here hx rfl (hb hby d3_1) rfl rfl ?_
    show Steps p.tables e below (s₁.setTop (mkF m 2 #[.val (.ref o0), .val (.ref o1), .unset] [(.ref o1), (.ref o0)])) _
    exact kZ
  by_cases hc2 : o0 = o1
  · refine Go.via (T' := s₁.setTop (mkF m 5 #[.val (.ref o0), .val (.ref o1), .unset] [])) (fun tZ kZ => ?_) ?_
    · show Steps p.tables e below (s₁.setTop (mkF m 2 #[.val (.ref o0), .val (.ref o1), .unset] [(.ref o1), (.ref o0)])) _
      refine Jvm.RoadKit.acmp (g := (mkF m 2 #[.val (.ref o0), .val (.ref o1), .unset] [(.ref o1), (.ref o0)])) X0 hx rfl rfl rfl (pc0 := 2) (pc' := 5) (same := true) rfl (hb hby d3_2) rfl (decide_eq_true (congrArg Value.ref hc2)) (by decide) (by decide) ?_
      exact kZ
    refine Go.via (T' := s₁.setTop (mkF m 6 #[.val (.ref o0), .val (.ref o1), .unset] [(.int (1 : Int32))])) (fun tZ kZ => ?_) ?_
    · show Steps p.tables e below (s₁.setTop (mkF m 5 #[.val (.ref o0), .val (.ref o1), .unset] [])) _
      refine XS.iconst X0.here hx rfl (hb hby d3_5) ?_
      show Steps p.tables e below (s₁.setTop (mkF m 6 #[.val (.ref o0), .val (.ref o1), .unset] [(.int (1 : Int32))])) _
      exact kZ
    refine Go.retN X0 hx Bd.notSynchronized (t := .boolean) Bd.returns (by simp) (hb hby d3_6) (by decide) (by decide) ?_
    refine ⟨?_, N0, e0⟩
    show some ((Value.int (nar .boolean (1 : Int32))) : Value) = some (.int (f3n3 o0 o1 b0 b1 fF cs))
    unfold f3n3; rw [if_pos hc2] <;> rfl
  · refine Go.via (T' := s₁.setTop (mkF m 7 #[.val (.ref o0), .val (.ref o1), .unset] [])) (fun tZ kZ => ?_) ?_
    · show Steps p.tables e below (s₁.setTop (mkF m 2 #[.val (.ref o0), .val (.ref o1), .unset] [(.ref o1), (.ref o0)])) _
      refine Jvm.RoadKit.acmp (g := (mkF m 2 #[.val (.ref o0), .val (.ref o1), .unset] [(.ref o1), (.ref o0)])) X0 hx rfl rfl rfl (pc0 := 2) (pc' := 7) (same := false) rfl (hb hby d3_2) rfl (decide_eq_false fun q => hc2 (Value.ref.inj q)) (by decide) (by decide) ?_
      exact kZ
    refine Go.via (T' := s₁.setTop (mkF m 8 #[.val (.ref o0), .val (.ref o1), .unset] [(.ref o1)])) (fun tZ kZ => ?_) ?_
    · show Steps p.tables e below (s₁.setTop (mkF m 7 #[.val (.ref o0), .val (.ref o1), .unset] [])) _
      refine XS.aloadN X0.here hx rfl (hb hby d3_7) rfl rfl ?_
      show Steps p.tables e below (s₁.setTop (mkF m 8 #[.val (.ref o0), .val (.ref o1), .unset] [(.ref o1)])) _
      exact kZ
    obtain ⟨T1, X1, e1, st1⟩ := instY X0 hx hZ hown (hw _ (List.mem_of_getElem? (i := 30) rfl)) e0 (Ins.self ha0) (g := (mkF m 8 #[.val (.ref o0), .val (.ref o1), .unset] [(.ref o1)])) rfl rfl (hb hby d3_8)
    refine Go.via st1 ?_
    show Go p e below _ (T1.setTop (mkF m 11 #[.val (.ref o0), .val (.ref o1), .unset] [(.int (1 : Int32))]))
    refine Go.via (T' := T1.setTop (mkF m 15 #[.val (.ref o0), .val (.ref o1), .unset] [(.ref o1)])) (fun tZ kZ => ?_) ?_
    · show Steps p.tables e below (T1.setTop (mkF m 11 #[.val (.ref o0), .val (.ref o1), .unset] [(.int (1 : Int32))])) _
      refine XS.ifNo X1.here hx rfl (hb hby d3_11) rfl ((if0 _ _).trans (feq (by decide)).1) ?_
      show Steps p.tables e below (T1.setTop (mkF m 14 #[.val (.ref o0), .val (.ref o1), .unset] [])) _
      refine XS.aloadN X1.here hx rfl (hb hby d3_14) rfl rfl ?_
      show Steps p.tables e below (T1.setTop (mkF m 15 #[.val (.ref o0), .val (.ref o1), .unset] [(.ref o1)])) _
      exact kZ
    obtain ⟨T2, X2, e2, st2⟩ := castY X1 hx hZ hown (hw _ (List.mem_of_getElem? (i := 30) rfl)) e1 (Ins.self ha0) (g := (mkF m 15 #[.val (.ref o0), .val (.ref o1), .unset] [(.ref o1)])) rfl rfl (hb hby d3_15)
    refine Go.via st2 ?_
    show Go p e below _ (T2.setTop (mkF m 18 #[.val (.ref o0), .val (.ref o1), .unset] [(.ref o1)]))
    refine Go.via (T' := T2.setTop (mkF m 19 #[.val (.ref o0), .val (.ref o1), .val (.ref o1)] [])) (fun tZ kZ => ?_) ?_
    · show Steps p.tables e below (T2.setTop (mkF m 18 #[.val (.ref o0), .val (.ref o1), .unset] [(.ref o1)])) _
      refine XS.astoreN X2.here hx rfl (hb hby d3_18) rfl rfl (l' := #[.val (.ref o0), .val (.ref o1), .val (.ref o1)]) rfl ?_
      show Steps p.tables e below (T2.setTop (mkF m 19 #[.val (.ref o0), .val (.ref o1), .val (.ref o1)] [])) _
      exact kZ
    obtain ⟨T3, X3, e3, st3⟩ := getS2 X2 hx hZ hown (host := "") (Or.inl (hw _ (List.mem_of_getElem? (i := 32) rfl))) Via.refl e2 ha7 (g := (mkF m 19 #[.val (.ref o0), .val (.ref o1), .val (.ref o1)] [])) rfl (hb hby d3_19)
    refine Go.via st3 ?_
    show Go p e below _ (T3.setTop (mkF m 22 #[.val (.ref o0), .val (.ref o1), .val (.ref o1)] [(.int cs)]))
    refine Go.via (T' := T3.setTop (mkF m 26 #[.val (.ref o0), .val (.ref o1), .val (.ref o1)] [(.ref o0)])) (fun tZ kZ => ?_) ?_
    · show Steps p.tables e below (T3.setTop (mkF m 22 #[.val (.ref o0), .val (.ref o1), .val (.ref o1)] [(.int cs)])) _
      refine XS.ifNo X3.here hx rfl (hb hby d3_22) rfl ((if0 _ _).trans (feq hcs).1) ?_
      show Steps p.tables e below (T3.setTop (mkF m 25 #[.val (.ref o0), .val (.ref o1), .val (.ref o1)] [])) _
      refine XS.aloadN X3.here hx rfl (hb hby d3_25) rfl rfl ?_
      show Steps p.tables e below (T3.setTop (mkF m 26 #[.val (.ref o0), .val (.ref o1), .val (.ref o1)] [(.ref o0)])) _
      exact kZ
    obtain ⟨T4, X4, e4, st4⟩ := getF X3 hx hZ hown (host := "") (Or.inl (hw _ (List.mem_of_getElem? (i := 33) rfl))) Via.refl e3 ha1 (g := (mkF m 26 #[.val (.ref o0), .val (.ref o1), .val (.ref o1)] [(.ref o0)])) rfl rfl (hb hby d3_26)
    refine Go.via st4 ?_
    show Go p e below _ (T4.setTop (mkF m 29 #[.val (.ref o0), .val (.ref o1), .val (.ref o1)] [(.int (0 : Int32))]))
    refine Go.via (T' := T4.setTop (mkF m 30 #[.val (.ref o0), .val (.ref o1), .val (.ref o1)] [(.ref o1), (.int (0 : Int32))])) (fun tZ kZ => ?_) ?_
    · show Steps p.tables e below (T4.setTop (mkF m 29 #[.val (.ref o0), .val (.ref o1), .val (.ref o1)] [(.int (0 : Int32))])) _
      refine XS.aloadN X4.here hx rfl (hb hby d3_29) rfl rfl ?_
      show Steps p.tables e below (T4.setTop (mkF m 30 #[.val (.ref o0), .val (.ref o1), .val (.ref o1)] [(.ref o1), (.int (0 : Int32))])) _
      exact kZ
    obtain ⟨T5, X5, e5, st5⟩ := getF X4 hx hZ hown (host := "") (Or.inl (hw _ (List.mem_of_getElem? (i := 33) rfl))) Via.refl e4 ha2 (g := (mkF m 30 #[.val (.ref o0), .val (.ref o1), .val (.ref o1)] [(.ref o1), (.int (0 : Int32))])) rfl rfl (hb hby d3_30)
    refine Go.via st5 ?_
    show Go p e below _ (T5.setTop (mkF m 33 #[.val (.ref o0), .val (.ref o1), .val (.ref o1)] [(.int (0 : Int32)), (.int (0 : Int32))]))
    refine Go.via (T' := T5.setTop (mkF m 37 #[.val (.ref o0), .val (.ref o1), .val (.ref o1)] [(.ref o0)])) (fun tZ kZ => ?_) ?_
    · show Steps p.tables e below (T5.setTop (mkF m 33 #[.val (.ref o0), .val (.ref o1), .val (.ref o1)] [(.int (0 : Int32)), (.int (0 : Int32))])) _
      refine XS.icmpNo X5.here hx rfl (hb hby d3_33) rfl (teq (by decide)).2 ?_
      show Steps p.tables e below (T5.setTop (mkF m 36 #[.val (.ref o0), .val (.ref o1), .val (.ref o1)] [])) _
      refine XS.aloadN X5.here hx rfl (hb hby d3_36) rfl rfl ?_
      show Steps p.tables e below (T5.setTop (mkF m 37 #[.val (.ref o0), .val (.ref o1), .val (.ref o1)] [(.ref o0)])) _
      exact kZ
    obtain ⟨T6, X6, e6, st6⟩ := getF X5 hx hZ hown (host := "") (Or.inl (hw _ (List.mem_of_getElem? (i := 34) rfl))) Via.refl e5 ha3 (g := (mkF m 37 #[.val (.ref o0), .val (.ref o1), .val (.ref o1)] [(.ref o0)])) rfl rfl (hb hby d3_37)
    refine Go.via st6 ?_
    show Go p e below _ (T6.setTop (mkF m 40 #[.val (.ref o0), .val (.ref o1), .val (.ref o1)] [(.ref b0)]))
    refine Go.via (T' := T6.setTop (mkF m 41 #[.val (.ref o0), .val (.ref o1), .val (.ref o1)] [(.ref o1), (.ref b0)])) (fun tZ kZ => ?_) ?_
    · show Steps p.tables e below (T6.setTop (mkF m 40 #[.val (.ref o0), .val (.ref o1), .val (.ref o1)] [(.ref b0)])) _
      refine XS.aloadN X6.here hx rfl (hb hby d3_40) rfl rfl ?_
      show Steps p.tables e below (T6.setTop (mkF m 41 #[.val (.ref o0), .val (.ref o1), .val (.ref o1)] [(.ref o1), (.ref b0)])) _
      exact kZ
    obtain ⟨T7, X7, e7, st7⟩ := getF X6 hx hZ hown (host := "") (Or.inl (hw _ (List.mem_of_getElem? (i := 34) rfl))) Via.refl e6 ha4 (g := (mkF m 41 #[.val (.ref o0), .val (.ref o1), .val (.ref o1)] [(.ref o1), (.ref b0)])) rfl rfl (hb hby d3_41)
    refine Go.via st7 ?_
    show Go p e below _ (T7.setTop (mkF m 44 #[.val (.ref o0), .val (.ref o1), .val (.ref o1)] [(.ref b1), (.ref b0)]))
    obtain ⟨_, _, ⟨T8, L8, k8, n8⟩, -, X8, ⟨Lc8, hQ8, l8, y8, z8⟩, st8⟩ := Jvm.LawKit.callS X7 hx (y := (⟨"java/lang/StringLatin1", "equals", "([B[B)Z"⟩ : MethodName)) hown (mvT hZ (hw _ (List.mem_of_getElem? (i := 35) rfl))) (mvT hZ (hw _ (List.mem_of_getElem? (i := 36) rfl))) (mvT hZ (hw _ (List.mem_of_getElem? (i := 37) rfl))) (mvT hZ (hw _ (List.mem_of_getElem? (i := 38) rfl))) (by decide) (backOf (W := 0) (rm4n3 l Z a0 hw [] b0 b1 fF h0 n0 Z0 ha5 ha6) hZ (hw _ (List.mem_of_getElem? (i := 38) rfl)) (hw _ (List.mem_of_getElem? (i := 37) rfl)) (by decide) (by decide)) (g := (mkF m 44 #[.val (.ref o0), .val (.ref o1), .val (.ref o1)] [(.ref b1), (.ref b0)])) rfl (by rw [hml]; rfl) (argsL := [(.ref b0), (.ref b1)]) (rest := []) (lenOf pd_3 rfl) rfl (by show 2 * 0 + _ ≤ _; exact Nat.le_of_eq rfl) (hb hby d3_44) (fun _ _ => ⟨rfl, e7, (by decide : 0 + 0 ≤ _), (by decide : 0 + 0 ≤ _)⟩)
    dsimp only [Pt.U, Pt.locs, Pt.cells, Pt.slots] at X8 l8 y8 z8 st8 hQ8
    subst l8 y8 z8
    obtain ⟨rfl, N8q, e8⟩ := hQ8
    have N8 := Fr.app N0 N8q
    refine Go.via st8 ?_
    show Go p e below _ (T8.setTop (mkF m 47 #[.val (.ref o0), .val (.ref o1), .val (.ref o1)] [(.int (1 : Int32))]))
    refine Go.via (T' := T8.setTop (mkF m 55 #[.val (.ref o0), .val (.ref o1), .val (.ref o1)] [(.int (1 : Int32))])) (fun tZ kZ => ?_) ?_
    · show Steps p.tables e below (T8.setTop (mkF m 47 #[.val (.ref o0), .val (.ref o1), .val (.ref o1)] [(.int (1 : Int32))])) _
      refine XS.ifNo X8.here hx rfl (hb hby d3_47) rfl ((if0 _ _).trans (feq (by decide)).1) ?_
      show Steps p.tables e below (T8.setTop (mkF m 50 #[.val (.ref o0), .val (.ref o1), .val (.ref o1)] [])) _
      refine XS.iconst X8.here hx rfl (hb hby d3_50) ?_
      show Steps p.tables e below (T8.setTop (mkF m 51 #[.val (.ref o0), .val (.ref o1), .val (.ref o1)] [(.int (1 : Int32))])) _
      refine XS.goto X8.here hx rfl (pc0 := 51) (pc' := 55) rfl (hb hby d3_51) (by decide) (by decide) ?_
      show Steps p.tables e below (T8.setTop (mkF m 55 #[.val (.ref o0), .val (.ref o1), .val (.ref o1)] [(.int (1 : Int32))])) _
      exact kZ
    refine Go.retN X8 hx Bd.notSynchronized (t := .boolean) Bd.returns (by simp) (hb hby d3_55) (by decide) (by decide) ?_
    refine ⟨?_, N8, e8⟩
    show some ((Value.int (nar .boolean (1 : Int32))) : Value) = some (.int (f3n3 o0 o1 b0 b1 fF cs))
    unfold f3n3; rw [if_neg hc2] <;> rfl
theorem own_eq3 (o0 o1 b0 b1 : Addr) (fF : Nat → Int32) (cs : Int32) : f3n3 o0 o1 b0 b1 fF cs = 1 := by unfold f3n3; split <;> rfl
theorem own_and3 (x : Int32) : x &&& 3 = 0 ∨ x &&& 3 = 1 ∨ x &&& 3 = 2 ∨ x &&& 3 = 3 := by
  have e := Jvm.Kit.i32_mask x 3 (k := 2) (by decide) (by decide)
  have : (x &&& 3).toInt = 0 ∨ (x &&& 3).toInt = 1 ∨ (x &&& 3).toInt = 2 ∨ (x &&& 3).toInt = 3 := by omega
  rcases this with q | q | q | q
  · left; exact Int32.toInt_inj.mp q
  · right; left; exact Int32.toInt_inj.mp q
  · right; right; left; exact Int32.toInt_inj.mp q
  · right; right; right; exact Int32.toInt_inj.mp q
theorem own_eqr {t u : Term} {a : Addr} {args : Array Value} {s : State} (h : (Cond.eq t u).value args s none s [] = some true) (hu : u.eval args s none [] s = some (.ref a)) : t.eval args s none [] s = some (.ref a) := by
  obtain ⟨x, y, h1, h2, k, k'⟩ := cmp_v (Or.inl h)
  cases hu.symm.trans h2
  have r := gotT (eq_R h1 hu k'.2 k'.1) h
  rw [h1, r]
theorem own_len {t : Term} {a : Addr} {cl : Cell} {ty : FieldType} {n : Int32} {args : Array Value} {s : State} (ht : t.eval args s none [] s = some (.ref a)) (A : Arr s s.heap a cl ty) (hl : (Term.length t).eval args s none [] s = some (.int n)) : cl.slots.size = n.toNatClampNeg := by
  have ha : s.arrayAt? a = some cl := A.fin (Vm.Alike.refl _)
  by_cases q : cl.slots.size < 2 ^ 31
  · rw [len_f ht ha q] at hl
    cases hl
    simp only [Int32.toNatClampNeg, len_toInt q]; rfl
  · simp [Term.eval, ht, ha, q] at hl
def Q0 (n0 : Nat) (v : Option Value) (h : Heap) (L : List Loc) : Prop := v = some (.int 1) ∧ Fr n0 L
theorem pd_0 : parseMethodDescriptor "(I)Lcom/example/paratitle/paratitle/titles/HeadingElement;" = some ⟨[.int], some (.object "com/example/paratitle/paratitle/titles/HeadingElement")⟩ := by decide +kernel
theorem pd_1 : parseMethodDescriptor "(Lcom/example/paratitle/paratitle/titles/HeadingElement;)Ljava/lang/String;" = some ⟨[(.object "com/example/paratitle/paratitle/titles/HeadingElement")], some (.object "java/lang/String")⟩ := by decide +kernel
theorem pd_2 : parseMethodDescriptor "(Ljava/lang/Object;)Z" = some ⟨[(.object "java/lang/Object")], some .boolean⟩ := by decide +kernel
theorem ef_0_aa (m : MethodId) (x0 : Int32) (x1 : Int32) : entryFrame m #[(.int x0), (.int x1)] maxLocals = mkF m 0 #[.val (.int x0), .val (.int x1), .unset, .unset, .unset, .unset] [] := by first | (simp [entryFrame, mkF, argsToLocals, Value.category, maxLocals]; done) | rfl
set_option maxRecDepth 65536 in
set_option maxHeartbeats 40000000 in
theorem rm0 (l : Launch) (Z : State) (a0 : Array Value) (hw : ∀ d ∈ tables_1, d.before a0 Z = true) (ws : List Jvm.Cond) (p0 : Int32) (p1 : Int32) (aT : Addr) (aO : Addr) (aN : Addr) (aP : Addr) (saT : Addr) (saO : Addr) (baT : Addr) (baO : Addr) (cs : Int32) (h0 : Heap) (n0 : Nat) (Z0 : n0 ≤ h0.size) (ha0 : Sta Z Z.heap "com/example/paratitle/paratitle/titles/HeadingElement" "TITLE" "Lcom/example/paratitle/paratitle/titles/HeadingElement;" (.ref aT)) (ha1 : Sta Z Z.heap "com/example/paratitle/paratitle/titles/HeadingElement" "OTHER_TITLE_INFORMATION" "Lcom/example/paratitle/paratitle/titles/HeadingElement;" (.ref aO)) (ha2 : Sta Z Z.heap "com/example/paratitle/paratitle/titles/HeadingElement" "PART_NUMBER" "Lcom/example/paratitle/paratitle/titles/HeadingElement;" (.ref aN)) (ha3 : Sta Z Z.heap "com/example/paratitle/paratitle/titles/HeadingElement" "PART_NAME" "Lcom/example/paratitle/paratitle/titles/HeadingElement;" (.ref aP)) (ha4 : Exa Z h0 aT "com/example/paratitle/paratitle/titles/HeadingElement") (ha5 : Exa Z h0 aO "com/example/paratitle/paratitle/titles/HeadingElement") (ha6 : Exa Z h0 aN "com/example/paratitle/paratitle/titles/HeadingElement") (ha7 : Exa Z h0 aP "com/example/paratitle/paratitle/titles/HeadingElement") (ha8 : Fld Z h0 aT "com/example/paratitle/paratitle/titles/HeadingElement" "separator" "Ljava/lang/String;" (.ref saT)) (ha9 : Fld Z h0 aO "com/example/paratitle/paratitle/titles/HeadingElement" "separator" "Ljava/lang/String;" (.ref saO)) (ha10 : Fld Z h0 aN "com/example/paratitle/paratitle/titles/HeadingElement" "separator" "Ljava/lang/String;" (.ref saT)) (ha11 : Fld Z h0 aP "com/example/paratitle/paratitle/titles/HeadingElement" "separator" "Ljava/lang/String;" (.ref saT)) (ha12 : Exa Z h0 saT "java/lang/String") (ha13 : Fld Z h0 saT "java/lang/String" "coder" "B" (.int (0 : Int32))) (ha14 : Fld Z h0 saT "java/lang/String" "value" "[B" (.ref baT)) (ha15 : AV Z h0 baT .byte 2 (fun k => .int ((own_t [46, 32]) k))) (ha16 : Exa Z h0 saO "java/lang/String") (ha17 : Fld Z h0 saO "java/lang/String" "coder" "B" (.int (0 : Int32))) (ha18 : Fld Z h0 saO "java/lang/String" "value" "[B" (.ref baO)) (ha19 : AV Z h0 baO .byte 3 (fun k => .int ((own_t [32, 58, 32]) k))) (ha20 : Sta Z Z.heap "java/lang/String" "COMPACT_STRINGS" "Z" (.int cs)) (ha21 : Old Z n0 h0) (hne_aT_aP : aT ≠ aP) (hne_aO_aP : aO ≠ aP) (hne_aN_aP : aN ≠ aP) (hne_aT_aN : aT ≠ aN) (hne_aO_aN : aO ≠ aN) (hcs : ¬ cs = 0) :
    MetFree l x (head1 (Jvm.Cond.code x code maxLocals ret :: ws) room_1) (fun a U => a = #[(.int p0), (.int p1)] ∧ Z.Warmed39 U.vm ∧ U.heap = h0 ∧ CHv Z own_EL U.vm h0) (fun _ _ _ _ _ => True) (fun _ U o U' => ∃ v L, o = .returned v ∧ Q0 n0 v U'.heap L ∧ ReturnedEndW U o U' L 8 4160) := by
  refine MetFree.of_bodySF (plainFor_of_name pn_0) hisR ?_
  intro p e s m args below meth c s₁ Bd hml0 hP hK
  obtain ⟨rfl, hZ, hh, hCH⟩ := hP
  have hx := Bd.exec
  have hby := Bd.bytes
  have hml : c.maxLocals = 6 := hml0
  have hown : s.vm.findClass "com/example/paratitle/paratitle/titles/HeadingElementSeparatorAfterPinLaw" = some m.cls := findClass_of_methodNamed Bd.named
  have hnm := (name_of_methodNamed Bd.named Bd.method).1
  have X0 : Stand p l e room_1 s m #[(.int p0), (.int p1)] below meth c s₁ [] 0 0 := Stand.of_body Bd
  have e0 : s₁.heap = h0 := by rw [← hh, Bd.state]; rfl
  have N0 := Fr.nil n0
  refine Go.into (P := fun oo uu => ∃ v L, oo = .returned v ∧ Q0 n0 v uu.heap L ∧ ReturnedEndW s oo uu L 8 4160) (ef_0_aa m p0 p1) ?_
  show Go p e below _ (s₁.setTop (mkF m 0 #[.val (.int p0), .val (.int p1), .unset, .unset, .unset, .unset] []))
  have hS0 : s.Since s.vm 0 := (State.WarmedH.refl s).since 0
  have wS : ∀ a ∈ Bundle.stringAtoms, a.before a0 Z = true := by
    intro d hd
    simp only [Bundle.stringAtoms, List.mem_cons, List.not_mem_nil, or_false] at hd
    rcases hd with rfl | rfl | rfl | rfl | rfl | rfl | rfl
    · exact (hw _ (List.mem_of_getElem? (i := 18) rfl))
    · exact (hw _ (List.mem_of_getElem? (i := 19) rfl))
    · exact (hw _ (List.mem_of_getElem? (i := 20) rfl))
    · exact (hw _ (List.mem_of_getElem? (i := 21) rfl))
    · exact (hw _ (List.mem_of_getElem? (i := 22) rfl))
    · exact (hw _ (List.mem_of_getElem? (i := 23) rfl))
    · exact (hw _ (List.mem_of_getElem? (i := 24) rfl))
  refine Go.via (T' := s₁.setTop (mkF m 8 #[.val (.int p0), .val (.int p1), .val (.int (p0 &&& (3 : Int32))), .val (.int (p1 &&& (3 : Int32))), .unset, .unset] [])) (fun tZ kZ => ?_) ?_
  · show Steps p.tables e below (s₁.setTop (mkF m 0 #[.val (.int p0), .val (.int p1), .unset, .unset, .unset, .unset] [])) _
    refine XS.iloadN X0.here hx rfl (hb hby at_0) rfl ?_
    show Steps p.tables e below (s₁.setTop (mkF m 1 #[.val (.int p0), .val (.int p1), .unset, .unset, .unset, .unset] [(.int p0)])) _
    refine XS.iconst X0.here hx rfl (hb hby at_1) ?_
    show Steps p.tables e below (s₁.setTop (mkF m 2 #[.val (.int p0), .val (.int p1), .unset, .unset, .unset, .unset] [(.int (3 : Int32)), (.int p0)])) _
    refine XS.iand X0.here hx rfl (hb hby at_2) rfl ?_
    show Steps p.tables e below (s₁.setTop (mkF m 3 #[.val (.int p0), .val (.int p1), .unset, .unset, .unset, .unset] [(.int (p0 &&& (3 : Int32)))])) _
    refine XS.istoreN X0.here hx rfl (hb hby at_3) rfl (l' := #[.val (.int p0), .val (.int p1), .val (.int (p0 &&& (3 : Int32))), .unset, .unset, .unset]) rfl ?_
    show Steps p.tables e below (s₁.setTop (mkF m 4 #[.val (.int p0), .val (.int p1), .val (.int (p0 &&& (3 : Int32))), .unset, .unset, .unset] [])) _
    refine XS.iloadN X0.here hx rfl (hb hby at_4) rfl ?_
    show Steps p.tables e below (s₁.setTop (mkF m 5 #[.val (.int p0), .val (.int p1), .val (.int (p0 &&& (3 : Int32))), .unset, .unset, .unset] [(.int p1)])) _
    refine XS.iconst X0.here hx rfl (hb hby at_5) ?_
    show Steps p.tables e below (s₁.setTop (mkF m 6 #[.val (.int p0), .val (.int p1), .val (.int (p0 &&& (3 : Int32))), .unset, .unset, .unset] [(.int (3 : Int32)), (.int p1)])) _
    refine XS.iand X0.here hx rfl (hb hby at_6) rfl ?_
    show Steps p.tables e below (s₁.setTop (mkF m 7 #[.val (.int p0), .val (.int p1), .val (.int (p0 &&& (3 : Int32))), .unset, .unset, .unset] [(.int (p1 &&& (3 : Int32)))])) _
    refine XS.istoreN X0.here hx rfl (hb hby at_7) rfl (l' := #[.val (.int p0), .val (.int p1), .val (.int (p0 &&& (3 : Int32))), .val (.int (p1 &&& (3 : Int32))), .unset, .unset]) rfl ?_
    show Steps p.tables e below (s₁.setTop (mkF m 8 #[.val (.int p0), .val (.int p1), .val (.int (p0 &&& (3 : Int32))), .val (.int (p1 &&& (3 : Int32))), .unset, .unset] [])) _
    exact kZ
  rcases own_and3 p0 with hi | hi | hi | hi
  · rw [hi]
    rcases own_and3 p1 with hj | hj | hj | hj
    · rw [hj]
      show Go p e below _ (s₁.setTop (mkF m 8 #[.val (.int p0), .val (.int p1), .val (.int (0 : Int32)), .val (.int (0 : Int32)), .unset, .unset] []))
      refine Go.via (T' := s₁.setTop (mkF m 9 #[.val (.int p0), .val (.int p1), .val (.int (0 : Int32)), .val (.int (0 : Int32)), .unset, .unset] [(.int (0 : Int32))])) (fun tZ kZ => ?_) ?_
      · show Steps p.tables e below (s₁.setTop (mkF m 8 #[.val (.int p0), .val (.int p1), .val (.int (0 : Int32)), .val (.int (0 : Int32)), .unset, .unset] [])) _
        refine XS.iloadN X0.here hx rfl (hb hby at_8) rfl ?_
        show Steps p.tables e below (s₁.setTop (mkF m 9 #[.val (.int p0), .val (.int p1), .val (.int (0 : Int32)), .val (.int (0 : Int32)), .unset, .unset] [(.int (0 : Int32))])) _
        exact kZ
      obtain ⟨_, _, ⟨T1, L1, k1, n1⟩, -, X1, ⟨Lc1, hQ1, l1, y1, z1⟩, st1⟩ := Jvm.LawKit.callS X0 hx (y := (⟨"com/example/paratitle/paratitle/titles/HeadingElementSeparatorAfterPinLaw", "pick", "(I)Lcom/example/paratitle/paratitle/titles/HeadingElement;"⟩ : MethodName)) hown (mvT hZ (hw _ (List.mem_of_getElem? (i := 0) rfl))) (mvT hZ (hw _ (List.mem_of_getElem? (i := 1) rfl))) (mvT hZ (hw _ (List.mem_of_getElem? (i := 2) rfl))) (mvT hZ (hw _ (List.mem_of_getElem? (i := 3) rfl))) (by decide) (backOf (W := 0) (rm1 l Z a0 hw [] (0 : Int32) aT aO aN aP h0 n0 Z0 (ha0.ext ha21.2) (ha1.ext ha21.2) (ha2.ext ha21.2) (ha3.ext ha21.2)) hZ (hw _ (List.mem_of_getElem? (i := 3) rfl)) (hw _ (List.mem_of_getElem? (i := 2) rfl)) (by decide) (by decide)) (g := (mkF m 9 #[.val (.int p0), .val (.int p1), .val (.int (0 : Int32)), .val (.int (0 : Int32)), .unset, .unset] [(.int (0 : Int32))])) rfl (by rw [hml]; rfl) (argsL := [(.int (0 : Int32))]) (rest := []) (lenOf pd_0 rfl) rfl (by show 2 * 0 + _ ≤ _; exact Nat.le_of_eq rfl) (hb hby at_9) (fun _ _ => ⟨rfl, e0, (by decide : 0 + 0 ≤ _), (by decide : 0 + 0 ≤ _)⟩)
      dsimp only [Pt.U, Pt.locs, Pt.cells, Pt.slots] at X1 l1 y1 z1 st1 hQ1
      subst l1 y1 z1
      obtain ⟨rfl, N1q, e1⟩ := hQ1
      rw [show (f1 (0 : Int32) aT aO aN aP) = Value.ref aT from rfl] at st1
      have N1 := Fr.app N0 N1q
      refine Go.via st1 ?_
      show Go p e below _ (T1.setTop (mkF m 12 #[.val (.int p0), .val (.int p1), .val (.int (0 : Int32)), .val (.int (0 : Int32)), .unset, .unset] [(.ref aT)]))
      refine Go.via (T' := T1.setTop (mkF m 13 #[.val (.int p0), .val (.int p1), .val (.int (0 : Int32)), .val (.int (0 : Int32)), .unset, .unset] [(.int (0 : Int32)), (.ref aT)])) (fun tZ kZ => ?_) ?_
      · show Steps p.tables e below (T1.setTop (mkF m 12 #[.val (.int p0), .val (.int p1), .val (.int (0 : Int32)), .val (.int (0 : Int32)), .unset, .unset] [(.ref aT)])) _
        refine XS.iloadN X1.here hx rfl (hb hby at_12) rfl ?_
        show Steps p.tables e below (T1.setTop (mkF m 13 #[.val (.int p0), .val (.int p1), .val (.int (0 : Int32)), .val (.int (0 : Int32)), .unset, .unset] [(.int (0 : Int32)), (.ref aT)])) _
        exact kZ
      obtain ⟨_, _, ⟨T2, L2, k2, n2⟩, -, X2, ⟨Lc2, hQ2, l2, y2, z2⟩, st2⟩ := Jvm.LawKit.callS X1 hx (y := (⟨"com/example/paratitle/paratitle/titles/HeadingElementSeparatorAfterPinLaw", "pick", "(I)Lcom/example/paratitle/paratitle/titles/HeadingElement;"⟩ : MethodName)) hown (mvT hZ (hw _ (List.mem_of_getElem? (i := 0) rfl))) (mvT hZ (hw _ (List.mem_of_getElem? (i := 1) rfl))) (mvT hZ (hw _ (List.mem_of_getElem? (i := 2) rfl))) (mvT hZ (hw _ (List.mem_of_getElem? (i := 3) rfl))) (by decide) (backOf (W := 1) (rm1 l Z a0 hw [] (0 : Int32) aT aO aN aP h0 n0 Z0 (ha0.ext ha21.2) (ha1.ext ha21.2) (ha2.ext ha21.2) (ha3.ext ha21.2)) hZ (hw _ (List.mem_of_getElem? (i := 3) rfl)) (hw _ (List.mem_of_getElem? (i := 2) rfl)) (by decide) (by decide)) (g := (mkF m 13 #[.val (.int p0), .val (.int p1), .val (.int (0 : Int32)), .val (.int (0 : Int32)), .unset, .unset] [(.int (0 : Int32)), (.ref aT)])) rfl (by rw [hml]; rfl) (argsL := [(.int (0 : Int32))]) (rest := [(.ref aT)]) (lenOf pd_0 rfl) rfl (by show 2 * 0 + _ ≤ _; exact Nat.le_of_eq rfl) (hb hby at_13) (fun _ _ => ⟨rfl, e1, (by decide : 0 + 0 + 0 ≤ _), (by decide : 0 + 0 + 0 ≤ _)⟩)
      dsimp only [Pt.U, Pt.locs, Pt.cells, Pt.slots] at X2 l2 y2 z2 st2 hQ2
      subst l2 y2 z2
      obtain ⟨rfl, N2q, e2⟩ := hQ2
      rw [show (f1 (0 : Int32) aT aO aN aP) = Value.ref aT from rfl] at st2
      have N2 := Fr.app N1 N2q
      refine Go.via st2 ?_
      show Go p e below _ (T2.setTop (mkF m 16 #[.val (.int p0), .val (.int p1), .val (.int (0 : Int32)), .val (.int (0 : Int32)), .unset, .unset] [(.ref aT), (.ref aT)]))
      obtain ⟨cq3, kq3, q3a, q3b, q3c⟩ := isOf hZ e2 ha4
      obtain ⟨_, _, ⟨T3, L3, k3, n3⟩, -, X3, ⟨Lc3, hQ3, l3, y3, z3⟩, st3⟩ := X2.virtualBack hx (y := (⟨"com/example/paratitle/paratitle/titles/HeadingElement", "separatorAfter", "(Lcom/example/paratitle/paratitle/titles/HeadingElement;)Ljava/lang/String;"⟩ : MethodName)) (z := (⟨"com/example/paratitle/paratitle/titles/HeadingElement", "separatorAfter", "(Lcom/example/paratitle/paratitle/titles/HeadingElement;)Ljava/lang/String;"⟩ : MethodName)) hown (mvT hZ (hw _ (List.mem_of_getElem? (i := 9) rfl))) (mvT hZ (hw _ (List.mem_of_getElem? (i := 10) rfl))) (notFace_of_selects (args := #[]) (mvT hZ (hw _ (List.mem_of_getElem? (i := 12) rfl)))) (mvT hZ (hw _ (List.mem_of_getElem? (i := 12) rfl))) (mvT hZ (hw _ (List.mem_of_getElem? (i := 11) rfl))) (by decide) (backOf (W := 0) (rm2i l Z a0 hw [] aT aT aP aN saT h0 n0 Z0 (ha3.ext ha21.2) (ha2.ext ha21.2) ha8 hne_aT_aP) hZ (hw _ (List.mem_of_getElem? (i := 13) rfl)) (hw _ (List.mem_of_getElem? (i := 5) rfl)) (by decide) (by decide)) q3a q3c (g := (mkF m 16 #[.val (.int p0), .val (.int p1), .val (.int (0 : Int32)), .val (.int (0 : Int32)), .unset, .unset] [(.ref aT), (.ref aT)])) rfl (by rw [hml]; rfl) (Steps.refl _) (argsL := [(.ref aT)]) (rest := []) (lenOf pd_1 rfl) rfl (by show 2 * 0 + _ ≤ _; exact Nat.le_of_eq rfl) (hb hby at_16) (fun _ _ => ⟨rfl, e2, (by decide : 0 + 0 + 0 + 0 ≤ _), (by decide : 0 + 0 + 0 + 0 ≤ _)⟩)
      dsimp only [Pt.U, Pt.locs, Pt.cells, Pt.slots] at X3 l3 y3 z3 st3 hQ3
      subst l3 y3 z3
      obtain ⟨rfl, N3q, e3⟩ := hQ3
      have N3 := Fr.app N2 N3q
      refine Go.via (fun t k => st3.trans k) ?_
      show Go p e below _ (T3.setTop (mkF m 19 #[.val (.int p0), .val (.int p1), .val (.int (0 : Int32)), .val (.int (0 : Int32)), .unset, .unset] [(.ref saT)]))
      refine Go.via (T' := T3.setTop (mkF m 50 #[.val (.int p0), .val (.int p1), .val (.int (0 : Int32)), .val (.int (0 : Int32)), .val (.ref saT), .unset] [])) (fun tZ kZ => ?_) ?_
      · show Steps p.tables e below (T3.setTop (mkF m 19 #[.val (.int p0), .val (.int p1), .val (.int (0 : Int32)), .val (.int (0 : Int32)), .unset, .unset] [(.ref saT)])) _
        refine XS.astore X3.here hx rfl (hb hby at_19) rfl rfl (l' := #[.val (.int p0), .val (.int p1), .val (.int (0 : Int32)), .val (.int (0 : Int32)), .val (.ref saT), .unset]) rfl ?_
        show Steps p.tables e below (T3.setTop (mkF m 21 #[.val (.int p0), .val (.int p1), .val (.int (0 : Int32)), .val (.int (0 : Int32)), .val (.ref saT), .unset] [])) _
        refine XS.iloadN X3.here hx rfl (hb hby at_21) rfl ?_
        show Steps p.tables e below (T3.setTop (mkF m 22 #[.val (.int p0), .val (.int p1), .val (.int (0 : Int32)), .val (.int (0 : Int32)), .val (.ref saT), .unset] [(.int (0 : Int32))])) _
        refine XS.iconst X3.here hx rfl (hb hby at_22) ?_
        show Steps p.tables e below (T3.setTop (mkF m 23 #[.val (.int p0), .val (.int p1), .val (.int (0 : Int32)), .val (.int (0 : Int32)), .val (.ref saT), .unset] [(.int (1 : Int32)), (.int (0 : Int32))])) _
        refine XS.icmpYes X3.here hx rfl (pc0 := 23) (pc' := 33) rfl (hb hby at_23) rfl (feq (by decide)).2 (by decide) (by decide) ?_
        show Steps p.tables e below (T3.setTop (mkF m 33 #[.val (.int p0), .val (.int p1), .val (.int (0 : Int32)), .val (.int (0 : Int32)), .val (.ref saT), .unset] [])) _
        refine XS.iloadN X3.here hx rfl (hb hby at_33) rfl ?_
        show Steps p.tables e below (T3.setTop (mkF m 34 #[.val (.int p0), .val (.int p1), .val (.int (0 : Int32)), .val (.int (0 : Int32)), .val (.ref saT), .unset] [(.int (0 : Int32))])) _
        refine XS.iconst X3.here hx rfl (hb hby at_34) ?_
        show Steps p.tables e below (T3.setTop (mkF m 35 #[.val (.int p0), .val (.int p1), .val (.int (0 : Int32)), .val (.int (0 : Int32)), .val (.ref saT), .unset] [(.int (3 : Int32)), (.int (0 : Int32))])) _
        refine XS.icmpYes X3.here hx rfl (pc0 := 35) (pc' := 50) rfl (hb hby at_35) rfl (feq (by decide)).2 (by decide) (by decide) ?_
        show Steps p.tables e below (T3.setTop (mkF m 50 #[.val (.int p0), .val (.int p1), .val (.int (0 : Int32)), .val (.int (0 : Int32)), .val (.ref saT), .unset] [])) _
        exact kZ
      obtain ⟨as4, T4, h4, kk4, ab4, kc4, X4, e4, E4, hS4, hk4, hZ, hown, Ea4, Fc4, Fv4, Ar4, -, -, CR4, -, -, st4⟩ := ldcCH (s := s) (vm0 := s.vm) (EL := own_EL) X3 hx hZ hown (hw _ (List.mem_of_getElem? (i := 17) rfl)) wS e3 hS0 (Nat.zero_le _) (own_EW hw) (by simp [own_EL]) hCH (vs := [46, 32].map Value.int) (z := 2) ⟨by decide, by decide +kernel⟩ (by decide) rfl (g := (mkF m 50 #[.val (.int p0), .val (.int p1), .val (.int (0 : Int32)), .val (.int (0 : Int32)), .val (.ref saT), .unset] [])) rfl (hb hby at_50) (n := 64) (by decide) (by decide) (by decide) (by decide)
      have c5_21 := ha21.ext E4
      have c5_0 := ha0.ext c5_21.2
      have c5_1 := ha1.ext c5_21.2
      have c5_2 := ha2.ext c5_21.2
      have c5_3 := ha3.ext c5_21.2
      have c5_4 := ha4.ext E4
      have c5_5 := ha5.ext E4
      have c5_6 := ha6.ext E4
      have c5_7 := ha7.ext E4
      have c5_8 := ha8.ext E4
      have c5_9 := ha9.ext E4
      have c5_10 := ha10.ext E4
      have c5_11 := ha11.ext E4
      have c5_12 := ha12.ext E4
      have c5_13 := ha13.ext E4
      have c5_14 := ha14.ext E4
      have c5_15 := ha15.ext E4
      have c5_16 := ha16.ext E4
      have c5_17 := ha17.ext E4
      have c5_18 := ha18.ext E4
      have c5_19 := ha19.ext E4
      have c5_20 := ha20.ext c5_21.2
      have Va4 := AV.ofArv Ar4 (n := 2) rfl (by decide)
      have K4 : Keep h0 h4 [] := (Keep.refl h0 []).ext E4
      have Z4 : n0 ≤ h4.size := Nat.le_trans Z0 E4.1
      refine Go.via st4 ?_
      show Go p e below _ (T4.setTop (mkF m 52 #[.val (.int p0), .val (.int p1), .val (.int (0 : Int32)), .val (.int (0 : Int32)), .val (.ref saT), .unset] [(.ref as4)]))
      refine Go.via (T' := T4.setTop (mkF m 63 #[.val (.int p0), .val (.int p1), .val (.int (0 : Int32)), .val (.int (0 : Int32)), .val (.ref saT), .val (.ref as4)] [(.ref as4), (.ref saT)])) (fun tZ kZ => ?_) ?_
      · show Steps p.tables e below (T4.setTop (mkF m 52 #[.val (.int p0), .val (.int p1), .val (.int (0 : Int32)), .val (.int (0 : Int32)), .val (.ref saT), .unset] [(.ref as4)])) _
        refine XS.astore X4.here hx rfl (hb hby at_52) rfl rfl (l' := #[.val (.int p0), .val (.int p1), .val (.int (0 : Int32)), .val (.int (0 : Int32)), .val (.ref saT), .val (.ref as4)]) rfl ?_
        show Steps p.tables e below (T4.setTop (mkF m 54 #[.val (.int p0), .val (.int p1), .val (.int (0 : Int32)), .val (.int (0 : Int32)), .val (.ref saT), .val (.ref as4)] [])) _
        refine XS.aload X4.here hx rfl (hb hby at_54) rfl rfl ?_
        show Steps p.tables e below (T4.setTop (mkF m 56 #[.val (.int p0), .val (.int p1), .val (.int (0 : Int32)), .val (.int (0 : Int32)), .val (.ref saT), .val (.ref as4)] [(.ref saT)])) _
        refine XS.ifnullNo X4.here hx rfl (hb hby at_56) rfl ?_
        show Steps p.tables e below (T4.setTop (mkF m 59 #[.val (.int p0), .val (.int p1), .val (.int (0 : Int32)), .val (.int (0 : Int32)), .val (.ref saT), .val (.ref as4)] [])) _
        refine XS.aload X4.here hx rfl (hb hby at_59) rfl rfl ?_
        show Steps p.tables e below (T4.setTop (mkF m 61 #[.val (.int p0), .val (.int p1), .val (.int (0 : Int32)), .val (.int (0 : Int32)), .val (.ref saT), .val (.ref as4)] [(.ref saT)])) _
        refine XS.aload X4.here hx rfl (hb hby at_61) rfl rfl ?_
        show Steps p.tables e below (T4.setTop (mkF m 63 #[.val (.int p0), .val (.int p1), .val (.int (0 : Int32)), .val (.int (0 : Int32)), .val (.ref saT), .val (.ref as4)] [(.ref as4), (.ref saT)])) _
        exact kZ
      obtain ⟨cq6, kq6, q6a, q6b, q6c⟩ := isOf hZ e4 c5_12
      obtain ⟨_, _, ⟨T6, L6, k6, n6⟩, -, X6, ⟨Lc6, hQ6, l6, y6, z6⟩, st6⟩ := X4.virtualBack hx (y := (⟨"java/lang/String", "equals", "(Ljava/lang/Object;)Z"⟩ : MethodName)) (z := (⟨"java/lang/String", "equals", "(Ljava/lang/Object;)Z"⟩ : MethodName)) hown (mvT hZ (hw _ (List.mem_of_getElem? (i := 25) rfl))) (mvT hZ (hw _ (List.mem_of_getElem? (i := 26) rfl))) (notFace_of_selects (args := #[]) (mvT hZ (hw _ (List.mem_of_getElem? (i := 28) rfl)))) (mvT hZ (hw _ (List.mem_of_getElem? (i := 28) rfl))) (mvT hZ (hw _ (List.mem_of_getElem? (i := 27) rfl))) (by decide) (backOf (W := 0) (rm3n2 l Z a0 hw [] saT as4 baT ab4 (own_t [46, 32]) cs h4 n0 Z4 Ea4 c5_13 Fc4 c5_14 Fv4 c5_15 Va4 c5_20 hcs) hZ (hw _ (List.mem_of_getElem? (i := 29) rfl)) (hw _ (List.mem_of_getElem? (i := 18) rfl)) (by decide) (by decide)) q6a q6c (g := (mkF m 63 #[.val (.int p0), .val (.int p1), .val (.int (0 : Int32)), .val (.int (0 : Int32)), .val (.ref saT), .val (.ref as4)] [(.ref as4), (.ref saT)])) rfl (by rw [hml]; rfl) (Steps.refl _) (argsL := [(.ref as4)]) (rest := []) (lenOf pd_2 rfl) rfl (by show 2 * 0 + _ ≤ _; exact Nat.le_of_eq rfl) (hb hby at_63) (fun _ _ => ⟨rfl, e4, (by decide : 0 + 0 + 0 + 0 + 2 + 0 ≤ _), (by decide : 0 + 0 + 0 + 0 + (64 + 4) + 0 ≤ _)⟩)
      dsimp only [Pt.U, Pt.locs, Pt.cells, Pt.slots] at X6 l6 y6 z6 st6 hQ6
      subst l6 y6 z6
      obtain ⟨rfl, N6q, e6⟩ := hQ6
      have N6 := Fr.app N3 N6q
      refine Go.via (fun t k => st6.trans k) ?_
      show Go p e below _ (T6.setTop (mkF m 66 #[.val (.int p0), .val (.int p1), .val (.int (0 : Int32)), .val (.int (0 : Int32)), .val (.ref saT), .val (.ref as4)] [(.int (f3n2 saT as4 baT ab4 (own_t [46, 32]) cs))]))
      refine Go.via (T' := T6.setTop (mkF m 74 #[.val (.int p0), .val (.int p1), .val (.int (0 : Int32)), .val (.int (0 : Int32)), .val (.ref saT), .val (.ref as4)] [(.int (1 : Int32))])) (fun tZ kZ => ?_) ?_
      · show Steps p.tables e below (T6.setTop (mkF m 66 #[.val (.int p0), .val (.int p1), .val (.int (0 : Int32)), .val (.int (0 : Int32)), .val (.ref saT), .val (.ref as4)] [(.int (f3n2 saT as4 baT ab4 (own_t [46, 32]) cs))])) _
        refine XS.ifNo X6.here hx rfl (hb hby at_66) rfl ((if0 _ _).trans (feq (by rw [own_eq2]; decide)).1) ?_
        show Steps p.tables e below (T6.setTop (mkF m 69 #[.val (.int p0), .val (.int p1), .val (.int (0 : Int32)), .val (.int (0 : Int32)), .val (.ref saT), .val (.ref as4)] [])) _
        refine XS.iconst X6.here hx rfl (hb hby at_69) ?_
        show Steps p.tables e below (T6.setTop (mkF m 70 #[.val (.int p0), .val (.int p1), .val (.int (0 : Int32)), .val (.int (0 : Int32)), .val (.ref saT), .val (.ref as4)] [(.int (1 : Int32))])) _
        refine XS.goto X6.here hx rfl (pc0 := 70) (pc' := 74) rfl (hb hby at_70) (by decide) (by decide) ?_
        show Steps p.tables e below (T6.setTop (mkF m 74 #[.val (.int p0), .val (.int p1), .val (.int (0 : Int32)), .val (.int (0 : Int32)), .val (.ref saT), .val (.ref as4)] [(.int (1 : Int32))])) _
        exact kZ
      refine Go.retNW (s := s) (vm₁ := T4.vm) X6 hx hS4 (by rw [e6]; exact hk4) Bd.notSynchronized (t := .boolean) Bd.returns (by simp) (hb hby at_74) (by decide) (by decide) ?_
      exact ⟨rfl, N6⟩
    · rw [hj]
      show Go p e below _ (s₁.setTop (mkF m 8 #[.val (.int p0), .val (.int p1), .val (.int (0 : Int32)), .val (.int (1 : Int32)), .unset, .unset] []))
      refine Go.via (T' := s₁.setTop (mkF m 9 #[.val (.int p0), .val (.int p1), .val (.int (0 : Int32)), .val (.int (1 : Int32)), .unset, .unset] [(.int (0 : Int32))])) (fun tZ kZ => ?_) ?_
      · show Steps p.tables e below (s₁.setTop (mkF m 8 #[.val (.int p0), .val (.int p1), .val (.int (0 : Int32)), .val (.int (1 : Int32)), .unset, .unset] [])) _
        refine XS.iloadN X0.here hx rfl (hb hby at_8) rfl ?_
        show Steps p.tables e below (s₁.setTop (mkF m 9 #[.val (.int p0), .val (.int p1), .val (.int (0 : Int32)), .val (.int (1 : Int32)), .unset, .unset] [(.int (0 : Int32))])) _
        exact kZ
      obtain ⟨_, _, ⟨T7, L7, k7, n7⟩, -, X7, ⟨Lc7, hQ7, l7, y7, z7⟩, st7⟩ := Jvm.LawKit.callS X0 hx (y := (⟨"com/example/paratitle/paratitle/titles/HeadingElementSeparatorAfterPinLaw", "pick", "(I)Lcom/example/paratitle/paratitle/titles/HeadingElement;"⟩ : MethodName)) hown (mvT hZ (hw _ (List.mem_of_getElem? (i := 0) rfl))) (mvT hZ (hw _ (List.mem_of_getElem? (i := 1) rfl))) (mvT hZ (hw _ (List.mem_of_getElem? (i := 2) rfl))) (mvT hZ (hw _ (List.mem_of_getElem? (i := 3) rfl))) (by decide) (backOf (W := 0) (rm1 l Z a0 hw [] (0 : Int32) aT aO aN aP h0 n0 Z0 (ha0.ext ha21.2) (ha1.ext ha21.2) (ha2.ext ha21.2) (ha3.ext ha21.2)) hZ (hw _ (List.mem_of_getElem? (i := 3) rfl)) (hw _ (List.mem_of_getElem? (i := 2) rfl)) (by decide) (by decide)) (g := (mkF m 9 #[.val (.int p0), .val (.int p1), .val (.int (0 : Int32)), .val (.int (1 : Int32)), .unset, .unset] [(.int (0 : Int32))])) rfl (by rw [hml]; rfl) (argsL := [(.int (0 : Int32))]) (rest := []) (lenOf pd_0 rfl) rfl (by show 2 * 0 + _ ≤ _; exact Nat.le_of_eq rfl) (hb hby at_9) (fun _ _ => ⟨rfl, e0, (by decide : 0 + 0 ≤ _), (by decide : 0 + 0 ≤ _)⟩)
      dsimp only [Pt.U, Pt.locs, Pt.cells, Pt.slots] at X7 l7 y7 z7 st7 hQ7
      subst l7 y7 z7
      obtain ⟨rfl, N7q, e7⟩ := hQ7
      rw [show (f1 (0 : Int32) aT aO aN aP) = Value.ref aT from rfl] at st7
      have N7 := Fr.app N0 N7q
      refine Go.via st7 ?_
      show Go p e below _ (T7.setTop (mkF m 12 #[.val (.int p0), .val (.int p1), .val (.int (0 : Int32)), .val (.int (1 : Int32)), .unset, .unset] [(.ref aT)]))
      refine Go.via (T' := T7.setTop (mkF m 13 #[.val (.int p0), .val (.int p1), .val (.int (0 : Int32)), .val (.int (1 : Int32)), .unset, .unset] [(.int (1 : Int32)), (.ref aT)])) (fun tZ kZ => ?_) ?_
      · show Steps p.tables e below (T7.setTop (mkF m 12 #[.val (.int p0), .val (.int p1), .val (.int (0 : Int32)), .val (.int (1 : Int32)), .unset, .unset] [(.ref aT)])) _
        refine XS.iloadN X7.here hx rfl (hb hby at_12) rfl ?_
        show Steps p.tables e below (T7.setTop (mkF m 13 #[.val (.int p0), .val (.int p1), .val (.int (0 : Int32)), .val (.int (1 : Int32)), .unset, .unset] [(.int (1 : Int32)), (.ref aT)])) _
        exact kZ
      obtain ⟨_, _, ⟨T8, L8, k8, n8⟩, -, X8, ⟨Lc8, hQ8, l8, y8, z8⟩, st8⟩ := Jvm.LawKit.callS X7 hx (y := (⟨"com/example/paratitle/paratitle/titles/HeadingElementSeparatorAfterPinLaw", "pick", "(I)Lcom/example/paratitle/paratitle/titles/HeadingElement;"⟩ : MethodName)) hown (mvT hZ (hw _ (List.mem_of_getElem? (i := 0) rfl))) (mvT hZ (hw _ (List.mem_of_getElem? (i := 1) rfl))) (mvT hZ (hw _ (List.mem_of_getElem? (i := 2) rfl))) (mvT hZ (hw _ (List.mem_of_getElem? (i := 3) rfl))) (by decide) (backOf (W := 1) (rm1 l Z a0 hw [] (1 : Int32) aT aO aN aP h0 n0 Z0 (ha0.ext ha21.2) (ha1.ext ha21.2) (ha2.ext ha21.2) (ha3.ext ha21.2)) hZ (hw _ (List.mem_of_getElem? (i := 3) rfl)) (hw _ (List.mem_of_getElem? (i := 2) rfl)) (by decide) (by decide)) (g := (mkF m 13 #[.val (.int p0), .val (.int p1), .val (.int (0 : Int32)), .val (.int (1 : Int32)), .unset, .unset] [(.int (1 : Int32)), (.ref aT)])) rfl (by rw [hml]; rfl) (argsL := [(.int (1 : Int32))]) (rest := [(.ref aT)]) (lenOf pd_0 rfl) rfl (by show 2 * 0 + _ ≤ _; exact Nat.le_of_eq rfl) (hb hby at_13) (fun _ _ => ⟨rfl, e7, (by decide : 0 + 0 + 0 ≤ _), (by decide : 0 + 0 + 0 ≤ _)⟩)
      dsimp only [Pt.U, Pt.locs, Pt.cells, Pt.slots] at X8 l8 y8 z8 st8 hQ8
      subst l8 y8 z8
      obtain ⟨rfl, N8q, e8⟩ := hQ8
      rw [show (f1 (1 : Int32) aT aO aN aP) = Value.ref aO from rfl] at st8
      have N8 := Fr.app N7 N8q
      refine Go.via st8 ?_
      show Go p e below _ (T8.setTop (mkF m 16 #[.val (.int p0), .val (.int p1), .val (.int (0 : Int32)), .val (.int (1 : Int32)), .unset, .unset] [(.ref aO), (.ref aT)]))
      obtain ⟨cq9, kq9, q9a, q9b, q9c⟩ := isOf hZ e8 ha4
      obtain ⟨_, _, ⟨T9, L9, k9, n9⟩, -, X9, ⟨Lc9, hQ9, l9, y9, z9⟩, st9⟩ := X8.virtualBack hx (y := (⟨"com/example/paratitle/paratitle/titles/HeadingElement", "separatorAfter", "(Lcom/example/paratitle/paratitle/titles/HeadingElement;)Ljava/lang/String;"⟩ : MethodName)) (z := (⟨"com/example/paratitle/paratitle/titles/HeadingElement", "separatorAfter", "(Lcom/example/paratitle/paratitle/titles/HeadingElement;)Ljava/lang/String;"⟩ : MethodName)) hown (mvT hZ (hw _ (List.mem_of_getElem? (i := 9) rfl))) (mvT hZ (hw _ (List.mem_of_getElem? (i := 10) rfl))) (notFace_of_selects (args := #[]) (mvT hZ (hw _ (List.mem_of_getElem? (i := 12) rfl)))) (mvT hZ (hw _ (List.mem_of_getElem? (i := 12) rfl))) (mvT hZ (hw _ (List.mem_of_getElem? (i := 11) rfl))) (by decide) (backOf (W := 0) (rm2i l Z a0 hw [] aT aO aP aN saT h0 n0 Z0 (ha3.ext ha21.2) (ha2.ext ha21.2) ha8 hne_aT_aP) hZ (hw _ (List.mem_of_getElem? (i := 13) rfl)) (hw _ (List.mem_of_getElem? (i := 5) rfl)) (by decide) (by decide)) q9a q9c (g := (mkF m 16 #[.val (.int p0), .val (.int p1), .val (.int (0 : Int32)), .val (.int (1 : Int32)), .unset, .unset] [(.ref aO), (.ref aT)])) rfl (by rw [hml]; rfl) (Steps.refl _) (argsL := [(.ref aO)]) (rest := []) (lenOf pd_1 rfl) rfl (by show 2 * 0 + _ ≤ _; exact Nat.le_of_eq rfl) (hb hby at_16) (fun _ _ => ⟨rfl, e8, (by decide : 0 + 0 + 0 + 0 ≤ _), (by decide : 0 + 0 + 0 + 0 ≤ _)⟩)
      dsimp only [Pt.U, Pt.locs, Pt.cells, Pt.slots] at X9 l9 y9 z9 st9 hQ9
      subst l9 y9 z9
      obtain ⟨rfl, N9q, e9⟩ := hQ9
      have N9 := Fr.app N8 N9q
      refine Go.via (fun t k => st9.trans k) ?_
      show Go p e below _ (T9.setTop (mkF m 19 #[.val (.int p0), .val (.int p1), .val (.int (0 : Int32)), .val (.int (1 : Int32)), .unset, .unset] [(.ref saT)]))
      refine Go.via (T' := T9.setTop (mkF m 50 #[.val (.int p0), .val (.int p1), .val (.int (0 : Int32)), .val (.int (1 : Int32)), .val (.ref saT), .unset] [])) (fun tZ kZ => ?_) ?_
      · show Steps p.tables e below (T9.setTop (mkF m 19 #[.val (.int p0), .val (.int p1), .val (.int (0 : Int32)), .val (.int (1 : Int32)), .unset, .unset] [(.ref saT)])) _
        refine XS.astore X9.here hx rfl (hb hby at_19) rfl rfl (l' := #[.val (.int p0), .val (.int p1), .val (.int (0 : Int32)), .val (.int (1 : Int32)), .val (.ref saT), .unset]) rfl ?_
        show Steps p.tables e below (T9.setTop (mkF m 21 #[.val (.int p0), .val (.int p1), .val (.int (0 : Int32)), .val (.int (1 : Int32)), .val (.ref saT), .unset] [])) _
        refine XS.iloadN X9.here hx rfl (hb hby at_21) rfl ?_
        show Steps p.tables e below (T9.setTop (mkF m 22 #[.val (.int p0), .val (.int p1), .val (.int (0 : Int32)), .val (.int (1 : Int32)), .val (.ref saT), .unset] [(.int (0 : Int32))])) _
        refine XS.iconst X9.here hx rfl (hb hby at_22) ?_
        show Steps p.tables e below (T9.setTop (mkF m 23 #[.val (.int p0), .val (.int p1), .val (.int (0 : Int32)), .val (.int (1 : Int32)), .val (.ref saT), .unset] [(.int (1 : Int32)), (.int (0 : Int32))])) _
        refine XS.icmpYes X9.here hx rfl (pc0 := 23) (pc' := 33) rfl (hb hby at_23) rfl (feq (by decide)).2 (by decide) (by decide) ?_
        show Steps p.tables e below (T9.setTop (mkF m 33 #[.val (.int p0), .val (.int p1), .val (.int (0 : Int32)), .val (.int (1 : Int32)), .val (.ref saT), .unset] [])) _
        refine XS.iloadN X9.here hx rfl (hb hby at_33) rfl ?_
        show Steps p.tables e below (T9.setTop (mkF m 34 #[.val (.int p0), .val (.int p1), .val (.int (0 : Int32)), .val (.int (1 : Int32)), .val (.ref saT), .unset] [(.int (0 : Int32))])) _
        refine XS.iconst X9.here hx rfl (hb hby at_34) ?_
        show Steps p.tables e below (T9.setTop (mkF m 35 #[.val (.int p0), .val (.int p1), .val (.int (0 : Int32)), .val (.int (1 : Int32)), .val (.ref saT), .unset] [(.int (3 : Int32)), (.int (0 : Int32))])) _
        refine XS.icmpYes X9.here hx rfl (pc0 := 35) (pc' := 50) rfl (hb hby at_35) rfl (feq (by decide)).2 (by decide) (by decide) ?_
        show Steps p.tables e below (T9.setTop (mkF m 50 #[.val (.int p0), .val (.int p1), .val (.int (0 : Int32)), .val (.int (1 : Int32)), .val (.ref saT), .unset] [])) _
        exact kZ
      obtain ⟨as10, T10, h10, kk10, ab10, kc10, X10, e10, E10, hS10, hk10, hZ, hown, Ea10, Fc10, Fv10, Ar10, -, -, CR10, -, -, st10⟩ := ldcCH (s := s) (vm0 := s.vm) (EL := own_EL) X9 hx hZ hown (hw _ (List.mem_of_getElem? (i := 17) rfl)) wS e9 hS0 (Nat.zero_le _) (own_EW hw) (by simp [own_EL]) hCH (vs := [46, 32].map Value.int) (z := 2) ⟨by decide, by decide +kernel⟩ (by decide) rfl (g := (mkF m 50 #[.val (.int p0), .val (.int p1), .val (.int (0 : Int32)), .val (.int (1 : Int32)), .val (.ref saT), .unset] [])) rfl (hb hby at_50) (n := 64) (by decide) (by decide) (by decide) (by decide)
      have c11_21 := ha21.ext E10
      have c11_0 := ha0.ext c11_21.2
      have c11_1 := ha1.ext c11_21.2
      have c11_2 := ha2.ext c11_21.2
      have c11_3 := ha3.ext c11_21.2
      have c11_4 := ha4.ext E10
      have c11_5 := ha5.ext E10
      have c11_6 := ha6.ext E10
      have c11_7 := ha7.ext E10
      have c11_8 := ha8.ext E10
      have c11_9 := ha9.ext E10
      have c11_10 := ha10.ext E10
      have c11_11 := ha11.ext E10
      have c11_12 := ha12.ext E10
      have c11_13 := ha13.ext E10
      have c11_14 := ha14.ext E10
      have c11_15 := ha15.ext E10
      have c11_16 := ha16.ext E10
      have c11_17 := ha17.ext E10
      have c11_18 := ha18.ext E10
      have c11_19 := ha19.ext E10
      have c11_20 := ha20.ext c11_21.2
      have Va10 := AV.ofArv Ar10 (n := 2) rfl (by decide)
      have K10 : Keep h0 h10 [] := (Keep.refl h0 []).ext E10
      have Z10 : n0 ≤ h10.size := Nat.le_trans Z0 E10.1
      refine Go.via st10 ?_
      show Go p e below _ (T10.setTop (mkF m 52 #[.val (.int p0), .val (.int p1), .val (.int (0 : Int32)), .val (.int (1 : Int32)), .val (.ref saT), .unset] [(.ref as10)]))
      refine Go.via (T' := T10.setTop (mkF m 63 #[.val (.int p0), .val (.int p1), .val (.int (0 : Int32)), .val (.int (1 : Int32)), .val (.ref saT), .val (.ref as10)] [(.ref as10), (.ref saT)])) (fun tZ kZ => ?_) ?_
      · show Steps p.tables e below (T10.setTop (mkF m 52 #[.val (.int p0), .val (.int p1), .val (.int (0 : Int32)), .val (.int (1 : Int32)), .val (.ref saT), .unset] [(.ref as10)])) _
        refine XS.astore X10.here hx rfl (hb hby at_52) rfl rfl (l' := #[.val (.int p0), .val (.int p1), .val (.int (0 : Int32)), .val (.int (1 : Int32)), .val (.ref saT), .val (.ref as10)]) rfl ?_
        show Steps p.tables e below (T10.setTop (mkF m 54 #[.val (.int p0), .val (.int p1), .val (.int (0 : Int32)), .val (.int (1 : Int32)), .val (.ref saT), .val (.ref as10)] [])) _
        refine XS.aload X10.here hx rfl (hb hby at_54) rfl rfl ?_
        show Steps p.tables e below (T10.setTop (mkF m 56 #[.val (.int p0), .val (.int p1), .val (.int (0 : Int32)), .val (.int (1 : Int32)), .val (.ref saT), .val (.ref as10)] [(.ref saT)])) _
        refine XS.ifnullNo X10.here hx rfl (hb hby at_56) rfl ?_
        show Steps p.tables e below (T10.setTop (mkF m 59 #[.val (.int p0), .val (.int p1), .val (.int (0 : Int32)), .val (.int (1 : Int32)), .val (.ref saT), .val (.ref as10)] [])) _
        refine XS.aload X10.here hx rfl (hb hby at_59) rfl rfl ?_
        show Steps p.tables e below (T10.setTop (mkF m 61 #[.val (.int p0), .val (.int p1), .val (.int (0 : Int32)), .val (.int (1 : Int32)), .val (.ref saT), .val (.ref as10)] [(.ref saT)])) _
        refine XS.aload X10.here hx rfl (hb hby at_61) rfl rfl ?_
        show Steps p.tables e below (T10.setTop (mkF m 63 #[.val (.int p0), .val (.int p1), .val (.int (0 : Int32)), .val (.int (1 : Int32)), .val (.ref saT), .val (.ref as10)] [(.ref as10), (.ref saT)])) _
        exact kZ
      obtain ⟨cq12, kq12, q12a, q12b, q12c⟩ := isOf hZ e10 c11_12
      obtain ⟨_, _, ⟨T12, L12, k12, n12⟩, -, X12, ⟨Lc12, hQ12, l12, y12, z12⟩, st12⟩ := X10.virtualBack hx (y := (⟨"java/lang/String", "equals", "(Ljava/lang/Object;)Z"⟩ : MethodName)) (z := (⟨"java/lang/String", "equals", "(Ljava/lang/Object;)Z"⟩ : MethodName)) hown (mvT hZ (hw _ (List.mem_of_getElem? (i := 25) rfl))) (mvT hZ (hw _ (List.mem_of_getElem? (i := 26) rfl))) (notFace_of_selects (args := #[]) (mvT hZ (hw _ (List.mem_of_getElem? (i := 28) rfl)))) (mvT hZ (hw _ (List.mem_of_getElem? (i := 28) rfl))) (mvT hZ (hw _ (List.mem_of_getElem? (i := 27) rfl))) (by decide) (backOf (W := 0) (rm3n2 l Z a0 hw [] saT as10 baT ab10 (own_t [46, 32]) cs h10 n0 Z10 Ea10 c11_13 Fc10 c11_14 Fv10 c11_15 Va10 c11_20 hcs) hZ (hw _ (List.mem_of_getElem? (i := 29) rfl)) (hw _ (List.mem_of_getElem? (i := 18) rfl)) (by decide) (by decide)) q12a q12c (g := (mkF m 63 #[.val (.int p0), .val (.int p1), .val (.int (0 : Int32)), .val (.int (1 : Int32)), .val (.ref saT), .val (.ref as10)] [(.ref as10), (.ref saT)])) rfl (by rw [hml]; rfl) (Steps.refl _) (argsL := [(.ref as10)]) (rest := []) (lenOf pd_2 rfl) rfl (by show 2 * 0 + _ ≤ _; exact Nat.le_of_eq rfl) (hb hby at_63) (fun _ _ => ⟨rfl, e10, (by decide : 0 + 0 + 0 + 0 + 2 + 0 ≤ _), (by decide : 0 + 0 + 0 + 0 + (64 + 4) + 0 ≤ _)⟩)
      dsimp only [Pt.U, Pt.locs, Pt.cells, Pt.slots] at X12 l12 y12 z12 st12 hQ12
      subst l12 y12 z12
      obtain ⟨rfl, N12q, e12⟩ := hQ12
      have N12 := Fr.app N9 N12q
      refine Go.via (fun t k => st12.trans k) ?_
      show Go p e below _ (T12.setTop (mkF m 66 #[.val (.int p0), .val (.int p1), .val (.int (0 : Int32)), .val (.int (1 : Int32)), .val (.ref saT), .val (.ref as10)] [(.int (f3n2 saT as10 baT ab10 (own_t [46, 32]) cs))]))
      refine Go.via (T' := T12.setTop (mkF m 74 #[.val (.int p0), .val (.int p1), .val (.int (0 : Int32)), .val (.int (1 : Int32)), .val (.ref saT), .val (.ref as10)] [(.int (1 : Int32))])) (fun tZ kZ => ?_) ?_
      · show Steps p.tables e below (T12.setTop (mkF m 66 #[.val (.int p0), .val (.int p1), .val (.int (0 : Int32)), .val (.int (1 : Int32)), .val (.ref saT), .val (.ref as10)] [(.int (f3n2 saT as10 baT ab10 (own_t [46, 32]) cs))])) _
        refine XS.ifNo X12.here hx rfl (hb hby at_66) rfl ((if0 _ _).trans (feq (by rw [own_eq2]; decide)).1) ?_
        show Steps p.tables e below (T12.setTop (mkF m 69 #[.val (.int p0), .val (.int p1), .val (.int (0 : Int32)), .val (.int (1 : Int32)), .val (.ref saT), .val (.ref as10)] [])) _
        refine XS.iconst X12.here hx rfl (hb hby at_69) ?_
        show Steps p.tables e below (T12.setTop (mkF m 70 #[.val (.int p0), .val (.int p1), .val (.int (0 : Int32)), .val (.int (1 : Int32)), .val (.ref saT), .val (.ref as10)] [(.int (1 : Int32))])) _
        refine XS.goto X12.here hx rfl (pc0 := 70) (pc' := 74) rfl (hb hby at_70) (by decide) (by decide) ?_
        show Steps p.tables e below (T12.setTop (mkF m 74 #[.val (.int p0), .val (.int p1), .val (.int (0 : Int32)), .val (.int (1 : Int32)), .val (.ref saT), .val (.ref as10)] [(.int (1 : Int32))])) _
        exact kZ
      refine Go.retNW (s := s) (vm₁ := T10.vm) X12 hx hS10 (by rw [e12]; exact hk10) Bd.notSynchronized (t := .boolean) Bd.returns (by simp) (hb hby at_74) (by decide) (by decide) ?_
      exact ⟨rfl, N12⟩
    · rw [hj]
      show Go p e below _ (s₁.setTop (mkF m 8 #[.val (.int p0), .val (.int p1), .val (.int (0 : Int32)), .val (.int (2 : Int32)), .unset, .unset] []))
      refine Go.via (T' := s₁.setTop (mkF m 9 #[.val (.int p0), .val (.int p1), .val (.int (0 : Int32)), .val (.int (2 : Int32)), .unset, .unset] [(.int (0 : Int32))])) (fun tZ kZ => ?_) ?_
      · show Steps p.tables e below (s₁.setTop (mkF m 8 #[.val (.int p0), .val (.int p1), .val (.int (0 : Int32)), .val (.int (2 : Int32)), .unset, .unset] [])) _
        refine XS.iloadN X0.here hx rfl (hb hby at_8) rfl ?_
        show Steps p.tables e below (s₁.setTop (mkF m 9 #[.val (.int p0), .val (.int p1), .val (.int (0 : Int32)), .val (.int (2 : Int32)), .unset, .unset] [(.int (0 : Int32))])) _
        exact kZ
      obtain ⟨_, _, ⟨T13, L13, k13, n13⟩, -, X13, ⟨Lc13, hQ13, l13, y13, z13⟩, st13⟩ := Jvm.LawKit.callS X0 hx (y := (⟨"com/example/paratitle/paratitle/titles/HeadingElementSeparatorAfterPinLaw", "pick", "(I)Lcom/example/paratitle/paratitle/titles/HeadingElement;"⟩ : MethodName)) hown (mvT hZ (hw _ (List.mem_of_getElem? (i := 0) rfl))) (mvT hZ (hw _ (List.mem_of_getElem? (i := 1) rfl))) (mvT hZ (hw _ (List.mem_of_getElem? (i := 2) rfl))) (mvT hZ (hw _ (List.mem_of_getElem? (i := 3) rfl))) (by decide) (backOf (W := 0) (rm1 l Z a0 hw [] (0 : Int32) aT aO aN aP h0 n0 Z0 (ha0.ext ha21.2) (ha1.ext ha21.2) (ha2.ext ha21.2) (ha3.ext ha21.2)) hZ (hw _ (List.mem_of_getElem? (i := 3) rfl)) (hw _ (List.mem_of_getElem? (i := 2) rfl)) (by decide) (by decide)) (g := (mkF m 9 #[.val (.int p0), .val (.int p1), .val (.int (0 : Int32)), .val (.int (2 : Int32)), .unset, .unset] [(.int (0 : Int32))])) rfl (by rw [hml]; rfl) (argsL := [(.int (0 : Int32))]) (rest := []) (lenOf pd_0 rfl) rfl (by show 2 * 0 + _ ≤ _; exact Nat.le_of_eq rfl) (hb hby at_9) (fun _ _ => ⟨rfl, e0, (by decide : 0 + 0 ≤ _), (by decide : 0 + 0 ≤ _)⟩)
      dsimp only [Pt.U, Pt.locs, Pt.cells, Pt.slots] at X13 l13 y13 z13 st13 hQ13
      subst l13 y13 z13
      obtain ⟨rfl, N13q, e13⟩ := hQ13
      rw [show (f1 (0 : Int32) aT aO aN aP) = Value.ref aT from rfl] at st13
      have N13 := Fr.app N0 N13q
      refine Go.via st13 ?_
      show Go p e below _ (T13.setTop (mkF m 12 #[.val (.int p0), .val (.int p1), .val (.int (0 : Int32)), .val (.int (2 : Int32)), .unset, .unset] [(.ref aT)]))
      refine Go.via (T' := T13.setTop (mkF m 13 #[.val (.int p0), .val (.int p1), .val (.int (0 : Int32)), .val (.int (2 : Int32)), .unset, .unset] [(.int (2 : Int32)), (.ref aT)])) (fun tZ kZ => ?_) ?_
      · show Steps p.tables e below (T13.setTop (mkF m 12 #[.val (.int p0), .val (.int p1), .val (.int (0 : Int32)), .val (.int (2 : Int32)), .unset, .unset] [(.ref aT)])) _
        refine XS.iloadN X13.here hx rfl (hb hby at_12) rfl ?_
        show Steps p.tables e below (T13.setTop (mkF m 13 #[.val (.int p0), .val (.int p1), .val (.int (0 : Int32)), .val (.int (2 : Int32)), .unset, .unset] [(.int (2 : Int32)), (.ref aT)])) _
        exact kZ
      obtain ⟨_, _, ⟨T14, L14, k14, n14⟩, -, X14, ⟨Lc14, hQ14, l14, y14, z14⟩, st14⟩ := Jvm.LawKit.callS X13 hx (y := (⟨"com/example/paratitle/paratitle/titles/HeadingElementSeparatorAfterPinLaw", "pick", "(I)Lcom/example/paratitle/paratitle/titles/HeadingElement;"⟩ : MethodName)) hown (mvT hZ (hw _ (List.mem_of_getElem? (i := 0) rfl))) (mvT hZ (hw _ (List.mem_of_getElem? (i := 1) rfl))) (mvT hZ (hw _ (List.mem_of_getElem? (i := 2) rfl))) (mvT hZ (hw _ (List.mem_of_getElem? (i := 3) rfl))) (by decide) (backOf (W := 1) (rm1 l Z a0 hw [] (2 : Int32) aT aO aN aP h0 n0 Z0 (ha0.ext ha21.2) (ha1.ext ha21.2) (ha2.ext ha21.2) (ha3.ext ha21.2)) hZ (hw _ (List.mem_of_getElem? (i := 3) rfl)) (hw _ (List.mem_of_getElem? (i := 2) rfl)) (by decide) (by decide)) (g := (mkF m 13 #[.val (.int p0), .val (.int p1), .val (.int (0 : Int32)), .val (.int (2 : Int32)), .unset, .unset] [(.int (2 : Int32)), (.ref aT)])) rfl (by rw [hml]; rfl) (argsL := [(.int (2 : Int32))]) (rest := [(.ref aT)]) (lenOf pd_0 rfl) rfl (by show 2 * 0 + _ ≤ _; exact Nat.le_of_eq rfl) (hb hby at_13) (fun _ _ => ⟨rfl, e13, (by decide : 0 + 0 + 0 ≤ _), (by decide : 0 + 0 + 0 ≤ _)⟩)
      dsimp only [Pt.U, Pt.locs, Pt.cells, Pt.slots] at X14 l14 y14 z14 st14 hQ14
      subst l14 y14 z14
      obtain ⟨rfl, N14q, e14⟩ := hQ14
      rw [show (f1 (2 : Int32) aT aO aN aP) = Value.ref aN from rfl] at st14
      have N14 := Fr.app N13 N14q
      refine Go.via st14 ?_
      show Go p e below _ (T14.setTop (mkF m 16 #[.val (.int p0), .val (.int p1), .val (.int (0 : Int32)), .val (.int (2 : Int32)), .unset, .unset] [(.ref aN), (.ref aT)]))
      obtain ⟨cq15, kq15, q15a, q15b, q15c⟩ := isOf hZ e14 ha4
      obtain ⟨_, _, ⟨T15, L15, k15, n15⟩, -, X15, ⟨Lc15, hQ15, l15, y15, z15⟩, st15⟩ := X14.virtualBack hx (y := (⟨"com/example/paratitle/paratitle/titles/HeadingElement", "separatorAfter", "(Lcom/example/paratitle/paratitle/titles/HeadingElement;)Ljava/lang/String;"⟩ : MethodName)) (z := (⟨"com/example/paratitle/paratitle/titles/HeadingElement", "separatorAfter", "(Lcom/example/paratitle/paratitle/titles/HeadingElement;)Ljava/lang/String;"⟩ : MethodName)) hown (mvT hZ (hw _ (List.mem_of_getElem? (i := 9) rfl))) (mvT hZ (hw _ (List.mem_of_getElem? (i := 10) rfl))) (notFace_of_selects (args := #[]) (mvT hZ (hw _ (List.mem_of_getElem? (i := 12) rfl)))) (mvT hZ (hw _ (List.mem_of_getElem? (i := 12) rfl))) (mvT hZ (hw _ (List.mem_of_getElem? (i := 11) rfl))) (by decide) (backOf (W := 0) (rm2i l Z a0 hw [] aT aN aP aN saT h0 n0 Z0 (ha3.ext ha21.2) (ha2.ext ha21.2) ha8 hne_aT_aP) hZ (hw _ (List.mem_of_getElem? (i := 13) rfl)) (hw _ (List.mem_of_getElem? (i := 5) rfl)) (by decide) (by decide)) q15a q15c (g := (mkF m 16 #[.val (.int p0), .val (.int p1), .val (.int (0 : Int32)), .val (.int (2 : Int32)), .unset, .unset] [(.ref aN), (.ref aT)])) rfl (by rw [hml]; rfl) (Steps.refl _) (argsL := [(.ref aN)]) (rest := []) (lenOf pd_1 rfl) rfl (by show 2 * 0 + _ ≤ _; exact Nat.le_of_eq rfl) (hb hby at_16) (fun _ _ => ⟨rfl, e14, (by decide : 0 + 0 + 0 + 0 ≤ _), (by decide : 0 + 0 + 0 + 0 ≤ _)⟩)
      dsimp only [Pt.U, Pt.locs, Pt.cells, Pt.slots] at X15 l15 y15 z15 st15 hQ15
      subst l15 y15 z15
      obtain ⟨rfl, N15q, e15⟩ := hQ15
      have N15 := Fr.app N14 N15q
      refine Go.via (fun t k => st15.trans k) ?_
      show Go p e below _ (T15.setTop (mkF m 19 #[.val (.int p0), .val (.int p1), .val (.int (0 : Int32)), .val (.int (2 : Int32)), .unset, .unset] [(.ref saT)]))
      refine Go.via (T' := T15.setTop (mkF m 50 #[.val (.int p0), .val (.int p1), .val (.int (0 : Int32)), .val (.int (2 : Int32)), .val (.ref saT), .unset] [])) (fun tZ kZ => ?_) ?_
      · show Steps p.tables e below (T15.setTop (mkF m 19 #[.val (.int p0), .val (.int p1), .val (.int (0 : Int32)), .val (.int (2 : Int32)), .unset, .unset] [(.ref saT)])) _
        refine XS.astore X15.here hx rfl (hb hby at_19) rfl rfl (l' := #[.val (.int p0), .val (.int p1), .val (.int (0 : Int32)), .val (.int (2 : Int32)), .val (.ref saT), .unset]) rfl ?_
        show Steps p.tables e below (T15.setTop (mkF m 21 #[.val (.int p0), .val (.int p1), .val (.int (0 : Int32)), .val (.int (2 : Int32)), .val (.ref saT), .unset] [])) _
        refine XS.iloadN X15.here hx rfl (hb hby at_21) rfl ?_
        show Steps p.tables e below (T15.setTop (mkF m 22 #[.val (.int p0), .val (.int p1), .val (.int (0 : Int32)), .val (.int (2 : Int32)), .val (.ref saT), .unset] [(.int (0 : Int32))])) _
        refine XS.iconst X15.here hx rfl (hb hby at_22) ?_
        show Steps p.tables e below (T15.setTop (mkF m 23 #[.val (.int p0), .val (.int p1), .val (.int (0 : Int32)), .val (.int (2 : Int32)), .val (.ref saT), .unset] [(.int (1 : Int32)), (.int (0 : Int32))])) _
        refine XS.icmpYes X15.here hx rfl (pc0 := 23) (pc' := 33) rfl (hb hby at_23) rfl (feq (by decide)).2 (by decide) (by decide) ?_
        show Steps p.tables e below (T15.setTop (mkF m 33 #[.val (.int p0), .val (.int p1), .val (.int (0 : Int32)), .val (.int (2 : Int32)), .val (.ref saT), .unset] [])) _
        refine XS.iloadN X15.here hx rfl (hb hby at_33) rfl ?_
        show Steps p.tables e below (T15.setTop (mkF m 34 #[.val (.int p0), .val (.int p1), .val (.int (0 : Int32)), .val (.int (2 : Int32)), .val (.ref saT), .unset] [(.int (0 : Int32))])) _
        refine XS.iconst X15.here hx rfl (hb hby at_34) ?_
        show Steps p.tables e below (T15.setTop (mkF m 35 #[.val (.int p0), .val (.int p1), .val (.int (0 : Int32)), .val (.int (2 : Int32)), .val (.ref saT), .unset] [(.int (3 : Int32)), (.int (0 : Int32))])) _
        refine XS.icmpYes X15.here hx rfl (pc0 := 35) (pc' := 50) rfl (hb hby at_35) rfl (feq (by decide)).2 (by decide) (by decide) ?_
        show Steps p.tables e below (T15.setTop (mkF m 50 #[.val (.int p0), .val (.int p1), .val (.int (0 : Int32)), .val (.int (2 : Int32)), .val (.ref saT), .unset] [])) _
        exact kZ
      obtain ⟨as16, T16, h16, kk16, ab16, kc16, X16, e16, E16, hS16, hk16, hZ, hown, Ea16, Fc16, Fv16, Ar16, -, -, CR16, -, -, st16⟩ := ldcCH (s := s) (vm0 := s.vm) (EL := own_EL) X15 hx hZ hown (hw _ (List.mem_of_getElem? (i := 17) rfl)) wS e15 hS0 (Nat.zero_le _) (own_EW hw) (by simp [own_EL]) hCH (vs := [46, 32].map Value.int) (z := 2) ⟨by decide, by decide +kernel⟩ (by decide) rfl (g := (mkF m 50 #[.val (.int p0), .val (.int p1), .val (.int (0 : Int32)), .val (.int (2 : Int32)), .val (.ref saT), .unset] [])) rfl (hb hby at_50) (n := 64) (by decide) (by decide) (by decide) (by decide)
      have c17_21 := ha21.ext E16
      have c17_0 := ha0.ext c17_21.2
      have c17_1 := ha1.ext c17_21.2
      have c17_2 := ha2.ext c17_21.2
      have c17_3 := ha3.ext c17_21.2
      have c17_4 := ha4.ext E16
      have c17_5 := ha5.ext E16
      have c17_6 := ha6.ext E16
      have c17_7 := ha7.ext E16
      have c17_8 := ha8.ext E16
      have c17_9 := ha9.ext E16
      have c17_10 := ha10.ext E16
      have c17_11 := ha11.ext E16
      have c17_12 := ha12.ext E16
      have c17_13 := ha13.ext E16
      have c17_14 := ha14.ext E16
      have c17_15 := ha15.ext E16
      have c17_16 := ha16.ext E16
      have c17_17 := ha17.ext E16
      have c17_18 := ha18.ext E16
      have c17_19 := ha19.ext E16
      have c17_20 := ha20.ext c17_21.2
      have Va16 := AV.ofArv Ar16 (n := 2) rfl (by decide)
      have K16 : Keep h0 h16 [] := (Keep.refl h0 []).ext E16
      have Z16 : n0 ≤ h16.size := Nat.le_trans Z0 E16.1
      refine Go.via st16 ?_
      show Go p e below _ (T16.setTop (mkF m 52 #[.val (.int p0), .val (.int p1), .val (.int (0 : Int32)), .val (.int (2 : Int32)), .val (.ref saT), .unset] [(.ref as16)]))
      refine Go.via (T' := T16.setTop (mkF m 63 #[.val (.int p0), .val (.int p1), .val (.int (0 : Int32)), .val (.int (2 : Int32)), .val (.ref saT), .val (.ref as16)] [(.ref as16), (.ref saT)])) (fun tZ kZ => ?_) ?_
      · show Steps p.tables e below (T16.setTop (mkF m 52 #[.val (.int p0), .val (.int p1), .val (.int (0 : Int32)), .val (.int (2 : Int32)), .val (.ref saT), .unset] [(.ref as16)])) _
        refine XS.astore X16.here hx rfl (hb hby at_52) rfl rfl (l' := #[.val (.int p0), .val (.int p1), .val (.int (0 : Int32)), .val (.int (2 : Int32)), .val (.ref saT), .val (.ref as16)]) rfl ?_
        show Steps p.tables e below (T16.setTop (mkF m 54 #[.val (.int p0), .val (.int p1), .val (.int (0 : Int32)), .val (.int (2 : Int32)), .val (.ref saT), .val (.ref as16)] [])) _
        refine XS.aload X16.here hx rfl (hb hby at_54) rfl rfl ?_
        show Steps p.tables e below (T16.setTop (mkF m 56 #[.val (.int p0), .val (.int p1), .val (.int (0 : Int32)), .val (.int (2 : Int32)), .val (.ref saT), .val (.ref as16)] [(.ref saT)])) _
        refine XS.ifnullNo X16.here hx rfl (hb hby at_56) rfl ?_
        show Steps p.tables e below (T16.setTop (mkF m 59 #[.val (.int p0), .val (.int p1), .val (.int (0 : Int32)), .val (.int (2 : Int32)), .val (.ref saT), .val (.ref as16)] [])) _
        refine XS.aload X16.here hx rfl (hb hby at_59) rfl rfl ?_
        show Steps p.tables e below (T16.setTop (mkF m 61 #[.val (.int p0), .val (.int p1), .val (.int (0 : Int32)), .val (.int (2 : Int32)), .val (.ref saT), .val (.ref as16)] [(.ref saT)])) _
        refine XS.aload X16.here hx rfl (hb hby at_61) rfl rfl ?_
        show Steps p.tables e below (T16.setTop (mkF m 63 #[.val (.int p0), .val (.int p1), .val (.int (0 : Int32)), .val (.int (2 : Int32)), .val (.ref saT), .val (.ref as16)] [(.ref as16), (.ref saT)])) _
        exact kZ
      obtain ⟨cq18, kq18, q18a, q18b, q18c⟩ := isOf hZ e16 c17_12
      obtain ⟨_, _, ⟨T18, L18, k18, n18⟩, -, X18, ⟨Lc18, hQ18, l18, y18, z18⟩, st18⟩ := X16.virtualBack hx (y := (⟨"java/lang/String", "equals", "(Ljava/lang/Object;)Z"⟩ : MethodName)) (z := (⟨"java/lang/String", "equals", "(Ljava/lang/Object;)Z"⟩ : MethodName)) hown (mvT hZ (hw _ (List.mem_of_getElem? (i := 25) rfl))) (mvT hZ (hw _ (List.mem_of_getElem? (i := 26) rfl))) (notFace_of_selects (args := #[]) (mvT hZ (hw _ (List.mem_of_getElem? (i := 28) rfl)))) (mvT hZ (hw _ (List.mem_of_getElem? (i := 28) rfl))) (mvT hZ (hw _ (List.mem_of_getElem? (i := 27) rfl))) (by decide) (backOf (W := 0) (rm3n2 l Z a0 hw [] saT as16 baT ab16 (own_t [46, 32]) cs h16 n0 Z16 Ea16 c17_13 Fc16 c17_14 Fv16 c17_15 Va16 c17_20 hcs) hZ (hw _ (List.mem_of_getElem? (i := 29) rfl)) (hw _ (List.mem_of_getElem? (i := 18) rfl)) (by decide) (by decide)) q18a q18c (g := (mkF m 63 #[.val (.int p0), .val (.int p1), .val (.int (0 : Int32)), .val (.int (2 : Int32)), .val (.ref saT), .val (.ref as16)] [(.ref as16), (.ref saT)])) rfl (by rw [hml]; rfl) (Steps.refl _) (argsL := [(.ref as16)]) (rest := []) (lenOf pd_2 rfl) rfl (by show 2 * 0 + _ ≤ _; exact Nat.le_of_eq rfl) (hb hby at_63) (fun _ _ => ⟨rfl, e16, (by decide : 0 + 0 + 0 + 0 + 2 + 0 ≤ _), (by decide : 0 + 0 + 0 + 0 + (64 + 4) + 0 ≤ _)⟩)
      dsimp only [Pt.U, Pt.locs, Pt.cells, Pt.slots] at X18 l18 y18 z18 st18 hQ18
      subst l18 y18 z18
      obtain ⟨rfl, N18q, e18⟩ := hQ18
      have N18 := Fr.app N15 N18q
      refine Go.via (fun t k => st18.trans k) ?_
      show Go p e below _ (T18.setTop (mkF m 66 #[.val (.int p0), .val (.int p1), .val (.int (0 : Int32)), .val (.int (2 : Int32)), .val (.ref saT), .val (.ref as16)] [(.int (f3n2 saT as16 baT ab16 (own_t [46, 32]) cs))]))
      refine Go.via (T' := T18.setTop (mkF m 74 #[.val (.int p0), .val (.int p1), .val (.int (0 : Int32)), .val (.int (2 : Int32)), .val (.ref saT), .val (.ref as16)] [(.int (1 : Int32))])) (fun tZ kZ => ?_) ?_
      · show Steps p.tables e below (T18.setTop (mkF m 66 #[.val (.int p0), .val (.int p1), .val (.int (0 : Int32)), .val (.int (2 : Int32)), .val (.ref saT), .val (.ref as16)] [(.int (f3n2 saT as16 baT ab16 (own_t [46, 32]) cs))])) _
        refine XS.ifNo X18.here hx rfl (hb hby at_66) rfl ((if0 _ _).trans (feq (by rw [own_eq2]; decide)).1) ?_
        show Steps p.tables e below (T18.setTop (mkF m 69 #[.val (.int p0), .val (.int p1), .val (.int (0 : Int32)), .val (.int (2 : Int32)), .val (.ref saT), .val (.ref as16)] [])) _
        refine XS.iconst X18.here hx rfl (hb hby at_69) ?_
        show Steps p.tables e below (T18.setTop (mkF m 70 #[.val (.int p0), .val (.int p1), .val (.int (0 : Int32)), .val (.int (2 : Int32)), .val (.ref saT), .val (.ref as16)] [(.int (1 : Int32))])) _
        refine XS.goto X18.here hx rfl (pc0 := 70) (pc' := 74) rfl (hb hby at_70) (by decide) (by decide) ?_
        show Steps p.tables e below (T18.setTop (mkF m 74 #[.val (.int p0), .val (.int p1), .val (.int (0 : Int32)), .val (.int (2 : Int32)), .val (.ref saT), .val (.ref as16)] [(.int (1 : Int32))])) _
        exact kZ
      refine Go.retNW (s := s) (vm₁ := T16.vm) X18 hx hS16 (by rw [e18]; exact hk16) Bd.notSynchronized (t := .boolean) Bd.returns (by simp) (hb hby at_74) (by decide) (by decide) ?_
      exact ⟨rfl, N18⟩
    · rw [hj]
      show Go p e below _ (s₁.setTop (mkF m 8 #[.val (.int p0), .val (.int p1), .val (.int (0 : Int32)), .val (.int (3 : Int32)), .unset, .unset] []))
      refine Go.via (T' := s₁.setTop (mkF m 9 #[.val (.int p0), .val (.int p1), .val (.int (0 : Int32)), .val (.int (3 : Int32)), .unset, .unset] [(.int (0 : Int32))])) (fun tZ kZ => ?_) ?_
      · show Steps p.tables e below (s₁.setTop (mkF m 8 #[.val (.int p0), .val (.int p1), .val (.int (0 : Int32)), .val (.int (3 : Int32)), .unset, .unset] [])) _
        refine XS.iloadN X0.here hx rfl (hb hby at_8) rfl ?_
        show Steps p.tables e below (s₁.setTop (mkF m 9 #[.val (.int p0), .val (.int p1), .val (.int (0 : Int32)), .val (.int (3 : Int32)), .unset, .unset] [(.int (0 : Int32))])) _
        exact kZ
      obtain ⟨_, _, ⟨T19, L19, k19, n19⟩, -, X19, ⟨Lc19, hQ19, l19, y19, z19⟩, st19⟩ := Jvm.LawKit.callS X0 hx (y := (⟨"com/example/paratitle/paratitle/titles/HeadingElementSeparatorAfterPinLaw", "pick", "(I)Lcom/example/paratitle/paratitle/titles/HeadingElement;"⟩ : MethodName)) hown (mvT hZ (hw _ (List.mem_of_getElem? (i := 0) rfl))) (mvT hZ (hw _ (List.mem_of_getElem? (i := 1) rfl))) (mvT hZ (hw _ (List.mem_of_getElem? (i := 2) rfl))) (mvT hZ (hw _ (List.mem_of_getElem? (i := 3) rfl))) (by decide) (backOf (W := 0) (rm1 l Z a0 hw [] (0 : Int32) aT aO aN aP h0 n0 Z0 (ha0.ext ha21.2) (ha1.ext ha21.2) (ha2.ext ha21.2) (ha3.ext ha21.2)) hZ (hw _ (List.mem_of_getElem? (i := 3) rfl)) (hw _ (List.mem_of_getElem? (i := 2) rfl)) (by decide) (by decide)) (g := (mkF m 9 #[.val (.int p0), .val (.int p1), .val (.int (0 : Int32)), .val (.int (3 : Int32)), .unset, .unset] [(.int (0 : Int32))])) rfl (by rw [hml]; rfl) (argsL := [(.int (0 : Int32))]) (rest := []) (lenOf pd_0 rfl) rfl (by show 2 * 0 + _ ≤ _; exact Nat.le_of_eq rfl) (hb hby at_9) (fun _ _ => ⟨rfl, e0, (by decide : 0 + 0 ≤ _), (by decide : 0 + 0 ≤ _)⟩)
      dsimp only [Pt.U, Pt.locs, Pt.cells, Pt.slots] at X19 l19 y19 z19 st19 hQ19
      subst l19 y19 z19
      obtain ⟨rfl, N19q, e19⟩ := hQ19
      rw [show (f1 (0 : Int32) aT aO aN aP) = Value.ref aT from rfl] at st19
      have N19 := Fr.app N0 N19q
      refine Go.via st19 ?_
      show Go p e below _ (T19.setTop (mkF m 12 #[.val (.int p0), .val (.int p1), .val (.int (0 : Int32)), .val (.int (3 : Int32)), .unset, .unset] [(.ref aT)]))
      refine Go.via (T' := T19.setTop (mkF m 13 #[.val (.int p0), .val (.int p1), .val (.int (0 : Int32)), .val (.int (3 : Int32)), .unset, .unset] [(.int (3 : Int32)), (.ref aT)])) (fun tZ kZ => ?_) ?_
      · show Steps p.tables e below (T19.setTop (mkF m 12 #[.val (.int p0), .val (.int p1), .val (.int (0 : Int32)), .val (.int (3 : Int32)), .unset, .unset] [(.ref aT)])) _
        refine XS.iloadN X19.here hx rfl (hb hby at_12) rfl ?_
        show Steps p.tables e below (T19.setTop (mkF m 13 #[.val (.int p0), .val (.int p1), .val (.int (0 : Int32)), .val (.int (3 : Int32)), .unset, .unset] [(.int (3 : Int32)), (.ref aT)])) _
        exact kZ
      obtain ⟨_, _, ⟨T20, L20, k20, n20⟩, -, X20, ⟨Lc20, hQ20, l20, y20, z20⟩, st20⟩ := Jvm.LawKit.callS X19 hx (y := (⟨"com/example/paratitle/paratitle/titles/HeadingElementSeparatorAfterPinLaw", "pick", "(I)Lcom/example/paratitle/paratitle/titles/HeadingElement;"⟩ : MethodName)) hown (mvT hZ (hw _ (List.mem_of_getElem? (i := 0) rfl))) (mvT hZ (hw _ (List.mem_of_getElem? (i := 1) rfl))) (mvT hZ (hw _ (List.mem_of_getElem? (i := 2) rfl))) (mvT hZ (hw _ (List.mem_of_getElem? (i := 3) rfl))) (by decide) (backOf (W := 1) (rm1 l Z a0 hw [] (3 : Int32) aT aO aN aP h0 n0 Z0 (ha0.ext ha21.2) (ha1.ext ha21.2) (ha2.ext ha21.2) (ha3.ext ha21.2)) hZ (hw _ (List.mem_of_getElem? (i := 3) rfl)) (hw _ (List.mem_of_getElem? (i := 2) rfl)) (by decide) (by decide)) (g := (mkF m 13 #[.val (.int p0), .val (.int p1), .val (.int (0 : Int32)), .val (.int (3 : Int32)), .unset, .unset] [(.int (3 : Int32)), (.ref aT)])) rfl (by rw [hml]; rfl) (argsL := [(.int (3 : Int32))]) (rest := [(.ref aT)]) (lenOf pd_0 rfl) rfl (by show 2 * 0 + _ ≤ _; exact Nat.le_of_eq rfl) (hb hby at_13) (fun _ _ => ⟨rfl, e19, (by decide : 0 + 0 + 0 ≤ _), (by decide : 0 + 0 + 0 ≤ _)⟩)
      dsimp only [Pt.U, Pt.locs, Pt.cells, Pt.slots] at X20 l20 y20 z20 st20 hQ20
      subst l20 y20 z20
      obtain ⟨rfl, N20q, e20⟩ := hQ20
      rw [show (f1 (3 : Int32) aT aO aN aP) = Value.ref aP from rfl] at st20
      have N20 := Fr.app N19 N20q
      refine Go.via st20 ?_
      show Go p e below _ (T20.setTop (mkF m 16 #[.val (.int p0), .val (.int p1), .val (.int (0 : Int32)), .val (.int (3 : Int32)), .unset, .unset] [(.ref aP), (.ref aT)]))
      obtain ⟨cq21, kq21, q21a, q21b, q21c⟩ := isOf hZ e20 ha4
      obtain ⟨_, _, ⟨T21, L21, k21, n21⟩, -, X21, ⟨Lc21, hQ21, l21, y21, z21⟩, st21⟩ := X20.virtualBack hx (y := (⟨"com/example/paratitle/paratitle/titles/HeadingElement", "separatorAfter", "(Lcom/example/paratitle/paratitle/titles/HeadingElement;)Ljava/lang/String;"⟩ : MethodName)) (z := (⟨"com/example/paratitle/paratitle/titles/HeadingElement", "separatorAfter", "(Lcom/example/paratitle/paratitle/titles/HeadingElement;)Ljava/lang/String;"⟩ : MethodName)) hown (mvT hZ (hw _ (List.mem_of_getElem? (i := 9) rfl))) (mvT hZ (hw _ (List.mem_of_getElem? (i := 10) rfl))) (notFace_of_selects (args := #[]) (mvT hZ (hw _ (List.mem_of_getElem? (i := 12) rfl)))) (mvT hZ (hw _ (List.mem_of_getElem? (i := 12) rfl))) (mvT hZ (hw _ (List.mem_of_getElem? (i := 11) rfl))) (by decide) (backOf (W := 0) (rm2i l Z a0 hw [] aT aP aP aN saT h0 n0 Z0 (ha3.ext ha21.2) (ha2.ext ha21.2) ha8 hne_aT_aP) hZ (hw _ (List.mem_of_getElem? (i := 13) rfl)) (hw _ (List.mem_of_getElem? (i := 5) rfl)) (by decide) (by decide)) q21a q21c (g := (mkF m 16 #[.val (.int p0), .val (.int p1), .val (.int (0 : Int32)), .val (.int (3 : Int32)), .unset, .unset] [(.ref aP), (.ref aT)])) rfl (by rw [hml]; rfl) (Steps.refl _) (argsL := [(.ref aP)]) (rest := []) (lenOf pd_1 rfl) rfl (by show 2 * 0 + _ ≤ _; exact Nat.le_of_eq rfl) (hb hby at_16) (fun _ _ => ⟨rfl, e20, (by decide : 0 + 0 + 0 + 0 ≤ _), (by decide : 0 + 0 + 0 + 0 ≤ _)⟩)
      dsimp only [Pt.U, Pt.locs, Pt.cells, Pt.slots] at X21 l21 y21 z21 st21 hQ21
      subst l21 y21 z21
      obtain ⟨rfl, N21q, e21⟩ := hQ21
      have N21 := Fr.app N20 N21q
      refine Go.via (fun t k => st21.trans k) ?_
      show Go p e below _ (T21.setTop (mkF m 19 #[.val (.int p0), .val (.int p1), .val (.int (0 : Int32)), .val (.int (3 : Int32)), .unset, .unset] [(.ref saT)]))
      refine Go.via (T' := T21.setTop (mkF m 50 #[.val (.int p0), .val (.int p1), .val (.int (0 : Int32)), .val (.int (3 : Int32)), .val (.ref saT), .unset] [])) (fun tZ kZ => ?_) ?_
      · show Steps p.tables e below (T21.setTop (mkF m 19 #[.val (.int p0), .val (.int p1), .val (.int (0 : Int32)), .val (.int (3 : Int32)), .unset, .unset] [(.ref saT)])) _
        refine XS.astore X21.here hx rfl (hb hby at_19) rfl rfl (l' := #[.val (.int p0), .val (.int p1), .val (.int (0 : Int32)), .val (.int (3 : Int32)), .val (.ref saT), .unset]) rfl ?_
        show Steps p.tables e below (T21.setTop (mkF m 21 #[.val (.int p0), .val (.int p1), .val (.int (0 : Int32)), .val (.int (3 : Int32)), .val (.ref saT), .unset] [])) _
        refine XS.iloadN X21.here hx rfl (hb hby at_21) rfl ?_
        show Steps p.tables e below (T21.setTop (mkF m 22 #[.val (.int p0), .val (.int p1), .val (.int (0 : Int32)), .val (.int (3 : Int32)), .val (.ref saT), .unset] [(.int (0 : Int32))])) _
        refine XS.iconst X21.here hx rfl (hb hby at_22) ?_
        show Steps p.tables e below (T21.setTop (mkF m 23 #[.val (.int p0), .val (.int p1), .val (.int (0 : Int32)), .val (.int (3 : Int32)), .val (.ref saT), .unset] [(.int (1 : Int32)), (.int (0 : Int32))])) _
        refine XS.icmpYes X21.here hx rfl (pc0 := 23) (pc' := 33) rfl (hb hby at_23) rfl (feq (by decide)).2 (by decide) (by decide) ?_
        show Steps p.tables e below (T21.setTop (mkF m 33 #[.val (.int p0), .val (.int p1), .val (.int (0 : Int32)), .val (.int (3 : Int32)), .val (.ref saT), .unset] [])) _
        refine XS.iloadN X21.here hx rfl (hb hby at_33) rfl ?_
        show Steps p.tables e below (T21.setTop (mkF m 34 #[.val (.int p0), .val (.int p1), .val (.int (0 : Int32)), .val (.int (3 : Int32)), .val (.ref saT), .unset] [(.int (0 : Int32))])) _
        refine XS.iconst X21.here hx rfl (hb hby at_34) ?_
        show Steps p.tables e below (T21.setTop (mkF m 35 #[.val (.int p0), .val (.int p1), .val (.int (0 : Int32)), .val (.int (3 : Int32)), .val (.ref saT), .unset] [(.int (3 : Int32)), (.int (0 : Int32))])) _
        refine XS.icmpYes X21.here hx rfl (pc0 := 35) (pc' := 50) rfl (hb hby at_35) rfl (feq (by decide)).2 (by decide) (by decide) ?_
        show Steps p.tables e below (T21.setTop (mkF m 50 #[.val (.int p0), .val (.int p1), .val (.int (0 : Int32)), .val (.int (3 : Int32)), .val (.ref saT), .unset] [])) _
        exact kZ
      obtain ⟨as22, T22, h22, kk22, ab22, kc22, X22, e22, E22, hS22, hk22, hZ, hown, Ea22, Fc22, Fv22, Ar22, -, -, CR22, -, -, st22⟩ := ldcCH (s := s) (vm0 := s.vm) (EL := own_EL) X21 hx hZ hown (hw _ (List.mem_of_getElem? (i := 17) rfl)) wS e21 hS0 (Nat.zero_le _) (own_EW hw) (by simp [own_EL]) hCH (vs := [46, 32].map Value.int) (z := 2) ⟨by decide, by decide +kernel⟩ (by decide) rfl (g := (mkF m 50 #[.val (.int p0), .val (.int p1), .val (.int (0 : Int32)), .val (.int (3 : Int32)), .val (.ref saT), .unset] [])) rfl (hb hby at_50) (n := 64) (by decide) (by decide) (by decide) (by decide)
      have c23_21 := ha21.ext E22
      have c23_0 := ha0.ext c23_21.2
      have c23_1 := ha1.ext c23_21.2
      have c23_2 := ha2.ext c23_21.2
      have c23_3 := ha3.ext c23_21.2
      have c23_4 := ha4.ext E22
      have c23_5 := ha5.ext E22
      have c23_6 := ha6.ext E22
      have c23_7 := ha7.ext E22
      have c23_8 := ha8.ext E22
      have c23_9 := ha9.ext E22
      have c23_10 := ha10.ext E22
      have c23_11 := ha11.ext E22
      have c23_12 := ha12.ext E22
      have c23_13 := ha13.ext E22
      have c23_14 := ha14.ext E22
      have c23_15 := ha15.ext E22
      have c23_16 := ha16.ext E22
      have c23_17 := ha17.ext E22
      have c23_18 := ha18.ext E22
      have c23_19 := ha19.ext E22
      have c23_20 := ha20.ext c23_21.2
      have Va22 := AV.ofArv Ar22 (n := 2) rfl (by decide)
      have K22 : Keep h0 h22 [] := (Keep.refl h0 []).ext E22
      have Z22 : n0 ≤ h22.size := Nat.le_trans Z0 E22.1
      refine Go.via st22 ?_
      show Go p e below _ (T22.setTop (mkF m 52 #[.val (.int p0), .val (.int p1), .val (.int (0 : Int32)), .val (.int (3 : Int32)), .val (.ref saT), .unset] [(.ref as22)]))
      refine Go.via (T' := T22.setTop (mkF m 63 #[.val (.int p0), .val (.int p1), .val (.int (0 : Int32)), .val (.int (3 : Int32)), .val (.ref saT), .val (.ref as22)] [(.ref as22), (.ref saT)])) (fun tZ kZ => ?_) ?_
      · show Steps p.tables e below (T22.setTop (mkF m 52 #[.val (.int p0), .val (.int p1), .val (.int (0 : Int32)), .val (.int (3 : Int32)), .val (.ref saT), .unset] [(.ref as22)])) _
        refine XS.astore X22.here hx rfl (hb hby at_52) rfl rfl (l' := #[.val (.int p0), .val (.int p1), .val (.int (0 : Int32)), .val (.int (3 : Int32)), .val (.ref saT), .val (.ref as22)]) rfl ?_
        show Steps p.tables e below (T22.setTop (mkF m 54 #[.val (.int p0), .val (.int p1), .val (.int (0 : Int32)), .val (.int (3 : Int32)), .val (.ref saT), .val (.ref as22)] [])) _
        refine XS.aload X22.here hx rfl (hb hby at_54) rfl rfl ?_
        show Steps p.tables e below (T22.setTop (mkF m 56 #[.val (.int p0), .val (.int p1), .val (.int (0 : Int32)), .val (.int (3 : Int32)), .val (.ref saT), .val (.ref as22)] [(.ref saT)])) _
        refine XS.ifnullNo X22.here hx rfl (hb hby at_56) rfl ?_
        show Steps p.tables e below (T22.setTop (mkF m 59 #[.val (.int p0), .val (.int p1), .val (.int (0 : Int32)), .val (.int (3 : Int32)), .val (.ref saT), .val (.ref as22)] [])) _
        refine XS.aload X22.here hx rfl (hb hby at_59) rfl rfl ?_
        show Steps p.tables e below (T22.setTop (mkF m 61 #[.val (.int p0), .val (.int p1), .val (.int (0 : Int32)), .val (.int (3 : Int32)), .val (.ref saT), .val (.ref as22)] [(.ref saT)])) _
        refine XS.aload X22.here hx rfl (hb hby at_61) rfl rfl ?_
        show Steps p.tables e below (T22.setTop (mkF m 63 #[.val (.int p0), .val (.int p1), .val (.int (0 : Int32)), .val (.int (3 : Int32)), .val (.ref saT), .val (.ref as22)] [(.ref as22), (.ref saT)])) _
        exact kZ
      obtain ⟨cq24, kq24, q24a, q24b, q24c⟩ := isOf hZ e22 c23_12
      obtain ⟨_, _, ⟨T24, L24, k24, n24⟩, -, X24, ⟨Lc24, hQ24, l24, y24, z24⟩, st24⟩ := X22.virtualBack hx (y := (⟨"java/lang/String", "equals", "(Ljava/lang/Object;)Z"⟩ : MethodName)) (z := (⟨"java/lang/String", "equals", "(Ljava/lang/Object;)Z"⟩ : MethodName)) hown (mvT hZ (hw _ (List.mem_of_getElem? (i := 25) rfl))) (mvT hZ (hw _ (List.mem_of_getElem? (i := 26) rfl))) (notFace_of_selects (args := #[]) (mvT hZ (hw _ (List.mem_of_getElem? (i := 28) rfl)))) (mvT hZ (hw _ (List.mem_of_getElem? (i := 28) rfl))) (mvT hZ (hw _ (List.mem_of_getElem? (i := 27) rfl))) (by decide) (backOf (W := 0) (rm3n2 l Z a0 hw [] saT as22 baT ab22 (own_t [46, 32]) cs h22 n0 Z22 Ea22 c23_13 Fc22 c23_14 Fv22 c23_15 Va22 c23_20 hcs) hZ (hw _ (List.mem_of_getElem? (i := 29) rfl)) (hw _ (List.mem_of_getElem? (i := 18) rfl)) (by decide) (by decide)) q24a q24c (g := (mkF m 63 #[.val (.int p0), .val (.int p1), .val (.int (0 : Int32)), .val (.int (3 : Int32)), .val (.ref saT), .val (.ref as22)] [(.ref as22), (.ref saT)])) rfl (by rw [hml]; rfl) (Steps.refl _) (argsL := [(.ref as22)]) (rest := []) (lenOf pd_2 rfl) rfl (by show 2 * 0 + _ ≤ _; exact Nat.le_of_eq rfl) (hb hby at_63) (fun _ _ => ⟨rfl, e22, (by decide : 0 + 0 + 0 + 0 + 2 + 0 ≤ _), (by decide : 0 + 0 + 0 + 0 + (64 + 4) + 0 ≤ _)⟩)
      dsimp only [Pt.U, Pt.locs, Pt.cells, Pt.slots] at X24 l24 y24 z24 st24 hQ24
      subst l24 y24 z24
      obtain ⟨rfl, N24q, e24⟩ := hQ24
      have N24 := Fr.app N21 N24q
      refine Go.via (fun t k => st24.trans k) ?_
      show Go p e below _ (T24.setTop (mkF m 66 #[.val (.int p0), .val (.int p1), .val (.int (0 : Int32)), .val (.int (3 : Int32)), .val (.ref saT), .val (.ref as22)] [(.int (f3n2 saT as22 baT ab22 (own_t [46, 32]) cs))]))
      refine Go.via (T' := T24.setTop (mkF m 74 #[.val (.int p0), .val (.int p1), .val (.int (0 : Int32)), .val (.int (3 : Int32)), .val (.ref saT), .val (.ref as22)] [(.int (1 : Int32))])) (fun tZ kZ => ?_) ?_
      · show Steps p.tables e below (T24.setTop (mkF m 66 #[.val (.int p0), .val (.int p1), .val (.int (0 : Int32)), .val (.int (3 : Int32)), .val (.ref saT), .val (.ref as22)] [(.int (f3n2 saT as22 baT ab22 (own_t [46, 32]) cs))])) _
        refine XS.ifNo X24.here hx rfl (hb hby at_66) rfl ((if0 _ _).trans (feq (by rw [own_eq2]; decide)).1) ?_
        show Steps p.tables e below (T24.setTop (mkF m 69 #[.val (.int p0), .val (.int p1), .val (.int (0 : Int32)), .val (.int (3 : Int32)), .val (.ref saT), .val (.ref as22)] [])) _
        refine XS.iconst X24.here hx rfl (hb hby at_69) ?_
        show Steps p.tables e below (T24.setTop (mkF m 70 #[.val (.int p0), .val (.int p1), .val (.int (0 : Int32)), .val (.int (3 : Int32)), .val (.ref saT), .val (.ref as22)] [(.int (1 : Int32))])) _
        refine XS.goto X24.here hx rfl (pc0 := 70) (pc' := 74) rfl (hb hby at_70) (by decide) (by decide) ?_
        show Steps p.tables e below (T24.setTop (mkF m 74 #[.val (.int p0), .val (.int p1), .val (.int (0 : Int32)), .val (.int (3 : Int32)), .val (.ref saT), .val (.ref as22)] [(.int (1 : Int32))])) _
        exact kZ
      refine Go.retNW (s := s) (vm₁ := T22.vm) X24 hx hS22 (by rw [e24]; exact hk22) Bd.notSynchronized (t := .boolean) Bd.returns (by simp) (hb hby at_74) (by decide) (by decide) ?_
      exact ⟨rfl, N24⟩
  · rw [hi]
    rcases own_and3 p1 with hj | hj | hj | hj
    · rw [hj]
      show Go p e below _ (s₁.setTop (mkF m 8 #[.val (.int p0), .val (.int p1), .val (.int (1 : Int32)), .val (.int (0 : Int32)), .unset, .unset] []))
      refine Go.via (T' := s₁.setTop (mkF m 9 #[.val (.int p0), .val (.int p1), .val (.int (1 : Int32)), .val (.int (0 : Int32)), .unset, .unset] [(.int (1 : Int32))])) (fun tZ kZ => ?_) ?_
      · show Steps p.tables e below (s₁.setTop (mkF m 8 #[.val (.int p0), .val (.int p1), .val (.int (1 : Int32)), .val (.int (0 : Int32)), .unset, .unset] [])) _
        refine XS.iloadN X0.here hx rfl (hb hby at_8) rfl ?_
        show Steps p.tables e below (s₁.setTop (mkF m 9 #[.val (.int p0), .val (.int p1), .val (.int (1 : Int32)), .val (.int (0 : Int32)), .unset, .unset] [(.int (1 : Int32))])) _
        exact kZ
      obtain ⟨_, _, ⟨T25, L25, k25, n25⟩, -, X25, ⟨Lc25, hQ25, l25, y25, z25⟩, st25⟩ := Jvm.LawKit.callS X0 hx (y := (⟨"com/example/paratitle/paratitle/titles/HeadingElementSeparatorAfterPinLaw", "pick", "(I)Lcom/example/paratitle/paratitle/titles/HeadingElement;"⟩ : MethodName)) hown (mvT hZ (hw _ (List.mem_of_getElem? (i := 0) rfl))) (mvT hZ (hw _ (List.mem_of_getElem? (i := 1) rfl))) (mvT hZ (hw _ (List.mem_of_getElem? (i := 2) rfl))) (mvT hZ (hw _ (List.mem_of_getElem? (i := 3) rfl))) (by decide) (backOf (W := 0) (rm1 l Z a0 hw [] (1 : Int32) aT aO aN aP h0 n0 Z0 (ha0.ext ha21.2) (ha1.ext ha21.2) (ha2.ext ha21.2) (ha3.ext ha21.2)) hZ (hw _ (List.mem_of_getElem? (i := 3) rfl)) (hw _ (List.mem_of_getElem? (i := 2) rfl)) (by decide) (by decide)) (g := (mkF m 9 #[.val (.int p0), .val (.int p1), .val (.int (1 : Int32)), .val (.int (0 : Int32)), .unset, .unset] [(.int (1 : Int32))])) rfl (by rw [hml]; rfl) (argsL := [(.int (1 : Int32))]) (rest := []) (lenOf pd_0 rfl) rfl (by show 2 * 0 + _ ≤ _; exact Nat.le_of_eq rfl) (hb hby at_9) (fun _ _ => ⟨rfl, e0, (by decide : 0 + 0 ≤ _), (by decide : 0 + 0 ≤ _)⟩)
      dsimp only [Pt.U, Pt.locs, Pt.cells, Pt.slots] at X25 l25 y25 z25 st25 hQ25
      subst l25 y25 z25
      obtain ⟨rfl, N25q, e25⟩ := hQ25
      rw [show (f1 (1 : Int32) aT aO aN aP) = Value.ref aO from rfl] at st25
      have N25 := Fr.app N0 N25q
      refine Go.via st25 ?_
      show Go p e below _ (T25.setTop (mkF m 12 #[.val (.int p0), .val (.int p1), .val (.int (1 : Int32)), .val (.int (0 : Int32)), .unset, .unset] [(.ref aO)]))
      refine Go.via (T' := T25.setTop (mkF m 13 #[.val (.int p0), .val (.int p1), .val (.int (1 : Int32)), .val (.int (0 : Int32)), .unset, .unset] [(.int (0 : Int32)), (.ref aO)])) (fun tZ kZ => ?_) ?_
      · show Steps p.tables e below (T25.setTop (mkF m 12 #[.val (.int p0), .val (.int p1), .val (.int (1 : Int32)), .val (.int (0 : Int32)), .unset, .unset] [(.ref aO)])) _
        refine XS.iloadN X25.here hx rfl (hb hby at_12) rfl ?_
        show Steps p.tables e below (T25.setTop (mkF m 13 #[.val (.int p0), .val (.int p1), .val (.int (1 : Int32)), .val (.int (0 : Int32)), .unset, .unset] [(.int (0 : Int32)), (.ref aO)])) _
        exact kZ
      obtain ⟨_, _, ⟨T26, L26, k26, n26⟩, -, X26, ⟨Lc26, hQ26, l26, y26, z26⟩, st26⟩ := Jvm.LawKit.callS X25 hx (y := (⟨"com/example/paratitle/paratitle/titles/HeadingElementSeparatorAfterPinLaw", "pick", "(I)Lcom/example/paratitle/paratitle/titles/HeadingElement;"⟩ : MethodName)) hown (mvT hZ (hw _ (List.mem_of_getElem? (i := 0) rfl))) (mvT hZ (hw _ (List.mem_of_getElem? (i := 1) rfl))) (mvT hZ (hw _ (List.mem_of_getElem? (i := 2) rfl))) (mvT hZ (hw _ (List.mem_of_getElem? (i := 3) rfl))) (by decide) (backOf (W := 1) (rm1 l Z a0 hw [] (0 : Int32) aT aO aN aP h0 n0 Z0 (ha0.ext ha21.2) (ha1.ext ha21.2) (ha2.ext ha21.2) (ha3.ext ha21.2)) hZ (hw _ (List.mem_of_getElem? (i := 3) rfl)) (hw _ (List.mem_of_getElem? (i := 2) rfl)) (by decide) (by decide)) (g := (mkF m 13 #[.val (.int p0), .val (.int p1), .val (.int (1 : Int32)), .val (.int (0 : Int32)), .unset, .unset] [(.int (0 : Int32)), (.ref aO)])) rfl (by rw [hml]; rfl) (argsL := [(.int (0 : Int32))]) (rest := [(.ref aO)]) (lenOf pd_0 rfl) rfl (by show 2 * 0 + _ ≤ _; exact Nat.le_of_eq rfl) (hb hby at_13) (fun _ _ => ⟨rfl, e25, (by decide : 0 + 0 + 0 ≤ _), (by decide : 0 + 0 + 0 ≤ _)⟩)
      dsimp only [Pt.U, Pt.locs, Pt.cells, Pt.slots] at X26 l26 y26 z26 st26 hQ26
      subst l26 y26 z26
      obtain ⟨rfl, N26q, e26⟩ := hQ26
      rw [show (f1 (0 : Int32) aT aO aN aP) = Value.ref aT from rfl] at st26
      have N26 := Fr.app N25 N26q
      refine Go.via st26 ?_
      show Go p e below _ (T26.setTop (mkF m 16 #[.val (.int p0), .val (.int p1), .val (.int (1 : Int32)), .val (.int (0 : Int32)), .unset, .unset] [(.ref aT), (.ref aO)]))
      obtain ⟨cq27, kq27, q27a, q27b, q27c⟩ := isOf hZ e26 ha5
      obtain ⟨_, _, ⟨T27, L27, k27, n27⟩, -, X27, ⟨Lc27, hQ27, l27, y27, z27⟩, st27⟩ := X26.virtualBack hx (y := (⟨"com/example/paratitle/paratitle/titles/HeadingElement", "separatorAfter", "(Lcom/example/paratitle/paratitle/titles/HeadingElement;)Ljava/lang/String;"⟩ : MethodName)) (z := (⟨"com/example/paratitle/paratitle/titles/HeadingElement", "separatorAfter", "(Lcom/example/paratitle/paratitle/titles/HeadingElement;)Ljava/lang/String;"⟩ : MethodName)) hown (mvT hZ (hw _ (List.mem_of_getElem? (i := 9) rfl))) (mvT hZ (hw _ (List.mem_of_getElem? (i := 10) rfl))) (notFace_of_selects (args := #[]) (mvT hZ (hw _ (List.mem_of_getElem? (i := 12) rfl)))) (mvT hZ (hw _ (List.mem_of_getElem? (i := 12) rfl))) (mvT hZ (hw _ (List.mem_of_getElem? (i := 11) rfl))) (by decide) (backOf (W := 0) (rm2i l Z a0 hw [] aO aT aP aN saO h0 n0 Z0 (ha3.ext ha21.2) (ha2.ext ha21.2) ha9 hne_aO_aP) hZ (hw _ (List.mem_of_getElem? (i := 13) rfl)) (hw _ (List.mem_of_getElem? (i := 5) rfl)) (by decide) (by decide)) q27a q27c (g := (mkF m 16 #[.val (.int p0), .val (.int p1), .val (.int (1 : Int32)), .val (.int (0 : Int32)), .unset, .unset] [(.ref aT), (.ref aO)])) rfl (by rw [hml]; rfl) (Steps.refl _) (argsL := [(.ref aT)]) (rest := []) (lenOf pd_1 rfl) rfl (by show 2 * 0 + _ ≤ _; exact Nat.le_of_eq rfl) (hb hby at_16) (fun _ _ => ⟨rfl, e26, (by decide : 0 + 0 + 0 + 0 ≤ _), (by decide : 0 + 0 + 0 + 0 ≤ _)⟩)
      dsimp only [Pt.U, Pt.locs, Pt.cells, Pt.slots] at X27 l27 y27 z27 st27 hQ27
      subst l27 y27 z27
      obtain ⟨rfl, N27q, e27⟩ := hQ27
      have N27 := Fr.app N26 N27q
      refine Go.via (fun t k => st27.trans k) ?_
      show Go p e below _ (T27.setTop (mkF m 19 #[.val (.int p0), .val (.int p1), .val (.int (1 : Int32)), .val (.int (0 : Int32)), .unset, .unset] [(.ref saO)]))
      refine Go.via (T' := T27.setTop (mkF m 26 #[.val (.int p0), .val (.int p1), .val (.int (1 : Int32)), .val (.int (0 : Int32)), .val (.ref saO), .unset] [])) (fun tZ kZ => ?_) ?_
      · show Steps p.tables e below (T27.setTop (mkF m 19 #[.val (.int p0), .val (.int p1), .val (.int (1 : Int32)), .val (.int (0 : Int32)), .unset, .unset] [(.ref saO)])) _
        refine XS.astore X27.here hx rfl (hb hby at_19) rfl rfl (l' := #[.val (.int p0), .val (.int p1), .val (.int (1 : Int32)), .val (.int (0 : Int32)), .val (.ref saO), .unset]) rfl ?_
        show Steps p.tables e below (T27.setTop (mkF m 21 #[.val (.int p0), .val (.int p1), .val (.int (1 : Int32)), .val (.int (0 : Int32)), .val (.ref saO), .unset] [])) _
        refine XS.iloadN X27.here hx rfl (hb hby at_21) rfl ?_
        show Steps p.tables e below (T27.setTop (mkF m 22 #[.val (.int p0), .val (.int p1), .val (.int (1 : Int32)), .val (.int (0 : Int32)), .val (.ref saO), .unset] [(.int (1 : Int32))])) _
        refine XS.iconst X27.here hx rfl (hb hby at_22) ?_
        show Steps p.tables e below (T27.setTop (mkF m 23 #[.val (.int p0), .val (.int p1), .val (.int (1 : Int32)), .val (.int (0 : Int32)), .val (.ref saO), .unset] [(.int (1 : Int32)), (.int (1 : Int32))])) _
        refine XS.icmpNo X27.here hx rfl (hb hby at_23) rfl (teq (by decide)).2 ?_
        show Steps p.tables e below (T27.setTop (mkF m 26 #[.val (.int p0), .val (.int p1), .val (.int (1 : Int32)), .val (.int (0 : Int32)), .val (.ref saO), .unset] [])) _
        exact kZ
      obtain ⟨as28, T28, h28, kk28, ab28, kc28, X28, e28, E28, hS28, hk28, hZ, hown, Ea28, Fc28, Fv28, Ar28, -, -, CR28, -, -, st28⟩ := ldcCH (s := s) (vm0 := s.vm) (EL := own_EL) X27 hx hZ hown (hw _ (List.mem_of_getElem? (i := 43) rfl)) wS e27 hS0 (Nat.zero_le _) (own_EW hw) (by simp [own_EL]) hCH (vs := [32, 58, 32].map Value.int) (z := 3) ⟨by decide, by decide +kernel⟩ (by decide) rfl (g := (mkF m 26 #[.val (.int p0), .val (.int p1), .val (.int (1 : Int32)), .val (.int (0 : Int32)), .val (.ref saO), .unset] [])) rfl (hb hby at_26) (n := 64) (by decide) (by decide) (by decide) (by decide)
      have c29_21 := ha21.ext E28
      have c29_0 := ha0.ext c29_21.2
      have c29_1 := ha1.ext c29_21.2
      have c29_2 := ha2.ext c29_21.2
      have c29_3 := ha3.ext c29_21.2
      have c29_4 := ha4.ext E28
      have c29_5 := ha5.ext E28
      have c29_6 := ha6.ext E28
      have c29_7 := ha7.ext E28
      have c29_8 := ha8.ext E28
      have c29_9 := ha9.ext E28
      have c29_10 := ha10.ext E28
      have c29_11 := ha11.ext E28
      have c29_12 := ha12.ext E28
      have c29_13 := ha13.ext E28
      have c29_14 := ha14.ext E28
      have c29_15 := ha15.ext E28
      have c29_16 := ha16.ext E28
      have c29_17 := ha17.ext E28
      have c29_18 := ha18.ext E28
      have c29_19 := ha19.ext E28
      have c29_20 := ha20.ext c29_21.2
      have Va28 := AV.ofArv Ar28 (n := 3) rfl (by decide)
      have K28 : Keep h0 h28 [] := (Keep.refl h0 []).ext E28
      have Z28 : n0 ≤ h28.size := Nat.le_trans Z0 E28.1
      refine Go.via st28 ?_
      show Go p e below _ (T28.setTop (mkF m 28 #[.val (.int p0), .val (.int p1), .val (.int (1 : Int32)), .val (.int (0 : Int32)), .val (.ref saO), .unset] [(.ref as28)]))
      refine Go.via (T' := T28.setTop (mkF m 63 #[.val (.int p0), .val (.int p1), .val (.int (1 : Int32)), .val (.int (0 : Int32)), .val (.ref saO), .val (.ref as28)] [(.ref as28), (.ref saO)])) (fun tZ kZ => ?_) ?_
      · show Steps p.tables e below (T28.setTop (mkF m 28 #[.val (.int p0), .val (.int p1), .val (.int (1 : Int32)), .val (.int (0 : Int32)), .val (.ref saO), .unset] [(.ref as28)])) _
        refine XS.astore X28.here hx rfl (hb hby at_28) rfl rfl (l' := #[.val (.int p0), .val (.int p1), .val (.int (1 : Int32)), .val (.int (0 : Int32)), .val (.ref saO), .val (.ref as28)]) rfl ?_
        show Steps p.tables e below (T28.setTop (mkF m 30 #[.val (.int p0), .val (.int p1), .val (.int (1 : Int32)), .val (.int (0 : Int32)), .val (.ref saO), .val (.ref as28)] [])) _
        refine XS.goto X28.here hx rfl (pc0 := 30) (pc' := 54) rfl (hb hby at_30) (by decide) (by decide) ?_
        show Steps p.tables e below (T28.setTop (mkF m 54 #[.val (.int p0), .val (.int p1), .val (.int (1 : Int32)), .val (.int (0 : Int32)), .val (.ref saO), .val (.ref as28)] [])) _
        refine XS.aload X28.here hx rfl (hb hby at_54) rfl rfl ?_
        show Steps p.tables e below (T28.setTop (mkF m 56 #[.val (.int p0), .val (.int p1), .val (.int (1 : Int32)), .val (.int (0 : Int32)), .val (.ref saO), .val (.ref as28)] [(.ref saO)])) _
        refine XS.ifnullNo X28.here hx rfl (hb hby at_56) rfl ?_
        show Steps p.tables e below (T28.setTop (mkF m 59 #[.val (.int p0), .val (.int p1), .val (.int (1 : Int32)), .val (.int (0 : Int32)), .val (.ref saO), .val (.ref as28)] [])) _
        refine XS.aload X28.here hx rfl (hb hby at_59) rfl rfl ?_
        show Steps p.tables e below (T28.setTop (mkF m 61 #[.val (.int p0), .val (.int p1), .val (.int (1 : Int32)), .val (.int (0 : Int32)), .val (.ref saO), .val (.ref as28)] [(.ref saO)])) _
        refine XS.aload X28.here hx rfl (hb hby at_61) rfl rfl ?_
        show Steps p.tables e below (T28.setTop (mkF m 63 #[.val (.int p0), .val (.int p1), .val (.int (1 : Int32)), .val (.int (0 : Int32)), .val (.ref saO), .val (.ref as28)] [(.ref as28), (.ref saO)])) _
        exact kZ
      obtain ⟨cq30, kq30, q30a, q30b, q30c⟩ := isOf hZ e28 c29_16
      obtain ⟨_, _, ⟨T30, L30, k30, n30⟩, -, X30, ⟨Lc30, hQ30, l30, y30, z30⟩, st30⟩ := X28.virtualBack hx (y := (⟨"java/lang/String", "equals", "(Ljava/lang/Object;)Z"⟩ : MethodName)) (z := (⟨"java/lang/String", "equals", "(Ljava/lang/Object;)Z"⟩ : MethodName)) hown (mvT hZ (hw _ (List.mem_of_getElem? (i := 25) rfl))) (mvT hZ (hw _ (List.mem_of_getElem? (i := 26) rfl))) (notFace_of_selects (args := #[]) (mvT hZ (hw _ (List.mem_of_getElem? (i := 28) rfl)))) (mvT hZ (hw _ (List.mem_of_getElem? (i := 28) rfl))) (mvT hZ (hw _ (List.mem_of_getElem? (i := 27) rfl))) (by decide) (backOf (W := 0) (rm3n3 l Z a0 hw [] saO as28 baO ab28 (own_t [32, 58, 32]) cs h28 n0 Z28 Ea28 c29_17 Fc28 c29_18 Fv28 c29_19 Va28 c29_20 hcs) hZ (hw _ (List.mem_of_getElem? (i := 29) rfl)) (hw _ (List.mem_of_getElem? (i := 18) rfl)) (by decide) (by decide)) q30a q30c (g := (mkF m 63 #[.val (.int p0), .val (.int p1), .val (.int (1 : Int32)), .val (.int (0 : Int32)), .val (.ref saO), .val (.ref as28)] [(.ref as28), (.ref saO)])) rfl (by rw [hml]; rfl) (Steps.refl _) (argsL := [(.ref as28)]) (rest := []) (lenOf pd_2 rfl) rfl (by show 2 * 0 + _ ≤ _; exact Nat.le_of_eq rfl) (hb hby at_63) (fun _ _ => ⟨rfl, e28, (by decide : 0 + 0 + 0 + 0 + 2 + 0 ≤ _), (by decide : 0 + 0 + 0 + 0 + (64 + 4) + 0 ≤ _)⟩)
      dsimp only [Pt.U, Pt.locs, Pt.cells, Pt.slots] at X30 l30 y30 z30 st30 hQ30
      subst l30 y30 z30
      obtain ⟨rfl, N30q, e30⟩ := hQ30
      have N30 := Fr.app N27 N30q
      refine Go.via (fun t k => st30.trans k) ?_
      show Go p e below _ (T30.setTop (mkF m 66 #[.val (.int p0), .val (.int p1), .val (.int (1 : Int32)), .val (.int (0 : Int32)), .val (.ref saO), .val (.ref as28)] [(.int (f3n3 saO as28 baO ab28 (own_t [32, 58, 32]) cs))]))
      refine Go.via (T' := T30.setTop (mkF m 74 #[.val (.int p0), .val (.int p1), .val (.int (1 : Int32)), .val (.int (0 : Int32)), .val (.ref saO), .val (.ref as28)] [(.int (1 : Int32))])) (fun tZ kZ => ?_) ?_
      · show Steps p.tables e below (T30.setTop (mkF m 66 #[.val (.int p0), .val (.int p1), .val (.int (1 : Int32)), .val (.int (0 : Int32)), .val (.ref saO), .val (.ref as28)] [(.int (f3n3 saO as28 baO ab28 (own_t [32, 58, 32]) cs))])) _
        refine XS.ifNo X30.here hx rfl (hb hby at_66) rfl ((if0 _ _).trans (feq (by rw [own_eq3]; decide)).1) ?_
        show Steps p.tables e below (T30.setTop (mkF m 69 #[.val (.int p0), .val (.int p1), .val (.int (1 : Int32)), .val (.int (0 : Int32)), .val (.ref saO), .val (.ref as28)] [])) _
        refine XS.iconst X30.here hx rfl (hb hby at_69) ?_
        show Steps p.tables e below (T30.setTop (mkF m 70 #[.val (.int p0), .val (.int p1), .val (.int (1 : Int32)), .val (.int (0 : Int32)), .val (.ref saO), .val (.ref as28)] [(.int (1 : Int32))])) _
        refine XS.goto X30.here hx rfl (pc0 := 70) (pc' := 74) rfl (hb hby at_70) (by decide) (by decide) ?_
        show Steps p.tables e below (T30.setTop (mkF m 74 #[.val (.int p0), .val (.int p1), .val (.int (1 : Int32)), .val (.int (0 : Int32)), .val (.ref saO), .val (.ref as28)] [(.int (1 : Int32))])) _
        exact kZ
      refine Go.retNW (s := s) (vm₁ := T28.vm) X30 hx hS28 (by rw [e30]; exact hk28) Bd.notSynchronized (t := .boolean) Bd.returns (by simp) (hb hby at_74) (by decide) (by decide) ?_
      exact ⟨rfl, N30⟩
    · rw [hj]
      show Go p e below _ (s₁.setTop (mkF m 8 #[.val (.int p0), .val (.int p1), .val (.int (1 : Int32)), .val (.int (1 : Int32)), .unset, .unset] []))
      refine Go.via (T' := s₁.setTop (mkF m 9 #[.val (.int p0), .val (.int p1), .val (.int (1 : Int32)), .val (.int (1 : Int32)), .unset, .unset] [(.int (1 : Int32))])) (fun tZ kZ => ?_) ?_
      · show Steps p.tables e below (s₁.setTop (mkF m 8 #[.val (.int p0), .val (.int p1), .val (.int (1 : Int32)), .val (.int (1 : Int32)), .unset, .unset] [])) _
        refine XS.iloadN X0.here hx rfl (hb hby at_8) rfl ?_
        show Steps p.tables e below (s₁.setTop (mkF m 9 #[.val (.int p0), .val (.int p1), .val (.int (1 : Int32)), .val (.int (1 : Int32)), .unset, .unset] [(.int (1 : Int32))])) _
        exact kZ
      obtain ⟨_, _, ⟨T31, L31, k31, n31⟩, -, X31, ⟨Lc31, hQ31, l31, y31, z31⟩, st31⟩ := Jvm.LawKit.callS X0 hx (y := (⟨"com/example/paratitle/paratitle/titles/HeadingElementSeparatorAfterPinLaw", "pick", "(I)Lcom/example/paratitle/paratitle/titles/HeadingElement;"⟩ : MethodName)) hown (mvT hZ (hw _ (List.mem_of_getElem? (i := 0) rfl))) (mvT hZ (hw _ (List.mem_of_getElem? (i := 1) rfl))) (mvT hZ (hw _ (List.mem_of_getElem? (i := 2) rfl))) (mvT hZ (hw _ (List.mem_of_getElem? (i := 3) rfl))) (by decide) (backOf (W := 0) (rm1 l Z a0 hw [] (1 : Int32) aT aO aN aP h0 n0 Z0 (ha0.ext ha21.2) (ha1.ext ha21.2) (ha2.ext ha21.2) (ha3.ext ha21.2)) hZ (hw _ (List.mem_of_getElem? (i := 3) rfl)) (hw _ (List.mem_of_getElem? (i := 2) rfl)) (by decide) (by decide)) (g := (mkF m 9 #[.val (.int p0), .val (.int p1), .val (.int (1 : Int32)), .val (.int (1 : Int32)), .unset, .unset] [(.int (1 : Int32))])) rfl (by rw [hml]; rfl) (argsL := [(.int (1 : Int32))]) (rest := []) (lenOf pd_0 rfl) rfl (by show 2 * 0 + _ ≤ _; exact Nat.le_of_eq rfl) (hb hby at_9) (fun _ _ => ⟨rfl, e0, (by decide : 0 + 0 ≤ _), (by decide : 0 + 0 ≤ _)⟩)
      dsimp only [Pt.U, Pt.locs, Pt.cells, Pt.slots] at X31 l31 y31 z31 st31 hQ31
      subst l31 y31 z31
      obtain ⟨rfl, N31q, e31⟩ := hQ31
      rw [show (f1 (1 : Int32) aT aO aN aP) = Value.ref aO from rfl] at st31
      have N31 := Fr.app N0 N31q
      refine Go.via st31 ?_
      show Go p e below _ (T31.setTop (mkF m 12 #[.val (.int p0), .val (.int p1), .val (.int (1 : Int32)), .val (.int (1 : Int32)), .unset, .unset] [(.ref aO)]))
      refine Go.via (T' := T31.setTop (mkF m 13 #[.val (.int p0), .val (.int p1), .val (.int (1 : Int32)), .val (.int (1 : Int32)), .unset, .unset] [(.int (1 : Int32)), (.ref aO)])) (fun tZ kZ => ?_) ?_
      · show Steps p.tables e below (T31.setTop (mkF m 12 #[.val (.int p0), .val (.int p1), .val (.int (1 : Int32)), .val (.int (1 : Int32)), .unset, .unset] [(.ref aO)])) _
        refine XS.iloadN X31.here hx rfl (hb hby at_12) rfl ?_
        show Steps p.tables e below (T31.setTop (mkF m 13 #[.val (.int p0), .val (.int p1), .val (.int (1 : Int32)), .val (.int (1 : Int32)), .unset, .unset] [(.int (1 : Int32)), (.ref aO)])) _
        exact kZ
      obtain ⟨_, _, ⟨T32, L32, k32, n32⟩, -, X32, ⟨Lc32, hQ32, l32, y32, z32⟩, st32⟩ := Jvm.LawKit.callS X31 hx (y := (⟨"com/example/paratitle/paratitle/titles/HeadingElementSeparatorAfterPinLaw", "pick", "(I)Lcom/example/paratitle/paratitle/titles/HeadingElement;"⟩ : MethodName)) hown (mvT hZ (hw _ (List.mem_of_getElem? (i := 0) rfl))) (mvT hZ (hw _ (List.mem_of_getElem? (i := 1) rfl))) (mvT hZ (hw _ (List.mem_of_getElem? (i := 2) rfl))) (mvT hZ (hw _ (List.mem_of_getElem? (i := 3) rfl))) (by decide) (backOf (W := 1) (rm1 l Z a0 hw [] (1 : Int32) aT aO aN aP h0 n0 Z0 (ha0.ext ha21.2) (ha1.ext ha21.2) (ha2.ext ha21.2) (ha3.ext ha21.2)) hZ (hw _ (List.mem_of_getElem? (i := 3) rfl)) (hw _ (List.mem_of_getElem? (i := 2) rfl)) (by decide) (by decide)) (g := (mkF m 13 #[.val (.int p0), .val (.int p1), .val (.int (1 : Int32)), .val (.int (1 : Int32)), .unset, .unset] [(.int (1 : Int32)), (.ref aO)])) rfl (by rw [hml]; rfl) (argsL := [(.int (1 : Int32))]) (rest := [(.ref aO)]) (lenOf pd_0 rfl) rfl (by show 2 * 0 + _ ≤ _; exact Nat.le_of_eq rfl) (hb hby at_13) (fun _ _ => ⟨rfl, e31, (by decide : 0 + 0 + 0 ≤ _), (by decide : 0 + 0 + 0 ≤ _)⟩)
      dsimp only [Pt.U, Pt.locs, Pt.cells, Pt.slots] at X32 l32 y32 z32 st32 hQ32
      subst l32 y32 z32
      obtain ⟨rfl, N32q, e32⟩ := hQ32
      rw [show (f1 (1 : Int32) aT aO aN aP) = Value.ref aO from rfl] at st32
      have N32 := Fr.app N31 N32q
      refine Go.via st32 ?_
      show Go p e below _ (T32.setTop (mkF m 16 #[.val (.int p0), .val (.int p1), .val (.int (1 : Int32)), .val (.int (1 : Int32)), .unset, .unset] [(.ref aO), (.ref aO)]))
      obtain ⟨cq33, kq33, q33a, q33b, q33c⟩ := isOf hZ e32 ha5
      obtain ⟨_, _, ⟨T33, L33, k33, n33⟩, -, X33, ⟨Lc33, hQ33, l33, y33, z33⟩, st33⟩ := X32.virtualBack hx (y := (⟨"com/example/paratitle/paratitle/titles/HeadingElement", "separatorAfter", "(Lcom/example/paratitle/paratitle/titles/HeadingElement;)Ljava/lang/String;"⟩ : MethodName)) (z := (⟨"com/example/paratitle/paratitle/titles/HeadingElement", "separatorAfter", "(Lcom/example/paratitle/paratitle/titles/HeadingElement;)Ljava/lang/String;"⟩ : MethodName)) hown (mvT hZ (hw _ (List.mem_of_getElem? (i := 9) rfl))) (mvT hZ (hw _ (List.mem_of_getElem? (i := 10) rfl))) (notFace_of_selects (args := #[]) (mvT hZ (hw _ (List.mem_of_getElem? (i := 12) rfl)))) (mvT hZ (hw _ (List.mem_of_getElem? (i := 12) rfl))) (mvT hZ (hw _ (List.mem_of_getElem? (i := 11) rfl))) (by decide) (backOf (W := 0) (rm2i l Z a0 hw [] aO aO aP aN saO h0 n0 Z0 (ha3.ext ha21.2) (ha2.ext ha21.2) ha9 hne_aO_aP) hZ (hw _ (List.mem_of_getElem? (i := 13) rfl)) (hw _ (List.mem_of_getElem? (i := 5) rfl)) (by decide) (by decide)) q33a q33c (g := (mkF m 16 #[.val (.int p0), .val (.int p1), .val (.int (1 : Int32)), .val (.int (1 : Int32)), .unset, .unset] [(.ref aO), (.ref aO)])) rfl (by rw [hml]; rfl) (Steps.refl _) (argsL := [(.ref aO)]) (rest := []) (lenOf pd_1 rfl) rfl (by show 2 * 0 + _ ≤ _; exact Nat.le_of_eq rfl) (hb hby at_16) (fun _ _ => ⟨rfl, e32, (by decide : 0 + 0 + 0 + 0 ≤ _), (by decide : 0 + 0 + 0 + 0 ≤ _)⟩)
      dsimp only [Pt.U, Pt.locs, Pt.cells, Pt.slots] at X33 l33 y33 z33 st33 hQ33
      subst l33 y33 z33
      obtain ⟨rfl, N33q, e33⟩ := hQ33
      have N33 := Fr.app N32 N33q
      refine Go.via (fun t k => st33.trans k) ?_
      show Go p e below _ (T33.setTop (mkF m 19 #[.val (.int p0), .val (.int p1), .val (.int (1 : Int32)), .val (.int (1 : Int32)), .unset, .unset] [(.ref saO)]))
      refine Go.via (T' := T33.setTop (mkF m 26 #[.val (.int p0), .val (.int p1), .val (.int (1 : Int32)), .val (.int (1 : Int32)), .val (.ref saO), .unset] [])) (fun tZ kZ => ?_) ?_
      · show Steps p.tables e below (T33.setTop (mkF m 19 #[.val (.int p0), .val (.int p1), .val (.int (1 : Int32)), .val (.int (1 : Int32)), .unset, .unset] [(.ref saO)])) _
        refine XS.astore X33.here hx rfl (hb hby at_19) rfl rfl (l' := #[.val (.int p0), .val (.int p1), .val (.int (1 : Int32)), .val (.int (1 : Int32)), .val (.ref saO), .unset]) rfl ?_
        show Steps p.tables e below (T33.setTop (mkF m 21 #[.val (.int p0), .val (.int p1), .val (.int (1 : Int32)), .val (.int (1 : Int32)), .val (.ref saO), .unset] [])) _
        refine XS.iloadN X33.here hx rfl (hb hby at_21) rfl ?_
        show Steps p.tables e below (T33.setTop (mkF m 22 #[.val (.int p0), .val (.int p1), .val (.int (1 : Int32)), .val (.int (1 : Int32)), .val (.ref saO), .unset] [(.int (1 : Int32))])) _
        refine XS.iconst X33.here hx rfl (hb hby at_22) ?_
        show Steps p.tables e below (T33.setTop (mkF m 23 #[.val (.int p0), .val (.int p1), .val (.int (1 : Int32)), .val (.int (1 : Int32)), .val (.ref saO), .unset] [(.int (1 : Int32)), (.int (1 : Int32))])) _
        refine XS.icmpNo X33.here hx rfl (hb hby at_23) rfl (teq (by decide)).2 ?_
        show Steps p.tables e below (T33.setTop (mkF m 26 #[.val (.int p0), .val (.int p1), .val (.int (1 : Int32)), .val (.int (1 : Int32)), .val (.ref saO), .unset] [])) _
        exact kZ
      obtain ⟨as34, T34, h34, kk34, ab34, kc34, X34, e34, E34, hS34, hk34, hZ, hown, Ea34, Fc34, Fv34, Ar34, -, -, CR34, -, -, st34⟩ := ldcCH (s := s) (vm0 := s.vm) (EL := own_EL) X33 hx hZ hown (hw _ (List.mem_of_getElem? (i := 43) rfl)) wS e33 hS0 (Nat.zero_le _) (own_EW hw) (by simp [own_EL]) hCH (vs := [32, 58, 32].map Value.int) (z := 3) ⟨by decide, by decide +kernel⟩ (by decide) rfl (g := (mkF m 26 #[.val (.int p0), .val (.int p1), .val (.int (1 : Int32)), .val (.int (1 : Int32)), .val (.ref saO), .unset] [])) rfl (hb hby at_26) (n := 64) (by decide) (by decide) (by decide) (by decide)
      have c35_21 := ha21.ext E34
      have c35_0 := ha0.ext c35_21.2
      have c35_1 := ha1.ext c35_21.2
      have c35_2 := ha2.ext c35_21.2
      have c35_3 := ha3.ext c35_21.2
      have c35_4 := ha4.ext E34
      have c35_5 := ha5.ext E34
      have c35_6 := ha6.ext E34
      have c35_7 := ha7.ext E34
      have c35_8 := ha8.ext E34
      have c35_9 := ha9.ext E34
      have c35_10 := ha10.ext E34
      have c35_11 := ha11.ext E34
      have c35_12 := ha12.ext E34
      have c35_13 := ha13.ext E34
      have c35_14 := ha14.ext E34
      have c35_15 := ha15.ext E34
      have c35_16 := ha16.ext E34
      have c35_17 := ha17.ext E34
      have c35_18 := ha18.ext E34
      have c35_19 := ha19.ext E34
      have c35_20 := ha20.ext c35_21.2
      have Va34 := AV.ofArv Ar34 (n := 3) rfl (by decide)
      have K34 : Keep h0 h34 [] := (Keep.refl h0 []).ext E34
      have Z34 : n0 ≤ h34.size := Nat.le_trans Z0 E34.1
      refine Go.via st34 ?_
      show Go p e below _ (T34.setTop (mkF m 28 #[.val (.int p0), .val (.int p1), .val (.int (1 : Int32)), .val (.int (1 : Int32)), .val (.ref saO), .unset] [(.ref as34)]))
      refine Go.via (T' := T34.setTop (mkF m 63 #[.val (.int p0), .val (.int p1), .val (.int (1 : Int32)), .val (.int (1 : Int32)), .val (.ref saO), .val (.ref as34)] [(.ref as34), (.ref saO)])) (fun tZ kZ => ?_) ?_
      · show Steps p.tables e below (T34.setTop (mkF m 28 #[.val (.int p0), .val (.int p1), .val (.int (1 : Int32)), .val (.int (1 : Int32)), .val (.ref saO), .unset] [(.ref as34)])) _
        refine XS.astore X34.here hx rfl (hb hby at_28) rfl rfl (l' := #[.val (.int p0), .val (.int p1), .val (.int (1 : Int32)), .val (.int (1 : Int32)), .val (.ref saO), .val (.ref as34)]) rfl ?_
        show Steps p.tables e below (T34.setTop (mkF m 30 #[.val (.int p0), .val (.int p1), .val (.int (1 : Int32)), .val (.int (1 : Int32)), .val (.ref saO), .val (.ref as34)] [])) _
        refine XS.goto X34.here hx rfl (pc0 := 30) (pc' := 54) rfl (hb hby at_30) (by decide) (by decide) ?_
        show Steps p.tables e below (T34.setTop (mkF m 54 #[.val (.int p0), .val (.int p1), .val (.int (1 : Int32)), .val (.int (1 : Int32)), .val (.ref saO), .val (.ref as34)] [])) _
        refine XS.aload X34.here hx rfl (hb hby at_54) rfl rfl ?_
        show Steps p.tables e below (T34.setTop (mkF m 56 #[.val (.int p0), .val (.int p1), .val (.int (1 : Int32)), .val (.int (1 : Int32)), .val (.ref saO), .val (.ref as34)] [(.ref saO)])) _
        refine XS.ifnullNo X34.here hx rfl (hb hby at_56) rfl ?_
        show Steps p.tables e below (T34.setTop (mkF m 59 #[.val (.int p0), .val (.int p1), .val (.int (1 : Int32)), .val (.int (1 : Int32)), .val (.ref saO), .val (.ref as34)] [])) _
        refine XS.aload X34.here hx rfl (hb hby at_59) rfl rfl ?_
        show Steps p.tables e below (T34.setTop (mkF m 61 #[.val (.int p0), .val (.int p1), .val (.int (1 : Int32)), .val (.int (1 : Int32)), .val (.ref saO), .val (.ref as34)] [(.ref saO)])) _
        refine XS.aload X34.here hx rfl (hb hby at_61) rfl rfl ?_
        show Steps p.tables e below (T34.setTop (mkF m 63 #[.val (.int p0), .val (.int p1), .val (.int (1 : Int32)), .val (.int (1 : Int32)), .val (.ref saO), .val (.ref as34)] [(.ref as34), (.ref saO)])) _
        exact kZ
      obtain ⟨cq36, kq36, q36a, q36b, q36c⟩ := isOf hZ e34 c35_16
      obtain ⟨_, _, ⟨T36, L36, k36, n36⟩, -, X36, ⟨Lc36, hQ36, l36, y36, z36⟩, st36⟩ := X34.virtualBack hx (y := (⟨"java/lang/String", "equals", "(Ljava/lang/Object;)Z"⟩ : MethodName)) (z := (⟨"java/lang/String", "equals", "(Ljava/lang/Object;)Z"⟩ : MethodName)) hown (mvT hZ (hw _ (List.mem_of_getElem? (i := 25) rfl))) (mvT hZ (hw _ (List.mem_of_getElem? (i := 26) rfl))) (notFace_of_selects (args := #[]) (mvT hZ (hw _ (List.mem_of_getElem? (i := 28) rfl)))) (mvT hZ (hw _ (List.mem_of_getElem? (i := 28) rfl))) (mvT hZ (hw _ (List.mem_of_getElem? (i := 27) rfl))) (by decide) (backOf (W := 0) (rm3n3 l Z a0 hw [] saO as34 baO ab34 (own_t [32, 58, 32]) cs h34 n0 Z34 Ea34 c35_17 Fc34 c35_18 Fv34 c35_19 Va34 c35_20 hcs) hZ (hw _ (List.mem_of_getElem? (i := 29) rfl)) (hw _ (List.mem_of_getElem? (i := 18) rfl)) (by decide) (by decide)) q36a q36c (g := (mkF m 63 #[.val (.int p0), .val (.int p1), .val (.int (1 : Int32)), .val (.int (1 : Int32)), .val (.ref saO), .val (.ref as34)] [(.ref as34), (.ref saO)])) rfl (by rw [hml]; rfl) (Steps.refl _) (argsL := [(.ref as34)]) (rest := []) (lenOf pd_2 rfl) rfl (by show 2 * 0 + _ ≤ _; exact Nat.le_of_eq rfl) (hb hby at_63) (fun _ _ => ⟨rfl, e34, (by decide : 0 + 0 + 0 + 0 + 2 + 0 ≤ _), (by decide : 0 + 0 + 0 + 0 + (64 + 4) + 0 ≤ _)⟩)
      dsimp only [Pt.U, Pt.locs, Pt.cells, Pt.slots] at X36 l36 y36 z36 st36 hQ36
      subst l36 y36 z36
      obtain ⟨rfl, N36q, e36⟩ := hQ36
      have N36 := Fr.app N33 N36q
      refine Go.via (fun t k => st36.trans k) ?_
      show Go p e below _ (T36.setTop (mkF m 66 #[.val (.int p0), .val (.int p1), .val (.int (1 : Int32)), .val (.int (1 : Int32)), .val (.ref saO), .val (.ref as34)] [(.int (f3n3 saO as34 baO ab34 (own_t [32, 58, 32]) cs))]))
      refine Go.via (T' := T36.setTop (mkF m 74 #[.val (.int p0), .val (.int p1), .val (.int (1 : Int32)), .val (.int (1 : Int32)), .val (.ref saO), .val (.ref as34)] [(.int (1 : Int32))])) (fun tZ kZ => ?_) ?_
      · show Steps p.tables e below (T36.setTop (mkF m 66 #[.val (.int p0), .val (.int p1), .val (.int (1 : Int32)), .val (.int (1 : Int32)), .val (.ref saO), .val (.ref as34)] [(.int (f3n3 saO as34 baO ab34 (own_t [32, 58, 32]) cs))])) _
        refine XS.ifNo X36.here hx rfl (hb hby at_66) rfl ((if0 _ _).trans (feq (by rw [own_eq3]; decide)).1) ?_
        show Steps p.tables e below (T36.setTop (mkF m 69 #[.val (.int p0), .val (.int p1), .val (.int (1 : Int32)), .val (.int (1 : Int32)), .val (.ref saO), .val (.ref as34)] [])) _
        refine XS.iconst X36.here hx rfl (hb hby at_69) ?_
        show Steps p.tables e below (T36.setTop (mkF m 70 #[.val (.int p0), .val (.int p1), .val (.int (1 : Int32)), .val (.int (1 : Int32)), .val (.ref saO), .val (.ref as34)] [(.int (1 : Int32))])) _
        refine XS.goto X36.here hx rfl (pc0 := 70) (pc' := 74) rfl (hb hby at_70) (by decide) (by decide) ?_
        show Steps p.tables e below (T36.setTop (mkF m 74 #[.val (.int p0), .val (.int p1), .val (.int (1 : Int32)), .val (.int (1 : Int32)), .val (.ref saO), .val (.ref as34)] [(.int (1 : Int32))])) _
        exact kZ
      refine Go.retNW (s := s) (vm₁ := T34.vm) X36 hx hS34 (by rw [e36]; exact hk34) Bd.notSynchronized (t := .boolean) Bd.returns (by simp) (hb hby at_74) (by decide) (by decide) ?_
      exact ⟨rfl, N36⟩
    · rw [hj]
      show Go p e below _ (s₁.setTop (mkF m 8 #[.val (.int p0), .val (.int p1), .val (.int (1 : Int32)), .val (.int (2 : Int32)), .unset, .unset] []))
      refine Go.via (T' := s₁.setTop (mkF m 9 #[.val (.int p0), .val (.int p1), .val (.int (1 : Int32)), .val (.int (2 : Int32)), .unset, .unset] [(.int (1 : Int32))])) (fun tZ kZ => ?_) ?_
      · show Steps p.tables e below (s₁.setTop (mkF m 8 #[.val (.int p0), .val (.int p1), .val (.int (1 : Int32)), .val (.int (2 : Int32)), .unset, .unset] [])) _
        refine XS.iloadN X0.here hx rfl (hb hby at_8) rfl ?_
        show Steps p.tables e below (s₁.setTop (mkF m 9 #[.val (.int p0), .val (.int p1), .val (.int (1 : Int32)), .val (.int (2 : Int32)), .unset, .unset] [(.int (1 : Int32))])) _
        exact kZ
      obtain ⟨_, _, ⟨T37, L37, k37, n37⟩, -, X37, ⟨Lc37, hQ37, l37, y37, z37⟩, st37⟩ := Jvm.LawKit.callS X0 hx (y := (⟨"com/example/paratitle/paratitle/titles/HeadingElementSeparatorAfterPinLaw", "pick", "(I)Lcom/example/paratitle/paratitle/titles/HeadingElement;"⟩ : MethodName)) hown (mvT hZ (hw _ (List.mem_of_getElem? (i := 0) rfl))) (mvT hZ (hw _ (List.mem_of_getElem? (i := 1) rfl))) (mvT hZ (hw _ (List.mem_of_getElem? (i := 2) rfl))) (mvT hZ (hw _ (List.mem_of_getElem? (i := 3) rfl))) (by decide) (backOf (W := 0) (rm1 l Z a0 hw [] (1 : Int32) aT aO aN aP h0 n0 Z0 (ha0.ext ha21.2) (ha1.ext ha21.2) (ha2.ext ha21.2) (ha3.ext ha21.2)) hZ (hw _ (List.mem_of_getElem? (i := 3) rfl)) (hw _ (List.mem_of_getElem? (i := 2) rfl)) (by decide) (by decide)) (g := (mkF m 9 #[.val (.int p0), .val (.int p1), .val (.int (1 : Int32)), .val (.int (2 : Int32)), .unset, .unset] [(.int (1 : Int32))])) rfl (by rw [hml]; rfl) (argsL := [(.int (1 : Int32))]) (rest := []) (lenOf pd_0 rfl) rfl (by show 2 * 0 + _ ≤ _; exact Nat.le_of_eq rfl) (hb hby at_9) (fun _ _ => ⟨rfl, e0, (by decide : 0 + 0 ≤ _), (by decide : 0 + 0 ≤ _)⟩)
      dsimp only [Pt.U, Pt.locs, Pt.cells, Pt.slots] at X37 l37 y37 z37 st37 hQ37
      subst l37 y37 z37
      obtain ⟨rfl, N37q, e37⟩ := hQ37
      rw [show (f1 (1 : Int32) aT aO aN aP) = Value.ref aO from rfl] at st37
      have N37 := Fr.app N0 N37q
      refine Go.via st37 ?_
      show Go p e below _ (T37.setTop (mkF m 12 #[.val (.int p0), .val (.int p1), .val (.int (1 : Int32)), .val (.int (2 : Int32)), .unset, .unset] [(.ref aO)]))
      refine Go.via (T' := T37.setTop (mkF m 13 #[.val (.int p0), .val (.int p1), .val (.int (1 : Int32)), .val (.int (2 : Int32)), .unset, .unset] [(.int (2 : Int32)), (.ref aO)])) (fun tZ kZ => ?_) ?_
      · show Steps p.tables e below (T37.setTop (mkF m 12 #[.val (.int p0), .val (.int p1), .val (.int (1 : Int32)), .val (.int (2 : Int32)), .unset, .unset] [(.ref aO)])) _
        refine XS.iloadN X37.here hx rfl (hb hby at_12) rfl ?_
        show Steps p.tables e below (T37.setTop (mkF m 13 #[.val (.int p0), .val (.int p1), .val (.int (1 : Int32)), .val (.int (2 : Int32)), .unset, .unset] [(.int (2 : Int32)), (.ref aO)])) _
        exact kZ
      obtain ⟨_, _, ⟨T38, L38, k38, n38⟩, -, X38, ⟨Lc38, hQ38, l38, y38, z38⟩, st38⟩ := Jvm.LawKit.callS X37 hx (y := (⟨"com/example/paratitle/paratitle/titles/HeadingElementSeparatorAfterPinLaw", "pick", "(I)Lcom/example/paratitle/paratitle/titles/HeadingElement;"⟩ : MethodName)) hown (mvT hZ (hw _ (List.mem_of_getElem? (i := 0) rfl))) (mvT hZ (hw _ (List.mem_of_getElem? (i := 1) rfl))) (mvT hZ (hw _ (List.mem_of_getElem? (i := 2) rfl))) (mvT hZ (hw _ (List.mem_of_getElem? (i := 3) rfl))) (by decide) (backOf (W := 1) (rm1 l Z a0 hw [] (2 : Int32) aT aO aN aP h0 n0 Z0 (ha0.ext ha21.2) (ha1.ext ha21.2) (ha2.ext ha21.2) (ha3.ext ha21.2)) hZ (hw _ (List.mem_of_getElem? (i := 3) rfl)) (hw _ (List.mem_of_getElem? (i := 2) rfl)) (by decide) (by decide)) (g := (mkF m 13 #[.val (.int p0), .val (.int p1), .val (.int (1 : Int32)), .val (.int (2 : Int32)), .unset, .unset] [(.int (2 : Int32)), (.ref aO)])) rfl (by rw [hml]; rfl) (argsL := [(.int (2 : Int32))]) (rest := [(.ref aO)]) (lenOf pd_0 rfl) rfl (by show 2 * 0 + _ ≤ _; exact Nat.le_of_eq rfl) (hb hby at_13) (fun _ _ => ⟨rfl, e37, (by decide : 0 + 0 + 0 ≤ _), (by decide : 0 + 0 + 0 ≤ _)⟩)
      dsimp only [Pt.U, Pt.locs, Pt.cells, Pt.slots] at X38 l38 y38 z38 st38 hQ38
      subst l38 y38 z38
      obtain ⟨rfl, N38q, e38⟩ := hQ38
      rw [show (f1 (2 : Int32) aT aO aN aP) = Value.ref aN from rfl] at st38
      have N38 := Fr.app N37 N38q
      refine Go.via st38 ?_
      show Go p e below _ (T38.setTop (mkF m 16 #[.val (.int p0), .val (.int p1), .val (.int (1 : Int32)), .val (.int (2 : Int32)), .unset, .unset] [(.ref aN), (.ref aO)]))
      obtain ⟨cq39, kq39, q39a, q39b, q39c⟩ := isOf hZ e38 ha5
      obtain ⟨_, _, ⟨T39, L39, k39, n39⟩, -, X39, ⟨Lc39, hQ39, l39, y39, z39⟩, st39⟩ := X38.virtualBack hx (y := (⟨"com/example/paratitle/paratitle/titles/HeadingElement", "separatorAfter", "(Lcom/example/paratitle/paratitle/titles/HeadingElement;)Ljava/lang/String;"⟩ : MethodName)) (z := (⟨"com/example/paratitle/paratitle/titles/HeadingElement", "separatorAfter", "(Lcom/example/paratitle/paratitle/titles/HeadingElement;)Ljava/lang/String;"⟩ : MethodName)) hown (mvT hZ (hw _ (List.mem_of_getElem? (i := 9) rfl))) (mvT hZ (hw _ (List.mem_of_getElem? (i := 10) rfl))) (notFace_of_selects (args := #[]) (mvT hZ (hw _ (List.mem_of_getElem? (i := 12) rfl)))) (mvT hZ (hw _ (List.mem_of_getElem? (i := 12) rfl))) (mvT hZ (hw _ (List.mem_of_getElem? (i := 11) rfl))) (by decide) (backOf (W := 0) (rm2i l Z a0 hw [] aO aN aP aN saO h0 n0 Z0 (ha3.ext ha21.2) (ha2.ext ha21.2) ha9 hne_aO_aP) hZ (hw _ (List.mem_of_getElem? (i := 13) rfl)) (hw _ (List.mem_of_getElem? (i := 5) rfl)) (by decide) (by decide)) q39a q39c (g := (mkF m 16 #[.val (.int p0), .val (.int p1), .val (.int (1 : Int32)), .val (.int (2 : Int32)), .unset, .unset] [(.ref aN), (.ref aO)])) rfl (by rw [hml]; rfl) (Steps.refl _) (argsL := [(.ref aN)]) (rest := []) (lenOf pd_1 rfl) rfl (by show 2 * 0 + _ ≤ _; exact Nat.le_of_eq rfl) (hb hby at_16) (fun _ _ => ⟨rfl, e38, (by decide : 0 + 0 + 0 + 0 ≤ _), (by decide : 0 + 0 + 0 + 0 ≤ _)⟩)
      dsimp only [Pt.U, Pt.locs, Pt.cells, Pt.slots] at X39 l39 y39 z39 st39 hQ39
      subst l39 y39 z39
      obtain ⟨rfl, N39q, e39⟩ := hQ39
      have N39 := Fr.app N38 N39q
      refine Go.via (fun t k => st39.trans k) ?_
      show Go p e below _ (T39.setTop (mkF m 19 #[.val (.int p0), .val (.int p1), .val (.int (1 : Int32)), .val (.int (2 : Int32)), .unset, .unset] [(.ref saO)]))
      refine Go.via (T' := T39.setTop (mkF m 26 #[.val (.int p0), .val (.int p1), .val (.int (1 : Int32)), .val (.int (2 : Int32)), .val (.ref saO), .unset] [])) (fun tZ kZ => ?_) ?_
      · show Steps p.tables e below (T39.setTop (mkF m 19 #[.val (.int p0), .val (.int p1), .val (.int (1 : Int32)), .val (.int (2 : Int32)), .unset, .unset] [(.ref saO)])) _
        refine XS.astore X39.here hx rfl (hb hby at_19) rfl rfl (l' := #[.val (.int p0), .val (.int p1), .val (.int (1 : Int32)), .val (.int (2 : Int32)), .val (.ref saO), .unset]) rfl ?_
        show Steps p.tables e below (T39.setTop (mkF m 21 #[.val (.int p0), .val (.int p1), .val (.int (1 : Int32)), .val (.int (2 : Int32)), .val (.ref saO), .unset] [])) _
        refine XS.iloadN X39.here hx rfl (hb hby at_21) rfl ?_
        show Steps p.tables e below (T39.setTop (mkF m 22 #[.val (.int p0), .val (.int p1), .val (.int (1 : Int32)), .val (.int (2 : Int32)), .val (.ref saO), .unset] [(.int (1 : Int32))])) _
        refine XS.iconst X39.here hx rfl (hb hby at_22) ?_
        show Steps p.tables e below (T39.setTop (mkF m 23 #[.val (.int p0), .val (.int p1), .val (.int (1 : Int32)), .val (.int (2 : Int32)), .val (.ref saO), .unset] [(.int (1 : Int32)), (.int (1 : Int32))])) _
        refine XS.icmpNo X39.here hx rfl (hb hby at_23) rfl (teq (by decide)).2 ?_
        show Steps p.tables e below (T39.setTop (mkF m 26 #[.val (.int p0), .val (.int p1), .val (.int (1 : Int32)), .val (.int (2 : Int32)), .val (.ref saO), .unset] [])) _
        exact kZ
      obtain ⟨as40, T40, h40, kk40, ab40, kc40, X40, e40, E40, hS40, hk40, hZ, hown, Ea40, Fc40, Fv40, Ar40, -, -, CR40, -, -, st40⟩ := ldcCH (s := s) (vm0 := s.vm) (EL := own_EL) X39 hx hZ hown (hw _ (List.mem_of_getElem? (i := 43) rfl)) wS e39 hS0 (Nat.zero_le _) (own_EW hw) (by simp [own_EL]) hCH (vs := [32, 58, 32].map Value.int) (z := 3) ⟨by decide, by decide +kernel⟩ (by decide) rfl (g := (mkF m 26 #[.val (.int p0), .val (.int p1), .val (.int (1 : Int32)), .val (.int (2 : Int32)), .val (.ref saO), .unset] [])) rfl (hb hby at_26) (n := 64) (by decide) (by decide) (by decide) (by decide)
      have c41_21 := ha21.ext E40
      have c41_0 := ha0.ext c41_21.2
      have c41_1 := ha1.ext c41_21.2
      have c41_2 := ha2.ext c41_21.2
      have c41_3 := ha3.ext c41_21.2
      have c41_4 := ha4.ext E40
      have c41_5 := ha5.ext E40
      have c41_6 := ha6.ext E40
      have c41_7 := ha7.ext E40
      have c41_8 := ha8.ext E40
      have c41_9 := ha9.ext E40
      have c41_10 := ha10.ext E40
      have c41_11 := ha11.ext E40
      have c41_12 := ha12.ext E40
      have c41_13 := ha13.ext E40
      have c41_14 := ha14.ext E40
      have c41_15 := ha15.ext E40
      have c41_16 := ha16.ext E40
      have c41_17 := ha17.ext E40
      have c41_18 := ha18.ext E40
      have c41_19 := ha19.ext E40
      have c41_20 := ha20.ext c41_21.2
      have Va40 := AV.ofArv Ar40 (n := 3) rfl (by decide)
      have K40 : Keep h0 h40 [] := (Keep.refl h0 []).ext E40
      have Z40 : n0 ≤ h40.size := Nat.le_trans Z0 E40.1
      refine Go.via st40 ?_
      show Go p e below _ (T40.setTop (mkF m 28 #[.val (.int p0), .val (.int p1), .val (.int (1 : Int32)), .val (.int (2 : Int32)), .val (.ref saO), .unset] [(.ref as40)]))
      refine Go.via (T' := T40.setTop (mkF m 63 #[.val (.int p0), .val (.int p1), .val (.int (1 : Int32)), .val (.int (2 : Int32)), .val (.ref saO), .val (.ref as40)] [(.ref as40), (.ref saO)])) (fun tZ kZ => ?_) ?_
      · show Steps p.tables e below (T40.setTop (mkF m 28 #[.val (.int p0), .val (.int p1), .val (.int (1 : Int32)), .val (.int (2 : Int32)), .val (.ref saO), .unset] [(.ref as40)])) _
        refine XS.astore X40.here hx rfl (hb hby at_28) rfl rfl (l' := #[.val (.int p0), .val (.int p1), .val (.int (1 : Int32)), .val (.int (2 : Int32)), .val (.ref saO), .val (.ref as40)]) rfl ?_
        show Steps p.tables e below (T40.setTop (mkF m 30 #[.val (.int p0), .val (.int p1), .val (.int (1 : Int32)), .val (.int (2 : Int32)), .val (.ref saO), .val (.ref as40)] [])) _
        refine XS.goto X40.here hx rfl (pc0 := 30) (pc' := 54) rfl (hb hby at_30) (by decide) (by decide) ?_
        show Steps p.tables e below (T40.setTop (mkF m 54 #[.val (.int p0), .val (.int p1), .val (.int (1 : Int32)), .val (.int (2 : Int32)), .val (.ref saO), .val (.ref as40)] [])) _
        refine XS.aload X40.here hx rfl (hb hby at_54) rfl rfl ?_
        show Steps p.tables e below (T40.setTop (mkF m 56 #[.val (.int p0), .val (.int p1), .val (.int (1 : Int32)), .val (.int (2 : Int32)), .val (.ref saO), .val (.ref as40)] [(.ref saO)])) _
        refine XS.ifnullNo X40.here hx rfl (hb hby at_56) rfl ?_
        show Steps p.tables e below (T40.setTop (mkF m 59 #[.val (.int p0), .val (.int p1), .val (.int (1 : Int32)), .val (.int (2 : Int32)), .val (.ref saO), .val (.ref as40)] [])) _
        refine XS.aload X40.here hx rfl (hb hby at_59) rfl rfl ?_
        show Steps p.tables e below (T40.setTop (mkF m 61 #[.val (.int p0), .val (.int p1), .val (.int (1 : Int32)), .val (.int (2 : Int32)), .val (.ref saO), .val (.ref as40)] [(.ref saO)])) _
        refine XS.aload X40.here hx rfl (hb hby at_61) rfl rfl ?_
        show Steps p.tables e below (T40.setTop (mkF m 63 #[.val (.int p0), .val (.int p1), .val (.int (1 : Int32)), .val (.int (2 : Int32)), .val (.ref saO), .val (.ref as40)] [(.ref as40), (.ref saO)])) _
        exact kZ
      obtain ⟨cq42, kq42, q42a, q42b, q42c⟩ := isOf hZ e40 c41_16
      obtain ⟨_, _, ⟨T42, L42, k42, n42⟩, -, X42, ⟨Lc42, hQ42, l42, y42, z42⟩, st42⟩ := X40.virtualBack hx (y := (⟨"java/lang/String", "equals", "(Ljava/lang/Object;)Z"⟩ : MethodName)) (z := (⟨"java/lang/String", "equals", "(Ljava/lang/Object;)Z"⟩ : MethodName)) hown (mvT hZ (hw _ (List.mem_of_getElem? (i := 25) rfl))) (mvT hZ (hw _ (List.mem_of_getElem? (i := 26) rfl))) (notFace_of_selects (args := #[]) (mvT hZ (hw _ (List.mem_of_getElem? (i := 28) rfl)))) (mvT hZ (hw _ (List.mem_of_getElem? (i := 28) rfl))) (mvT hZ (hw _ (List.mem_of_getElem? (i := 27) rfl))) (by decide) (backOf (W := 0) (rm3n3 l Z a0 hw [] saO as40 baO ab40 (own_t [32, 58, 32]) cs h40 n0 Z40 Ea40 c41_17 Fc40 c41_18 Fv40 c41_19 Va40 c41_20 hcs) hZ (hw _ (List.mem_of_getElem? (i := 29) rfl)) (hw _ (List.mem_of_getElem? (i := 18) rfl)) (by decide) (by decide)) q42a q42c (g := (mkF m 63 #[.val (.int p0), .val (.int p1), .val (.int (1 : Int32)), .val (.int (2 : Int32)), .val (.ref saO), .val (.ref as40)] [(.ref as40), (.ref saO)])) rfl (by rw [hml]; rfl) (Steps.refl _) (argsL := [(.ref as40)]) (rest := []) (lenOf pd_2 rfl) rfl (by show 2 * 0 + _ ≤ _; exact Nat.le_of_eq rfl) (hb hby at_63) (fun _ _ => ⟨rfl, e40, (by decide : 0 + 0 + 0 + 0 + 2 + 0 ≤ _), (by decide : 0 + 0 + 0 + 0 + (64 + 4) + 0 ≤ _)⟩)
      dsimp only [Pt.U, Pt.locs, Pt.cells, Pt.slots] at X42 l42 y42 z42 st42 hQ42
      subst l42 y42 z42
      obtain ⟨rfl, N42q, e42⟩ := hQ42
      have N42 := Fr.app N39 N42q
      refine Go.via (fun t k => st42.trans k) ?_
      show Go p e below _ (T42.setTop (mkF m 66 #[.val (.int p0), .val (.int p1), .val (.int (1 : Int32)), .val (.int (2 : Int32)), .val (.ref saO), .val (.ref as40)] [(.int (f3n3 saO as40 baO ab40 (own_t [32, 58, 32]) cs))]))
      refine Go.via (T' := T42.setTop (mkF m 74 #[.val (.int p0), .val (.int p1), .val (.int (1 : Int32)), .val (.int (2 : Int32)), .val (.ref saO), .val (.ref as40)] [(.int (1 : Int32))])) (fun tZ kZ => ?_) ?_
      · show Steps p.tables e below (T42.setTop (mkF m 66 #[.val (.int p0), .val (.int p1), .val (.int (1 : Int32)), .val (.int (2 : Int32)), .val (.ref saO), .val (.ref as40)] [(.int (f3n3 saO as40 baO ab40 (own_t [32, 58, 32]) cs))])) _
        refine XS.ifNo X42.here hx rfl (hb hby at_66) rfl ((if0 _ _).trans (feq (by rw [own_eq3]; decide)).1) ?_
        show Steps p.tables e below (T42.setTop (mkF m 69 #[.val (.int p0), .val (.int p1), .val (.int (1 : Int32)), .val (.int (2 : Int32)), .val (.ref saO), .val (.ref as40)] [])) _
        refine XS.iconst X42.here hx rfl (hb hby at_69) ?_
        show Steps p.tables e below (T42.setTop (mkF m 70 #[.val (.int p0), .val (.int p1), .val (.int (1 : Int32)), .val (.int (2 : Int32)), .val (.ref saO), .val (.ref as40)] [(.int (1 : Int32))])) _
        refine XS.goto X42.here hx rfl (pc0 := 70) (pc' := 74) rfl (hb hby at_70) (by decide) (by decide) ?_
        show Steps p.tables e below (T42.setTop (mkF m 74 #[.val (.int p0), .val (.int p1), .val (.int (1 : Int32)), .val (.int (2 : Int32)), .val (.ref saO), .val (.ref as40)] [(.int (1 : Int32))])) _
        exact kZ
      refine Go.retNW (s := s) (vm₁ := T40.vm) X42 hx hS40 (by rw [e42]; exact hk40) Bd.notSynchronized (t := .boolean) Bd.returns (by simp) (hb hby at_74) (by decide) (by decide) ?_
      exact ⟨rfl, N42⟩
    · rw [hj]
      show Go p e below _ (s₁.setTop (mkF m 8 #[.val (.int p0), .val (.int p1), .val (.int (1 : Int32)), .val (.int (3 : Int32)), .unset, .unset] []))
      refine Go.via (T' := s₁.setTop (mkF m 9 #[.val (.int p0), .val (.int p1), .val (.int (1 : Int32)), .val (.int (3 : Int32)), .unset, .unset] [(.int (1 : Int32))])) (fun tZ kZ => ?_) ?_
      · show Steps p.tables e below (s₁.setTop (mkF m 8 #[.val (.int p0), .val (.int p1), .val (.int (1 : Int32)), .val (.int (3 : Int32)), .unset, .unset] [])) _
        refine XS.iloadN X0.here hx rfl (hb hby at_8) rfl ?_
        show Steps p.tables e below (s₁.setTop (mkF m 9 #[.val (.int p0), .val (.int p1), .val (.int (1 : Int32)), .val (.int (3 : Int32)), .unset, .unset] [(.int (1 : Int32))])) _
        exact kZ
      obtain ⟨_, _, ⟨T43, L43, k43, n43⟩, -, X43, ⟨Lc43, hQ43, l43, y43, z43⟩, st43⟩ := Jvm.LawKit.callS X0 hx (y := (⟨"com/example/paratitle/paratitle/titles/HeadingElementSeparatorAfterPinLaw", "pick", "(I)Lcom/example/paratitle/paratitle/titles/HeadingElement;"⟩ : MethodName)) hown (mvT hZ (hw _ (List.mem_of_getElem? (i := 0) rfl))) (mvT hZ (hw _ (List.mem_of_getElem? (i := 1) rfl))) (mvT hZ (hw _ (List.mem_of_getElem? (i := 2) rfl))) (mvT hZ (hw _ (List.mem_of_getElem? (i := 3) rfl))) (by decide) (backOf (W := 0) (rm1 l Z a0 hw [] (1 : Int32) aT aO aN aP h0 n0 Z0 (ha0.ext ha21.2) (ha1.ext ha21.2) (ha2.ext ha21.2) (ha3.ext ha21.2)) hZ (hw _ (List.mem_of_getElem? (i := 3) rfl)) (hw _ (List.mem_of_getElem? (i := 2) rfl)) (by decide) (by decide)) (g := (mkF m 9 #[.val (.int p0), .val (.int p1), .val (.int (1 : Int32)), .val (.int (3 : Int32)), .unset, .unset] [(.int (1 : Int32))])) rfl (by rw [hml]; rfl) (argsL := [(.int (1 : Int32))]) (rest := []) (lenOf pd_0 rfl) rfl (by show 2 * 0 + _ ≤ _; exact Nat.le_of_eq rfl) (hb hby at_9) (fun _ _ => ⟨rfl, e0, (by decide : 0 + 0 ≤ _), (by decide : 0 + 0 ≤ _)⟩)
      dsimp only [Pt.U, Pt.locs, Pt.cells, Pt.slots] at X43 l43 y43 z43 st43 hQ43
      subst l43 y43 z43
      obtain ⟨rfl, N43q, e43⟩ := hQ43
      rw [show (f1 (1 : Int32) aT aO aN aP) = Value.ref aO from rfl] at st43
      have N43 := Fr.app N0 N43q
      refine Go.via st43 ?_
      show Go p e below _ (T43.setTop (mkF m 12 #[.val (.int p0), .val (.int p1), .val (.int (1 : Int32)), .val (.int (3 : Int32)), .unset, .unset] [(.ref aO)]))
      refine Go.via (T' := T43.setTop (mkF m 13 #[.val (.int p0), .val (.int p1), .val (.int (1 : Int32)), .val (.int (3 : Int32)), .unset, .unset] [(.int (3 : Int32)), (.ref aO)])) (fun tZ kZ => ?_) ?_
      · show Steps p.tables e below (T43.setTop (mkF m 12 #[.val (.int p0), .val (.int p1), .val (.int (1 : Int32)), .val (.int (3 : Int32)), .unset, .unset] [(.ref aO)])) _
        refine XS.iloadN X43.here hx rfl (hb hby at_12) rfl ?_
        show Steps p.tables e below (T43.setTop (mkF m 13 #[.val (.int p0), .val (.int p1), .val (.int (1 : Int32)), .val (.int (3 : Int32)), .unset, .unset] [(.int (3 : Int32)), (.ref aO)])) _
        exact kZ
      obtain ⟨_, _, ⟨T44, L44, k44, n44⟩, -, X44, ⟨Lc44, hQ44, l44, y44, z44⟩, st44⟩ := Jvm.LawKit.callS X43 hx (y := (⟨"com/example/paratitle/paratitle/titles/HeadingElementSeparatorAfterPinLaw", "pick", "(I)Lcom/example/paratitle/paratitle/titles/HeadingElement;"⟩ : MethodName)) hown (mvT hZ (hw _ (List.mem_of_getElem? (i := 0) rfl))) (mvT hZ (hw _ (List.mem_of_getElem? (i := 1) rfl))) (mvT hZ (hw _ (List.mem_of_getElem? (i := 2) rfl))) (mvT hZ (hw _ (List.mem_of_getElem? (i := 3) rfl))) (by decide) (backOf (W := 1) (rm1 l Z a0 hw [] (3 : Int32) aT aO aN aP h0 n0 Z0 (ha0.ext ha21.2) (ha1.ext ha21.2) (ha2.ext ha21.2) (ha3.ext ha21.2)) hZ (hw _ (List.mem_of_getElem? (i := 3) rfl)) (hw _ (List.mem_of_getElem? (i := 2) rfl)) (by decide) (by decide)) (g := (mkF m 13 #[.val (.int p0), .val (.int p1), .val (.int (1 : Int32)), .val (.int (3 : Int32)), .unset, .unset] [(.int (3 : Int32)), (.ref aO)])) rfl (by rw [hml]; rfl) (argsL := [(.int (3 : Int32))]) (rest := [(.ref aO)]) (lenOf pd_0 rfl) rfl (by show 2 * 0 + _ ≤ _; exact Nat.le_of_eq rfl) (hb hby at_13) (fun _ _ => ⟨rfl, e43, (by decide : 0 + 0 + 0 ≤ _), (by decide : 0 + 0 + 0 ≤ _)⟩)
      dsimp only [Pt.U, Pt.locs, Pt.cells, Pt.slots] at X44 l44 y44 z44 st44 hQ44
      subst l44 y44 z44
      obtain ⟨rfl, N44q, e44⟩ := hQ44
      rw [show (f1 (3 : Int32) aT aO aN aP) = Value.ref aP from rfl] at st44
      have N44 := Fr.app N43 N44q
      refine Go.via st44 ?_
      show Go p e below _ (T44.setTop (mkF m 16 #[.val (.int p0), .val (.int p1), .val (.int (1 : Int32)), .val (.int (3 : Int32)), .unset, .unset] [(.ref aP), (.ref aO)]))
      obtain ⟨cq45, kq45, q45a, q45b, q45c⟩ := isOf hZ e44 ha5
      obtain ⟨_, _, ⟨T45, L45, k45, n45⟩, -, X45, ⟨Lc45, hQ45, l45, y45, z45⟩, st45⟩ := X44.virtualBack hx (y := (⟨"com/example/paratitle/paratitle/titles/HeadingElement", "separatorAfter", "(Lcom/example/paratitle/paratitle/titles/HeadingElement;)Ljava/lang/String;"⟩ : MethodName)) (z := (⟨"com/example/paratitle/paratitle/titles/HeadingElement", "separatorAfter", "(Lcom/example/paratitle/paratitle/titles/HeadingElement;)Ljava/lang/String;"⟩ : MethodName)) hown (mvT hZ (hw _ (List.mem_of_getElem? (i := 9) rfl))) (mvT hZ (hw _ (List.mem_of_getElem? (i := 10) rfl))) (notFace_of_selects (args := #[]) (mvT hZ (hw _ (List.mem_of_getElem? (i := 12) rfl)))) (mvT hZ (hw _ (List.mem_of_getElem? (i := 12) rfl))) (mvT hZ (hw _ (List.mem_of_getElem? (i := 11) rfl))) (by decide) (backOf (W := 0) (rm2i l Z a0 hw [] aO aP aP aN saO h0 n0 Z0 (ha3.ext ha21.2) (ha2.ext ha21.2) ha9 hne_aO_aP) hZ (hw _ (List.mem_of_getElem? (i := 13) rfl)) (hw _ (List.mem_of_getElem? (i := 5) rfl)) (by decide) (by decide)) q45a q45c (g := (mkF m 16 #[.val (.int p0), .val (.int p1), .val (.int (1 : Int32)), .val (.int (3 : Int32)), .unset, .unset] [(.ref aP), (.ref aO)])) rfl (by rw [hml]; rfl) (Steps.refl _) (argsL := [(.ref aP)]) (rest := []) (lenOf pd_1 rfl) rfl (by show 2 * 0 + _ ≤ _; exact Nat.le_of_eq rfl) (hb hby at_16) (fun _ _ => ⟨rfl, e44, (by decide : 0 + 0 + 0 + 0 ≤ _), (by decide : 0 + 0 + 0 + 0 ≤ _)⟩)
      dsimp only [Pt.U, Pt.locs, Pt.cells, Pt.slots] at X45 l45 y45 z45 st45 hQ45
      subst l45 y45 z45
      obtain ⟨rfl, N45q, e45⟩ := hQ45
      have N45 := Fr.app N44 N45q
      refine Go.via (fun t k => st45.trans k) ?_
      show Go p e below _ (T45.setTop (mkF m 19 #[.val (.int p0), .val (.int p1), .val (.int (1 : Int32)), .val (.int (3 : Int32)), .unset, .unset] [(.ref saO)]))
      refine Go.via (T' := T45.setTop (mkF m 26 #[.val (.int p0), .val (.int p1), .val (.int (1 : Int32)), .val (.int (3 : Int32)), .val (.ref saO), .unset] [])) (fun tZ kZ => ?_) ?_
      · show Steps p.tables e below (T45.setTop (mkF m 19 #[.val (.int p0), .val (.int p1), .val (.int (1 : Int32)), .val (.int (3 : Int32)), .unset, .unset] [(.ref saO)])) _
        refine XS.astore X45.here hx rfl (hb hby at_19) rfl rfl (l' := #[.val (.int p0), .val (.int p1), .val (.int (1 : Int32)), .val (.int (3 : Int32)), .val (.ref saO), .unset]) rfl ?_
        show Steps p.tables e below (T45.setTop (mkF m 21 #[.val (.int p0), .val (.int p1), .val (.int (1 : Int32)), .val (.int (3 : Int32)), .val (.ref saO), .unset] [])) _
        refine XS.iloadN X45.here hx rfl (hb hby at_21) rfl ?_
        show Steps p.tables e below (T45.setTop (mkF m 22 #[.val (.int p0), .val (.int p1), .val (.int (1 : Int32)), .val (.int (3 : Int32)), .val (.ref saO), .unset] [(.int (1 : Int32))])) _
        refine XS.iconst X45.here hx rfl (hb hby at_22) ?_
        show Steps p.tables e below (T45.setTop (mkF m 23 #[.val (.int p0), .val (.int p1), .val (.int (1 : Int32)), .val (.int (3 : Int32)), .val (.ref saO), .unset] [(.int (1 : Int32)), (.int (1 : Int32))])) _
        refine XS.icmpNo X45.here hx rfl (hb hby at_23) rfl (teq (by decide)).2 ?_
        show Steps p.tables e below (T45.setTop (mkF m 26 #[.val (.int p0), .val (.int p1), .val (.int (1 : Int32)), .val (.int (3 : Int32)), .val (.ref saO), .unset] [])) _
        exact kZ
      obtain ⟨as46, T46, h46, kk46, ab46, kc46, X46, e46, E46, hS46, hk46, hZ, hown, Ea46, Fc46, Fv46, Ar46, -, -, CR46, -, -, st46⟩ := ldcCH (s := s) (vm0 := s.vm) (EL := own_EL) X45 hx hZ hown (hw _ (List.mem_of_getElem? (i := 43) rfl)) wS e45 hS0 (Nat.zero_le _) (own_EW hw) (by simp [own_EL]) hCH (vs := [32, 58, 32].map Value.int) (z := 3) ⟨by decide, by decide +kernel⟩ (by decide) rfl (g := (mkF m 26 #[.val (.int p0), .val (.int p1), .val (.int (1 : Int32)), .val (.int (3 : Int32)), .val (.ref saO), .unset] [])) rfl (hb hby at_26) (n := 64) (by decide) (by decide) (by decide) (by decide)
      have c47_21 := ha21.ext E46
      have c47_0 := ha0.ext c47_21.2
      have c47_1 := ha1.ext c47_21.2
      have c47_2 := ha2.ext c47_21.2
      have c47_3 := ha3.ext c47_21.2
      have c47_4 := ha4.ext E46
      have c47_5 := ha5.ext E46
      have c47_6 := ha6.ext E46
      have c47_7 := ha7.ext E46
      have c47_8 := ha8.ext E46
      have c47_9 := ha9.ext E46
      have c47_10 := ha10.ext E46
      have c47_11 := ha11.ext E46
      have c47_12 := ha12.ext E46
      have c47_13 := ha13.ext E46
      have c47_14 := ha14.ext E46
      have c47_15 := ha15.ext E46
      have c47_16 := ha16.ext E46
      have c47_17 := ha17.ext E46
      have c47_18 := ha18.ext E46
      have c47_19 := ha19.ext E46
      have c47_20 := ha20.ext c47_21.2
      have Va46 := AV.ofArv Ar46 (n := 3) rfl (by decide)
      have K46 : Keep h0 h46 [] := (Keep.refl h0 []).ext E46
      have Z46 : n0 ≤ h46.size := Nat.le_trans Z0 E46.1
      refine Go.via st46 ?_
      show Go p e below _ (T46.setTop (mkF m 28 #[.val (.int p0), .val (.int p1), .val (.int (1 : Int32)), .val (.int (3 : Int32)), .val (.ref saO), .unset] [(.ref as46)]))
      refine Go.via (T' := T46.setTop (mkF m 63 #[.val (.int p0), .val (.int p1), .val (.int (1 : Int32)), .val (.int (3 : Int32)), .val (.ref saO), .val (.ref as46)] [(.ref as46), (.ref saO)])) (fun tZ kZ => ?_) ?_
      · show Steps p.tables e below (T46.setTop (mkF m 28 #[.val (.int p0), .val (.int p1), .val (.int (1 : Int32)), .val (.int (3 : Int32)), .val (.ref saO), .unset] [(.ref as46)])) _
        refine XS.astore X46.here hx rfl (hb hby at_28) rfl rfl (l' := #[.val (.int p0), .val (.int p1), .val (.int (1 : Int32)), .val (.int (3 : Int32)), .val (.ref saO), .val (.ref as46)]) rfl ?_
        show Steps p.tables e below (T46.setTop (mkF m 30 #[.val (.int p0), .val (.int p1), .val (.int (1 : Int32)), .val (.int (3 : Int32)), .val (.ref saO), .val (.ref as46)] [])) _
        refine XS.goto X46.here hx rfl (pc0 := 30) (pc' := 54) rfl (hb hby at_30) (by decide) (by decide) ?_
        show Steps p.tables e below (T46.setTop (mkF m 54 #[.val (.int p0), .val (.int p1), .val (.int (1 : Int32)), .val (.int (3 : Int32)), .val (.ref saO), .val (.ref as46)] [])) _
        refine XS.aload X46.here hx rfl (hb hby at_54) rfl rfl ?_
        show Steps p.tables e below (T46.setTop (mkF m 56 #[.val (.int p0), .val (.int p1), .val (.int (1 : Int32)), .val (.int (3 : Int32)), .val (.ref saO), .val (.ref as46)] [(.ref saO)])) _
        refine XS.ifnullNo X46.here hx rfl (hb hby at_56) rfl ?_
        show Steps p.tables e below (T46.setTop (mkF m 59 #[.val (.int p0), .val (.int p1), .val (.int (1 : Int32)), .val (.int (3 : Int32)), .val (.ref saO), .val (.ref as46)] [])) _
        refine XS.aload X46.here hx rfl (hb hby at_59) rfl rfl ?_
        show Steps p.tables e below (T46.setTop (mkF m 61 #[.val (.int p0), .val (.int p1), .val (.int (1 : Int32)), .val (.int (3 : Int32)), .val (.ref saO), .val (.ref as46)] [(.ref saO)])) _
        refine XS.aload X46.here hx rfl (hb hby at_61) rfl rfl ?_
        show Steps p.tables e below (T46.setTop (mkF m 63 #[.val (.int p0), .val (.int p1), .val (.int (1 : Int32)), .val (.int (3 : Int32)), .val (.ref saO), .val (.ref as46)] [(.ref as46), (.ref saO)])) _
        exact kZ
      obtain ⟨cq48, kq48, q48a, q48b, q48c⟩ := isOf hZ e46 c47_16
      obtain ⟨_, _, ⟨T48, L48, k48, n48⟩, -, X48, ⟨Lc48, hQ48, l48, y48, z48⟩, st48⟩ := X46.virtualBack hx (y := (⟨"java/lang/String", "equals", "(Ljava/lang/Object;)Z"⟩ : MethodName)) (z := (⟨"java/lang/String", "equals", "(Ljava/lang/Object;)Z"⟩ : MethodName)) hown (mvT hZ (hw _ (List.mem_of_getElem? (i := 25) rfl))) (mvT hZ (hw _ (List.mem_of_getElem? (i := 26) rfl))) (notFace_of_selects (args := #[]) (mvT hZ (hw _ (List.mem_of_getElem? (i := 28) rfl)))) (mvT hZ (hw _ (List.mem_of_getElem? (i := 28) rfl))) (mvT hZ (hw _ (List.mem_of_getElem? (i := 27) rfl))) (by decide) (backOf (W := 0) (rm3n3 l Z a0 hw [] saO as46 baO ab46 (own_t [32, 58, 32]) cs h46 n0 Z46 Ea46 c47_17 Fc46 c47_18 Fv46 c47_19 Va46 c47_20 hcs) hZ (hw _ (List.mem_of_getElem? (i := 29) rfl)) (hw _ (List.mem_of_getElem? (i := 18) rfl)) (by decide) (by decide)) q48a q48c (g := (mkF m 63 #[.val (.int p0), .val (.int p1), .val (.int (1 : Int32)), .val (.int (3 : Int32)), .val (.ref saO), .val (.ref as46)] [(.ref as46), (.ref saO)])) rfl (by rw [hml]; rfl) (Steps.refl _) (argsL := [(.ref as46)]) (rest := []) (lenOf pd_2 rfl) rfl (by show 2 * 0 + _ ≤ _; exact Nat.le_of_eq rfl) (hb hby at_63) (fun _ _ => ⟨rfl, e46, (by decide : 0 + 0 + 0 + 0 + 2 + 0 ≤ _), (by decide : 0 + 0 + 0 + 0 + (64 + 4) + 0 ≤ _)⟩)
      dsimp only [Pt.U, Pt.locs, Pt.cells, Pt.slots] at X48 l48 y48 z48 st48 hQ48
      subst l48 y48 z48
      obtain ⟨rfl, N48q, e48⟩ := hQ48
      have N48 := Fr.app N45 N48q
      refine Go.via (fun t k => st48.trans k) ?_
      show Go p e below _ (T48.setTop (mkF m 66 #[.val (.int p0), .val (.int p1), .val (.int (1 : Int32)), .val (.int (3 : Int32)), .val (.ref saO), .val (.ref as46)] [(.int (f3n3 saO as46 baO ab46 (own_t [32, 58, 32]) cs))]))
      refine Go.via (T' := T48.setTop (mkF m 74 #[.val (.int p0), .val (.int p1), .val (.int (1 : Int32)), .val (.int (3 : Int32)), .val (.ref saO), .val (.ref as46)] [(.int (1 : Int32))])) (fun tZ kZ => ?_) ?_
      · show Steps p.tables e below (T48.setTop (mkF m 66 #[.val (.int p0), .val (.int p1), .val (.int (1 : Int32)), .val (.int (3 : Int32)), .val (.ref saO), .val (.ref as46)] [(.int (f3n3 saO as46 baO ab46 (own_t [32, 58, 32]) cs))])) _
        refine XS.ifNo X48.here hx rfl (hb hby at_66) rfl ((if0 _ _).trans (feq (by rw [own_eq3]; decide)).1) ?_
        show Steps p.tables e below (T48.setTop (mkF m 69 #[.val (.int p0), .val (.int p1), .val (.int (1 : Int32)), .val (.int (3 : Int32)), .val (.ref saO), .val (.ref as46)] [])) _
        refine XS.iconst X48.here hx rfl (hb hby at_69) ?_
        show Steps p.tables e below (T48.setTop (mkF m 70 #[.val (.int p0), .val (.int p1), .val (.int (1 : Int32)), .val (.int (3 : Int32)), .val (.ref saO), .val (.ref as46)] [(.int (1 : Int32))])) _
        refine XS.goto X48.here hx rfl (pc0 := 70) (pc' := 74) rfl (hb hby at_70) (by decide) (by decide) ?_
        show Steps p.tables e below (T48.setTop (mkF m 74 #[.val (.int p0), .val (.int p1), .val (.int (1 : Int32)), .val (.int (3 : Int32)), .val (.ref saO), .val (.ref as46)] [(.int (1 : Int32))])) _
        exact kZ
      refine Go.retNW (s := s) (vm₁ := T46.vm) X48 hx hS46 (by rw [e48]; exact hk46) Bd.notSynchronized (t := .boolean) Bd.returns (by simp) (hb hby at_74) (by decide) (by decide) ?_
      exact ⟨rfl, N48⟩
  · rw [hi]
    rcases own_and3 p1 with hj | hj | hj | hj
    · rw [hj]
      show Go p e below _ (s₁.setTop (mkF m 8 #[.val (.int p0), .val (.int p1), .val (.int (2 : Int32)), .val (.int (0 : Int32)), .unset, .unset] []))
      refine Go.via (T' := s₁.setTop (mkF m 9 #[.val (.int p0), .val (.int p1), .val (.int (2 : Int32)), .val (.int (0 : Int32)), .unset, .unset] [(.int (2 : Int32))])) (fun tZ kZ => ?_) ?_
      · show Steps p.tables e below (s₁.setTop (mkF m 8 #[.val (.int p0), .val (.int p1), .val (.int (2 : Int32)), .val (.int (0 : Int32)), .unset, .unset] [])) _
        refine XS.iloadN X0.here hx rfl (hb hby at_8) rfl ?_
        show Steps p.tables e below (s₁.setTop (mkF m 9 #[.val (.int p0), .val (.int p1), .val (.int (2 : Int32)), .val (.int (0 : Int32)), .unset, .unset] [(.int (2 : Int32))])) _
        exact kZ
      obtain ⟨_, _, ⟨T49, L49, k49, n49⟩, -, X49, ⟨Lc49, hQ49, l49, y49, z49⟩, st49⟩ := Jvm.LawKit.callS X0 hx (y := (⟨"com/example/paratitle/paratitle/titles/HeadingElementSeparatorAfterPinLaw", "pick", "(I)Lcom/example/paratitle/paratitle/titles/HeadingElement;"⟩ : MethodName)) hown (mvT hZ (hw _ (List.mem_of_getElem? (i := 0) rfl))) (mvT hZ (hw _ (List.mem_of_getElem? (i := 1) rfl))) (mvT hZ (hw _ (List.mem_of_getElem? (i := 2) rfl))) (mvT hZ (hw _ (List.mem_of_getElem? (i := 3) rfl))) (by decide) (backOf (W := 0) (rm1 l Z a0 hw [] (2 : Int32) aT aO aN aP h0 n0 Z0 (ha0.ext ha21.2) (ha1.ext ha21.2) (ha2.ext ha21.2) (ha3.ext ha21.2)) hZ (hw _ (List.mem_of_getElem? (i := 3) rfl)) (hw _ (List.mem_of_getElem? (i := 2) rfl)) (by decide) (by decide)) (g := (mkF m 9 #[.val (.int p0), .val (.int p1), .val (.int (2 : Int32)), .val (.int (0 : Int32)), .unset, .unset] [(.int (2 : Int32))])) rfl (by rw [hml]; rfl) (argsL := [(.int (2 : Int32))]) (rest := []) (lenOf pd_0 rfl) rfl (by show 2 * 0 + _ ≤ _; exact Nat.le_of_eq rfl) (hb hby at_9) (fun _ _ => ⟨rfl, e0, (by decide : 0 + 0 ≤ _), (by decide : 0 + 0 ≤ _)⟩)
      dsimp only [Pt.U, Pt.locs, Pt.cells, Pt.slots] at X49 l49 y49 z49 st49 hQ49
      subst l49 y49 z49
      obtain ⟨rfl, N49q, e49⟩ := hQ49
      rw [show (f1 (2 : Int32) aT aO aN aP) = Value.ref aN from rfl] at st49
      have N49 := Fr.app N0 N49q
      refine Go.via st49 ?_
      show Go p e below _ (T49.setTop (mkF m 12 #[.val (.int p0), .val (.int p1), .val (.int (2 : Int32)), .val (.int (0 : Int32)), .unset, .unset] [(.ref aN)]))
      refine Go.via (T' := T49.setTop (mkF m 13 #[.val (.int p0), .val (.int p1), .val (.int (2 : Int32)), .val (.int (0 : Int32)), .unset, .unset] [(.int (0 : Int32)), (.ref aN)])) (fun tZ kZ => ?_) ?_
      · show Steps p.tables e below (T49.setTop (mkF m 12 #[.val (.int p0), .val (.int p1), .val (.int (2 : Int32)), .val (.int (0 : Int32)), .unset, .unset] [(.ref aN)])) _
        refine XS.iloadN X49.here hx rfl (hb hby at_12) rfl ?_
        show Steps p.tables e below (T49.setTop (mkF m 13 #[.val (.int p0), .val (.int p1), .val (.int (2 : Int32)), .val (.int (0 : Int32)), .unset, .unset] [(.int (0 : Int32)), (.ref aN)])) _
        exact kZ
      obtain ⟨_, _, ⟨T50, L50, k50, n50⟩, -, X50, ⟨Lc50, hQ50, l50, y50, z50⟩, st50⟩ := Jvm.LawKit.callS X49 hx (y := (⟨"com/example/paratitle/paratitle/titles/HeadingElementSeparatorAfterPinLaw", "pick", "(I)Lcom/example/paratitle/paratitle/titles/HeadingElement;"⟩ : MethodName)) hown (mvT hZ (hw _ (List.mem_of_getElem? (i := 0) rfl))) (mvT hZ (hw _ (List.mem_of_getElem? (i := 1) rfl))) (mvT hZ (hw _ (List.mem_of_getElem? (i := 2) rfl))) (mvT hZ (hw _ (List.mem_of_getElem? (i := 3) rfl))) (by decide) (backOf (W := 1) (rm1 l Z a0 hw [] (0 : Int32) aT aO aN aP h0 n0 Z0 (ha0.ext ha21.2) (ha1.ext ha21.2) (ha2.ext ha21.2) (ha3.ext ha21.2)) hZ (hw _ (List.mem_of_getElem? (i := 3) rfl)) (hw _ (List.mem_of_getElem? (i := 2) rfl)) (by decide) (by decide)) (g := (mkF m 13 #[.val (.int p0), .val (.int p1), .val (.int (2 : Int32)), .val (.int (0 : Int32)), .unset, .unset] [(.int (0 : Int32)), (.ref aN)])) rfl (by rw [hml]; rfl) (argsL := [(.int (0 : Int32))]) (rest := [(.ref aN)]) (lenOf pd_0 rfl) rfl (by show 2 * 0 + _ ≤ _; exact Nat.le_of_eq rfl) (hb hby at_13) (fun _ _ => ⟨rfl, e49, (by decide : 0 + 0 + 0 ≤ _), (by decide : 0 + 0 + 0 ≤ _)⟩)
      dsimp only [Pt.U, Pt.locs, Pt.cells, Pt.slots] at X50 l50 y50 z50 st50 hQ50
      subst l50 y50 z50
      obtain ⟨rfl, N50q, e50⟩ := hQ50
      rw [show (f1 (0 : Int32) aT aO aN aP) = Value.ref aT from rfl] at st50
      have N50 := Fr.app N49 N50q
      refine Go.via st50 ?_
      show Go p e below _ (T50.setTop (mkF m 16 #[.val (.int p0), .val (.int p1), .val (.int (2 : Int32)), .val (.int (0 : Int32)), .unset, .unset] [(.ref aT), (.ref aN)]))
      obtain ⟨cq51, kq51, q51a, q51b, q51c⟩ := isOf hZ e50 ha6
      obtain ⟨_, _, ⟨T51, L51, k51, n51⟩, -, X51, ⟨Lc51, hQ51, l51, y51, z51⟩, st51⟩ := X50.virtualBack hx (y := (⟨"com/example/paratitle/paratitle/titles/HeadingElement", "separatorAfter", "(Lcom/example/paratitle/paratitle/titles/HeadingElement;)Ljava/lang/String;"⟩ : MethodName)) (z := (⟨"com/example/paratitle/paratitle/titles/HeadingElement", "separatorAfter", "(Lcom/example/paratitle/paratitle/titles/HeadingElement;)Ljava/lang/String;"⟩ : MethodName)) hown (mvT hZ (hw _ (List.mem_of_getElem? (i := 9) rfl))) (mvT hZ (hw _ (List.mem_of_getElem? (i := 10) rfl))) (notFace_of_selects (args := #[]) (mvT hZ (hw _ (List.mem_of_getElem? (i := 12) rfl)))) (mvT hZ (hw _ (List.mem_of_getElem? (i := 12) rfl))) (mvT hZ (hw _ (List.mem_of_getElem? (i := 11) rfl))) (by decide) (backOf (W := 0) (rm2i l Z a0 hw [] aN aT aP aN saT h0 n0 Z0 (ha3.ext ha21.2) (ha2.ext ha21.2) ha10 hne_aN_aP) hZ (hw _ (List.mem_of_getElem? (i := 13) rfl)) (hw _ (List.mem_of_getElem? (i := 5) rfl)) (by decide) (by decide)) q51a q51c (g := (mkF m 16 #[.val (.int p0), .val (.int p1), .val (.int (2 : Int32)), .val (.int (0 : Int32)), .unset, .unset] [(.ref aT), (.ref aN)])) rfl (by rw [hml]; rfl) (Steps.refl _) (argsL := [(.ref aT)]) (rest := []) (lenOf pd_1 rfl) rfl (by show 2 * 0 + _ ≤ _; exact Nat.le_of_eq rfl) (hb hby at_16) (fun _ _ => ⟨rfl, e50, (by decide : 0 + 0 + 0 + 0 ≤ _), (by decide : 0 + 0 + 0 + 0 ≤ _)⟩)
      dsimp only [Pt.U, Pt.locs, Pt.cells, Pt.slots] at X51 l51 y51 z51 st51 hQ51
      subst l51 y51 z51
      obtain ⟨rfl, N51q, e51⟩ := hQ51
      have N51 := Fr.app N50 N51q
      refine Go.via (fun t k => st51.trans k) ?_
      show Go p e below _ (T51.setTop (mkF m 19 #[.val (.int p0), .val (.int p1), .val (.int (2 : Int32)), .val (.int (0 : Int32)), .unset, .unset] [(.ref saT)]))
      refine Go.via (T' := T51.setTop (mkF m 50 #[.val (.int p0), .val (.int p1), .val (.int (2 : Int32)), .val (.int (0 : Int32)), .val (.ref saT), .unset] [])) (fun tZ kZ => ?_) ?_
      · show Steps p.tables e below (T51.setTop (mkF m 19 #[.val (.int p0), .val (.int p1), .val (.int (2 : Int32)), .val (.int (0 : Int32)), .unset, .unset] [(.ref saT)])) _
        refine XS.astore X51.here hx rfl (hb hby at_19) rfl rfl (l' := #[.val (.int p0), .val (.int p1), .val (.int (2 : Int32)), .val (.int (0 : Int32)), .val (.ref saT), .unset]) rfl ?_
        show Steps p.tables e below (T51.setTop (mkF m 21 #[.val (.int p0), .val (.int p1), .val (.int (2 : Int32)), .val (.int (0 : Int32)), .val (.ref saT), .unset] [])) _
        refine XS.iloadN X51.here hx rfl (hb hby at_21) rfl ?_
        show Steps p.tables e below (T51.setTop (mkF m 22 #[.val (.int p0), .val (.int p1), .val (.int (2 : Int32)), .val (.int (0 : Int32)), .val (.ref saT), .unset] [(.int (2 : Int32))])) _
        refine XS.iconst X51.here hx rfl (hb hby at_22) ?_
        show Steps p.tables e below (T51.setTop (mkF m 23 #[.val (.int p0), .val (.int p1), .val (.int (2 : Int32)), .val (.int (0 : Int32)), .val (.ref saT), .unset] [(.int (1 : Int32)), (.int (2 : Int32))])) _
        refine XS.icmpYes X51.here hx rfl (pc0 := 23) (pc' := 33) rfl (hb hby at_23) rfl (feq (by decide)).2 (by decide) (by decide) ?_
        show Steps p.tables e below (T51.setTop (mkF m 33 #[.val (.int p0), .val (.int p1), .val (.int (2 : Int32)), .val (.int (0 : Int32)), .val (.ref saT), .unset] [])) _
        refine XS.iloadN X51.here hx rfl (hb hby at_33) rfl ?_
        show Steps p.tables e below (T51.setTop (mkF m 34 #[.val (.int p0), .val (.int p1), .val (.int (2 : Int32)), .val (.int (0 : Int32)), .val (.ref saT), .unset] [(.int (2 : Int32))])) _
        refine XS.iconst X51.here hx rfl (hb hby at_34) ?_
        show Steps p.tables e below (T51.setTop (mkF m 35 #[.val (.int p0), .val (.int p1), .val (.int (2 : Int32)), .val (.int (0 : Int32)), .val (.ref saT), .unset] [(.int (3 : Int32)), (.int (2 : Int32))])) _
        refine XS.icmpYes X51.here hx rfl (pc0 := 35) (pc' := 50) rfl (hb hby at_35) rfl (feq (by decide)).2 (by decide) (by decide) ?_
        show Steps p.tables e below (T51.setTop (mkF m 50 #[.val (.int p0), .val (.int p1), .val (.int (2 : Int32)), .val (.int (0 : Int32)), .val (.ref saT), .unset] [])) _
        exact kZ
      obtain ⟨as52, T52, h52, kk52, ab52, kc52, X52, e52, E52, hS52, hk52, hZ, hown, Ea52, Fc52, Fv52, Ar52, -, -, CR52, -, -, st52⟩ := ldcCH (s := s) (vm0 := s.vm) (EL := own_EL) X51 hx hZ hown (hw _ (List.mem_of_getElem? (i := 17) rfl)) wS e51 hS0 (Nat.zero_le _) (own_EW hw) (by simp [own_EL]) hCH (vs := [46, 32].map Value.int) (z := 2) ⟨by decide, by decide +kernel⟩ (by decide) rfl (g := (mkF m 50 #[.val (.int p0), .val (.int p1), .val (.int (2 : Int32)), .val (.int (0 : Int32)), .val (.ref saT), .unset] [])) rfl (hb hby at_50) (n := 64) (by decide) (by decide) (by decide) (by decide)
      have c53_21 := ha21.ext E52
      have c53_0 := ha0.ext c53_21.2
      have c53_1 := ha1.ext c53_21.2
      have c53_2 := ha2.ext c53_21.2
      have c53_3 := ha3.ext c53_21.2
      have c53_4 := ha4.ext E52
      have c53_5 := ha5.ext E52
      have c53_6 := ha6.ext E52
      have c53_7 := ha7.ext E52
      have c53_8 := ha8.ext E52
      have c53_9 := ha9.ext E52
      have c53_10 := ha10.ext E52
      have c53_11 := ha11.ext E52
      have c53_12 := ha12.ext E52
      have c53_13 := ha13.ext E52
      have c53_14 := ha14.ext E52
      have c53_15 := ha15.ext E52
      have c53_16 := ha16.ext E52
      have c53_17 := ha17.ext E52
      have c53_18 := ha18.ext E52
      have c53_19 := ha19.ext E52
      have c53_20 := ha20.ext c53_21.2
      have Va52 := AV.ofArv Ar52 (n := 2) rfl (by decide)
      have K52 : Keep h0 h52 [] := (Keep.refl h0 []).ext E52
      have Z52 : n0 ≤ h52.size := Nat.le_trans Z0 E52.1
      refine Go.via st52 ?_
      show Go p e below _ (T52.setTop (mkF m 52 #[.val (.int p0), .val (.int p1), .val (.int (2 : Int32)), .val (.int (0 : Int32)), .val (.ref saT), .unset] [(.ref as52)]))
      refine Go.via (T' := T52.setTop (mkF m 63 #[.val (.int p0), .val (.int p1), .val (.int (2 : Int32)), .val (.int (0 : Int32)), .val (.ref saT), .val (.ref as52)] [(.ref as52), (.ref saT)])) (fun tZ kZ => ?_) ?_
      · show Steps p.tables e below (T52.setTop (mkF m 52 #[.val (.int p0), .val (.int p1), .val (.int (2 : Int32)), .val (.int (0 : Int32)), .val (.ref saT), .unset] [(.ref as52)])) _
        refine XS.astore X52.here hx rfl (hb hby at_52) rfl rfl (l' := #[.val (.int p0), .val (.int p1), .val (.int (2 : Int32)), .val (.int (0 : Int32)), .val (.ref saT), .val (.ref as52)]) rfl ?_
        show Steps p.tables e below (T52.setTop (mkF m 54 #[.val (.int p0), .val (.int p1), .val (.int (2 : Int32)), .val (.int (0 : Int32)), .val (.ref saT), .val (.ref as52)] [])) _
        refine XS.aload X52.here hx rfl (hb hby at_54) rfl rfl ?_
        show Steps p.tables e below (T52.setTop (mkF m 56 #[.val (.int p0), .val (.int p1), .val (.int (2 : Int32)), .val (.int (0 : Int32)), .val (.ref saT), .val (.ref as52)] [(.ref saT)])) _
        refine XS.ifnullNo X52.here hx rfl (hb hby at_56) rfl ?_
        show Steps p.tables e below (T52.setTop (mkF m 59 #[.val (.int p0), .val (.int p1), .val (.int (2 : Int32)), .val (.int (0 : Int32)), .val (.ref saT), .val (.ref as52)] [])) _
        refine XS.aload X52.here hx rfl (hb hby at_59) rfl rfl ?_
        show Steps p.tables e below (T52.setTop (mkF m 61 #[.val (.int p0), .val (.int p1), .val (.int (2 : Int32)), .val (.int (0 : Int32)), .val (.ref saT), .val (.ref as52)] [(.ref saT)])) _
        refine XS.aload X52.here hx rfl (hb hby at_61) rfl rfl ?_
        show Steps p.tables e below (T52.setTop (mkF m 63 #[.val (.int p0), .val (.int p1), .val (.int (2 : Int32)), .val (.int (0 : Int32)), .val (.ref saT), .val (.ref as52)] [(.ref as52), (.ref saT)])) _
        exact kZ
      obtain ⟨cq54, kq54, q54a, q54b, q54c⟩ := isOf hZ e52 c53_12
      obtain ⟨_, _, ⟨T54, L54, k54, n54⟩, -, X54, ⟨Lc54, hQ54, l54, y54, z54⟩, st54⟩ := X52.virtualBack hx (y := (⟨"java/lang/String", "equals", "(Ljava/lang/Object;)Z"⟩ : MethodName)) (z := (⟨"java/lang/String", "equals", "(Ljava/lang/Object;)Z"⟩ : MethodName)) hown (mvT hZ (hw _ (List.mem_of_getElem? (i := 25) rfl))) (mvT hZ (hw _ (List.mem_of_getElem? (i := 26) rfl))) (notFace_of_selects (args := #[]) (mvT hZ (hw _ (List.mem_of_getElem? (i := 28) rfl)))) (mvT hZ (hw _ (List.mem_of_getElem? (i := 28) rfl))) (mvT hZ (hw _ (List.mem_of_getElem? (i := 27) rfl))) (by decide) (backOf (W := 0) (rm3n2 l Z a0 hw [] saT as52 baT ab52 (own_t [46, 32]) cs h52 n0 Z52 Ea52 c53_13 Fc52 c53_14 Fv52 c53_15 Va52 c53_20 hcs) hZ (hw _ (List.mem_of_getElem? (i := 29) rfl)) (hw _ (List.mem_of_getElem? (i := 18) rfl)) (by decide) (by decide)) q54a q54c (g := (mkF m 63 #[.val (.int p0), .val (.int p1), .val (.int (2 : Int32)), .val (.int (0 : Int32)), .val (.ref saT), .val (.ref as52)] [(.ref as52), (.ref saT)])) rfl (by rw [hml]; rfl) (Steps.refl _) (argsL := [(.ref as52)]) (rest := []) (lenOf pd_2 rfl) rfl (by show 2 * 0 + _ ≤ _; exact Nat.le_of_eq rfl) (hb hby at_63) (fun _ _ => ⟨rfl, e52, (by decide : 0 + 0 + 0 + 0 + 2 + 0 ≤ _), (by decide : 0 + 0 + 0 + 0 + (64 + 4) + 0 ≤ _)⟩)
      dsimp only [Pt.U, Pt.locs, Pt.cells, Pt.slots] at X54 l54 y54 z54 st54 hQ54
      subst l54 y54 z54
      obtain ⟨rfl, N54q, e54⟩ := hQ54
      have N54 := Fr.app N51 N54q
      refine Go.via (fun t k => st54.trans k) ?_
      show Go p e below _ (T54.setTop (mkF m 66 #[.val (.int p0), .val (.int p1), .val (.int (2 : Int32)), .val (.int (0 : Int32)), .val (.ref saT), .val (.ref as52)] [(.int (f3n2 saT as52 baT ab52 (own_t [46, 32]) cs))]))
      refine Go.via (T' := T54.setTop (mkF m 74 #[.val (.int p0), .val (.int p1), .val (.int (2 : Int32)), .val (.int (0 : Int32)), .val (.ref saT), .val (.ref as52)] [(.int (1 : Int32))])) (fun tZ kZ => ?_) ?_
      · show Steps p.tables e below (T54.setTop (mkF m 66 #[.val (.int p0), .val (.int p1), .val (.int (2 : Int32)), .val (.int (0 : Int32)), .val (.ref saT), .val (.ref as52)] [(.int (f3n2 saT as52 baT ab52 (own_t [46, 32]) cs))])) _
        refine XS.ifNo X54.here hx rfl (hb hby at_66) rfl ((if0 _ _).trans (feq (by rw [own_eq2]; decide)).1) ?_
        show Steps p.tables e below (T54.setTop (mkF m 69 #[.val (.int p0), .val (.int p1), .val (.int (2 : Int32)), .val (.int (0 : Int32)), .val (.ref saT), .val (.ref as52)] [])) _
        refine XS.iconst X54.here hx rfl (hb hby at_69) ?_
        show Steps p.tables e below (T54.setTop (mkF m 70 #[.val (.int p0), .val (.int p1), .val (.int (2 : Int32)), .val (.int (0 : Int32)), .val (.ref saT), .val (.ref as52)] [(.int (1 : Int32))])) _
        refine XS.goto X54.here hx rfl (pc0 := 70) (pc' := 74) rfl (hb hby at_70) (by decide) (by decide) ?_
        show Steps p.tables e below (T54.setTop (mkF m 74 #[.val (.int p0), .val (.int p1), .val (.int (2 : Int32)), .val (.int (0 : Int32)), .val (.ref saT), .val (.ref as52)] [(.int (1 : Int32))])) _
        exact kZ
      refine Go.retNW (s := s) (vm₁ := T52.vm) X54 hx hS52 (by rw [e54]; exact hk52) Bd.notSynchronized (t := .boolean) Bd.returns (by simp) (hb hby at_74) (by decide) (by decide) ?_
      exact ⟨rfl, N54⟩
    · rw [hj]
      show Go p e below _ (s₁.setTop (mkF m 8 #[.val (.int p0), .val (.int p1), .val (.int (2 : Int32)), .val (.int (1 : Int32)), .unset, .unset] []))
      refine Go.via (T' := s₁.setTop (mkF m 9 #[.val (.int p0), .val (.int p1), .val (.int (2 : Int32)), .val (.int (1 : Int32)), .unset, .unset] [(.int (2 : Int32))])) (fun tZ kZ => ?_) ?_
      · show Steps p.tables e below (s₁.setTop (mkF m 8 #[.val (.int p0), .val (.int p1), .val (.int (2 : Int32)), .val (.int (1 : Int32)), .unset, .unset] [])) _
        refine XS.iloadN X0.here hx rfl (hb hby at_8) rfl ?_
        show Steps p.tables e below (s₁.setTop (mkF m 9 #[.val (.int p0), .val (.int p1), .val (.int (2 : Int32)), .val (.int (1 : Int32)), .unset, .unset] [(.int (2 : Int32))])) _
        exact kZ
      obtain ⟨_, _, ⟨T55, L55, k55, n55⟩, -, X55, ⟨Lc55, hQ55, l55, y55, z55⟩, st55⟩ := Jvm.LawKit.callS X0 hx (y := (⟨"com/example/paratitle/paratitle/titles/HeadingElementSeparatorAfterPinLaw", "pick", "(I)Lcom/example/paratitle/paratitle/titles/HeadingElement;"⟩ : MethodName)) hown (mvT hZ (hw _ (List.mem_of_getElem? (i := 0) rfl))) (mvT hZ (hw _ (List.mem_of_getElem? (i := 1) rfl))) (mvT hZ (hw _ (List.mem_of_getElem? (i := 2) rfl))) (mvT hZ (hw _ (List.mem_of_getElem? (i := 3) rfl))) (by decide) (backOf (W := 0) (rm1 l Z a0 hw [] (2 : Int32) aT aO aN aP h0 n0 Z0 (ha0.ext ha21.2) (ha1.ext ha21.2) (ha2.ext ha21.2) (ha3.ext ha21.2)) hZ (hw _ (List.mem_of_getElem? (i := 3) rfl)) (hw _ (List.mem_of_getElem? (i := 2) rfl)) (by decide) (by decide)) (g := (mkF m 9 #[.val (.int p0), .val (.int p1), .val (.int (2 : Int32)), .val (.int (1 : Int32)), .unset, .unset] [(.int (2 : Int32))])) rfl (by rw [hml]; rfl) (argsL := [(.int (2 : Int32))]) (rest := []) (lenOf pd_0 rfl) rfl (by show 2 * 0 + _ ≤ _; exact Nat.le_of_eq rfl) (hb hby at_9) (fun _ _ => ⟨rfl, e0, (by decide : 0 + 0 ≤ _), (by decide : 0 + 0 ≤ _)⟩)
      dsimp only [Pt.U, Pt.locs, Pt.cells, Pt.slots] at X55 l55 y55 z55 st55 hQ55
      subst l55 y55 z55
      obtain ⟨rfl, N55q, e55⟩ := hQ55
      rw [show (f1 (2 : Int32) aT aO aN aP) = Value.ref aN from rfl] at st55
      have N55 := Fr.app N0 N55q
      refine Go.via st55 ?_
      show Go p e below _ (T55.setTop (mkF m 12 #[.val (.int p0), .val (.int p1), .val (.int (2 : Int32)), .val (.int (1 : Int32)), .unset, .unset] [(.ref aN)]))
      refine Go.via (T' := T55.setTop (mkF m 13 #[.val (.int p0), .val (.int p1), .val (.int (2 : Int32)), .val (.int (1 : Int32)), .unset, .unset] [(.int (1 : Int32)), (.ref aN)])) (fun tZ kZ => ?_) ?_
      · show Steps p.tables e below (T55.setTop (mkF m 12 #[.val (.int p0), .val (.int p1), .val (.int (2 : Int32)), .val (.int (1 : Int32)), .unset, .unset] [(.ref aN)])) _
        refine XS.iloadN X55.here hx rfl (hb hby at_12) rfl ?_
        show Steps p.tables e below (T55.setTop (mkF m 13 #[.val (.int p0), .val (.int p1), .val (.int (2 : Int32)), .val (.int (1 : Int32)), .unset, .unset] [(.int (1 : Int32)), (.ref aN)])) _
        exact kZ
      obtain ⟨_, _, ⟨T56, L56, k56, n56⟩, -, X56, ⟨Lc56, hQ56, l56, y56, z56⟩, st56⟩ := Jvm.LawKit.callS X55 hx (y := (⟨"com/example/paratitle/paratitle/titles/HeadingElementSeparatorAfterPinLaw", "pick", "(I)Lcom/example/paratitle/paratitle/titles/HeadingElement;"⟩ : MethodName)) hown (mvT hZ (hw _ (List.mem_of_getElem? (i := 0) rfl))) (mvT hZ (hw _ (List.mem_of_getElem? (i := 1) rfl))) (mvT hZ (hw _ (List.mem_of_getElem? (i := 2) rfl))) (mvT hZ (hw _ (List.mem_of_getElem? (i := 3) rfl))) (by decide) (backOf (W := 1) (rm1 l Z a0 hw [] (1 : Int32) aT aO aN aP h0 n0 Z0 (ha0.ext ha21.2) (ha1.ext ha21.2) (ha2.ext ha21.2) (ha3.ext ha21.2)) hZ (hw _ (List.mem_of_getElem? (i := 3) rfl)) (hw _ (List.mem_of_getElem? (i := 2) rfl)) (by decide) (by decide)) (g := (mkF m 13 #[.val (.int p0), .val (.int p1), .val (.int (2 : Int32)), .val (.int (1 : Int32)), .unset, .unset] [(.int (1 : Int32)), (.ref aN)])) rfl (by rw [hml]; rfl) (argsL := [(.int (1 : Int32))]) (rest := [(.ref aN)]) (lenOf pd_0 rfl) rfl (by show 2 * 0 + _ ≤ _; exact Nat.le_of_eq rfl) (hb hby at_13) (fun _ _ => ⟨rfl, e55, (by decide : 0 + 0 + 0 ≤ _), (by decide : 0 + 0 + 0 ≤ _)⟩)
      dsimp only [Pt.U, Pt.locs, Pt.cells, Pt.slots] at X56 l56 y56 z56 st56 hQ56
      subst l56 y56 z56
      obtain ⟨rfl, N56q, e56⟩ := hQ56
      rw [show (f1 (1 : Int32) aT aO aN aP) = Value.ref aO from rfl] at st56
      have N56 := Fr.app N55 N56q
      refine Go.via st56 ?_
      show Go p e below _ (T56.setTop (mkF m 16 #[.val (.int p0), .val (.int p1), .val (.int (2 : Int32)), .val (.int (1 : Int32)), .unset, .unset] [(.ref aO), (.ref aN)]))
      obtain ⟨cq57, kq57, q57a, q57b, q57c⟩ := isOf hZ e56 ha6
      obtain ⟨_, _, ⟨T57, L57, k57, n57⟩, -, X57, ⟨Lc57, hQ57, l57, y57, z57⟩, st57⟩ := X56.virtualBack hx (y := (⟨"com/example/paratitle/paratitle/titles/HeadingElement", "separatorAfter", "(Lcom/example/paratitle/paratitle/titles/HeadingElement;)Ljava/lang/String;"⟩ : MethodName)) (z := (⟨"com/example/paratitle/paratitle/titles/HeadingElement", "separatorAfter", "(Lcom/example/paratitle/paratitle/titles/HeadingElement;)Ljava/lang/String;"⟩ : MethodName)) hown (mvT hZ (hw _ (List.mem_of_getElem? (i := 9) rfl))) (mvT hZ (hw _ (List.mem_of_getElem? (i := 10) rfl))) (notFace_of_selects (args := #[]) (mvT hZ (hw _ (List.mem_of_getElem? (i := 12) rfl)))) (mvT hZ (hw _ (List.mem_of_getElem? (i := 12) rfl))) (mvT hZ (hw _ (List.mem_of_getElem? (i := 11) rfl))) (by decide) (backOf (W := 0) (rm2i l Z a0 hw [] aN aO aP aN saT h0 n0 Z0 (ha3.ext ha21.2) (ha2.ext ha21.2) ha10 hne_aN_aP) hZ (hw _ (List.mem_of_getElem? (i := 13) rfl)) (hw _ (List.mem_of_getElem? (i := 5) rfl)) (by decide) (by decide)) q57a q57c (g := (mkF m 16 #[.val (.int p0), .val (.int p1), .val (.int (2 : Int32)), .val (.int (1 : Int32)), .unset, .unset] [(.ref aO), (.ref aN)])) rfl (by rw [hml]; rfl) (Steps.refl _) (argsL := [(.ref aO)]) (rest := []) (lenOf pd_1 rfl) rfl (by show 2 * 0 + _ ≤ _; exact Nat.le_of_eq rfl) (hb hby at_16) (fun _ _ => ⟨rfl, e56, (by decide : 0 + 0 + 0 + 0 ≤ _), (by decide : 0 + 0 + 0 + 0 ≤ _)⟩)
      dsimp only [Pt.U, Pt.locs, Pt.cells, Pt.slots] at X57 l57 y57 z57 st57 hQ57
      subst l57 y57 z57
      obtain ⟨rfl, N57q, e57⟩ := hQ57
      have N57 := Fr.app N56 N57q
      refine Go.via (fun t k => st57.trans k) ?_
      show Go p e below _ (T57.setTop (mkF m 19 #[.val (.int p0), .val (.int p1), .val (.int (2 : Int32)), .val (.int (1 : Int32)), .unset, .unset] [(.ref saT)]))
      refine Go.via (T' := T57.setTop (mkF m 50 #[.val (.int p0), .val (.int p1), .val (.int (2 : Int32)), .val (.int (1 : Int32)), .val (.ref saT), .unset] [])) (fun tZ kZ => ?_) ?_
      · show Steps p.tables e below (T57.setTop (mkF m 19 #[.val (.int p0), .val (.int p1), .val (.int (2 : Int32)), .val (.int (1 : Int32)), .unset, .unset] [(.ref saT)])) _
        refine XS.astore X57.here hx rfl (hb hby at_19) rfl rfl (l' := #[.val (.int p0), .val (.int p1), .val (.int (2 : Int32)), .val (.int (1 : Int32)), .val (.ref saT), .unset]) rfl ?_
        show Steps p.tables e below (T57.setTop (mkF m 21 #[.val (.int p0), .val (.int p1), .val (.int (2 : Int32)), .val (.int (1 : Int32)), .val (.ref saT), .unset] [])) _
        refine XS.iloadN X57.here hx rfl (hb hby at_21) rfl ?_
        show Steps p.tables e below (T57.setTop (mkF m 22 #[.val (.int p0), .val (.int p1), .val (.int (2 : Int32)), .val (.int (1 : Int32)), .val (.ref saT), .unset] [(.int (2 : Int32))])) _
        refine XS.iconst X57.here hx rfl (hb hby at_22) ?_
        show Steps p.tables e below (T57.setTop (mkF m 23 #[.val (.int p0), .val (.int p1), .val (.int (2 : Int32)), .val (.int (1 : Int32)), .val (.ref saT), .unset] [(.int (1 : Int32)), (.int (2 : Int32))])) _
        refine XS.icmpYes X57.here hx rfl (pc0 := 23) (pc' := 33) rfl (hb hby at_23) rfl (feq (by decide)).2 (by decide) (by decide) ?_
        show Steps p.tables e below (T57.setTop (mkF m 33 #[.val (.int p0), .val (.int p1), .val (.int (2 : Int32)), .val (.int (1 : Int32)), .val (.ref saT), .unset] [])) _
        refine XS.iloadN X57.here hx rfl (hb hby at_33) rfl ?_
        show Steps p.tables e below (T57.setTop (mkF m 34 #[.val (.int p0), .val (.int p1), .val (.int (2 : Int32)), .val (.int (1 : Int32)), .val (.ref saT), .unset] [(.int (2 : Int32))])) _
        refine XS.iconst X57.here hx rfl (hb hby at_34) ?_
        show Steps p.tables e below (T57.setTop (mkF m 35 #[.val (.int p0), .val (.int p1), .val (.int (2 : Int32)), .val (.int (1 : Int32)), .val (.ref saT), .unset] [(.int (3 : Int32)), (.int (2 : Int32))])) _
        refine XS.icmpYes X57.here hx rfl (pc0 := 35) (pc' := 50) rfl (hb hby at_35) rfl (feq (by decide)).2 (by decide) (by decide) ?_
        show Steps p.tables e below (T57.setTop (mkF m 50 #[.val (.int p0), .val (.int p1), .val (.int (2 : Int32)), .val (.int (1 : Int32)), .val (.ref saT), .unset] [])) _
        exact kZ
      obtain ⟨as58, T58, h58, kk58, ab58, kc58, X58, e58, E58, hS58, hk58, hZ, hown, Ea58, Fc58, Fv58, Ar58, -, -, CR58, -, -, st58⟩ := ldcCH (s := s) (vm0 := s.vm) (EL := own_EL) X57 hx hZ hown (hw _ (List.mem_of_getElem? (i := 17) rfl)) wS e57 hS0 (Nat.zero_le _) (own_EW hw) (by simp [own_EL]) hCH (vs := [46, 32].map Value.int) (z := 2) ⟨by decide, by decide +kernel⟩ (by decide) rfl (g := (mkF m 50 #[.val (.int p0), .val (.int p1), .val (.int (2 : Int32)), .val (.int (1 : Int32)), .val (.ref saT), .unset] [])) rfl (hb hby at_50) (n := 64) (by decide) (by decide) (by decide) (by decide)
      have c59_21 := ha21.ext E58
      have c59_0 := ha0.ext c59_21.2
      have c59_1 := ha1.ext c59_21.2
      have c59_2 := ha2.ext c59_21.2
      have c59_3 := ha3.ext c59_21.2
      have c59_4 := ha4.ext E58
      have c59_5 := ha5.ext E58
      have c59_6 := ha6.ext E58
      have c59_7 := ha7.ext E58
      have c59_8 := ha8.ext E58
      have c59_9 := ha9.ext E58
      have c59_10 := ha10.ext E58
      have c59_11 := ha11.ext E58
      have c59_12 := ha12.ext E58
      have c59_13 := ha13.ext E58
      have c59_14 := ha14.ext E58
      have c59_15 := ha15.ext E58
      have c59_16 := ha16.ext E58
      have c59_17 := ha17.ext E58
      have c59_18 := ha18.ext E58
      have c59_19 := ha19.ext E58
      have c59_20 := ha20.ext c59_21.2
      have Va58 := AV.ofArv Ar58 (n := 2) rfl (by decide)
      have K58 : Keep h0 h58 [] := (Keep.refl h0 []).ext E58
      have Z58 : n0 ≤ h58.size := Nat.le_trans Z0 E58.1
      refine Go.via st58 ?_
      show Go p e below _ (T58.setTop (mkF m 52 #[.val (.int p0), .val (.int p1), .val (.int (2 : Int32)), .val (.int (1 : Int32)), .val (.ref saT), .unset] [(.ref as58)]))
      refine Go.via (T' := T58.setTop (mkF m 63 #[.val (.int p0), .val (.int p1), .val (.int (2 : Int32)), .val (.int (1 : Int32)), .val (.ref saT), .val (.ref as58)] [(.ref as58), (.ref saT)])) (fun tZ kZ => ?_) ?_
      · show Steps p.tables e below (T58.setTop (mkF m 52 #[.val (.int p0), .val (.int p1), .val (.int (2 : Int32)), .val (.int (1 : Int32)), .val (.ref saT), .unset] [(.ref as58)])) _
        refine XS.astore X58.here hx rfl (hb hby at_52) rfl rfl (l' := #[.val (.int p0), .val (.int p1), .val (.int (2 : Int32)), .val (.int (1 : Int32)), .val (.ref saT), .val (.ref as58)]) rfl ?_
        show Steps p.tables e below (T58.setTop (mkF m 54 #[.val (.int p0), .val (.int p1), .val (.int (2 : Int32)), .val (.int (1 : Int32)), .val (.ref saT), .val (.ref as58)] [])) _
        refine XS.aload X58.here hx rfl (hb hby at_54) rfl rfl ?_
        show Steps p.tables e below (T58.setTop (mkF m 56 #[.val (.int p0), .val (.int p1), .val (.int (2 : Int32)), .val (.int (1 : Int32)), .val (.ref saT), .val (.ref as58)] [(.ref saT)])) _
        refine XS.ifnullNo X58.here hx rfl (hb hby at_56) rfl ?_
        show Steps p.tables e below (T58.setTop (mkF m 59 #[.val (.int p0), .val (.int p1), .val (.int (2 : Int32)), .val (.int (1 : Int32)), .val (.ref saT), .val (.ref as58)] [])) _
        refine XS.aload X58.here hx rfl (hb hby at_59) rfl rfl ?_
        show Steps p.tables e below (T58.setTop (mkF m 61 #[.val (.int p0), .val (.int p1), .val (.int (2 : Int32)), .val (.int (1 : Int32)), .val (.ref saT), .val (.ref as58)] [(.ref saT)])) _
        refine XS.aload X58.here hx rfl (hb hby at_61) rfl rfl ?_
        show Steps p.tables e below (T58.setTop (mkF m 63 #[.val (.int p0), .val (.int p1), .val (.int (2 : Int32)), .val (.int (1 : Int32)), .val (.ref saT), .val (.ref as58)] [(.ref as58), (.ref saT)])) _
        exact kZ
      obtain ⟨cq60, kq60, q60a, q60b, q60c⟩ := isOf hZ e58 c59_12
      obtain ⟨_, _, ⟨T60, L60, k60, n60⟩, -, X60, ⟨Lc60, hQ60, l60, y60, z60⟩, st60⟩ := X58.virtualBack hx (y := (⟨"java/lang/String", "equals", "(Ljava/lang/Object;)Z"⟩ : MethodName)) (z := (⟨"java/lang/String", "equals", "(Ljava/lang/Object;)Z"⟩ : MethodName)) hown (mvT hZ (hw _ (List.mem_of_getElem? (i := 25) rfl))) (mvT hZ (hw _ (List.mem_of_getElem? (i := 26) rfl))) (notFace_of_selects (args := #[]) (mvT hZ (hw _ (List.mem_of_getElem? (i := 28) rfl)))) (mvT hZ (hw _ (List.mem_of_getElem? (i := 28) rfl))) (mvT hZ (hw _ (List.mem_of_getElem? (i := 27) rfl))) (by decide) (backOf (W := 0) (rm3n2 l Z a0 hw [] saT as58 baT ab58 (own_t [46, 32]) cs h58 n0 Z58 Ea58 c59_13 Fc58 c59_14 Fv58 c59_15 Va58 c59_20 hcs) hZ (hw _ (List.mem_of_getElem? (i := 29) rfl)) (hw _ (List.mem_of_getElem? (i := 18) rfl)) (by decide) (by decide)) q60a q60c (g := (mkF m 63 #[.val (.int p0), .val (.int p1), .val (.int (2 : Int32)), .val (.int (1 : Int32)), .val (.ref saT), .val (.ref as58)] [(.ref as58), (.ref saT)])) rfl (by rw [hml]; rfl) (Steps.refl _) (argsL := [(.ref as58)]) (rest := []) (lenOf pd_2 rfl) rfl (by show 2 * 0 + _ ≤ _; exact Nat.le_of_eq rfl) (hb hby at_63) (fun _ _ => ⟨rfl, e58, (by decide : 0 + 0 + 0 + 0 + 2 + 0 ≤ _), (by decide : 0 + 0 + 0 + 0 + (64 + 4) + 0 ≤ _)⟩)
      dsimp only [Pt.U, Pt.locs, Pt.cells, Pt.slots] at X60 l60 y60 z60 st60 hQ60
      subst l60 y60 z60
      obtain ⟨rfl, N60q, e60⟩ := hQ60
      have N60 := Fr.app N57 N60q
      refine Go.via (fun t k => st60.trans k) ?_
      show Go p e below _ (T60.setTop (mkF m 66 #[.val (.int p0), .val (.int p1), .val (.int (2 : Int32)), .val (.int (1 : Int32)), .val (.ref saT), .val (.ref as58)] [(.int (f3n2 saT as58 baT ab58 (own_t [46, 32]) cs))]))
      refine Go.via (T' := T60.setTop (mkF m 74 #[.val (.int p0), .val (.int p1), .val (.int (2 : Int32)), .val (.int (1 : Int32)), .val (.ref saT), .val (.ref as58)] [(.int (1 : Int32))])) (fun tZ kZ => ?_) ?_
      · show Steps p.tables e below (T60.setTop (mkF m 66 #[.val (.int p0), .val (.int p1), .val (.int (2 : Int32)), .val (.int (1 : Int32)), .val (.ref saT), .val (.ref as58)] [(.int (f3n2 saT as58 baT ab58 (own_t [46, 32]) cs))])) _
        refine XS.ifNo X60.here hx rfl (hb hby at_66) rfl ((if0 _ _).trans (feq (by rw [own_eq2]; decide)).1) ?_
        show Steps p.tables e below (T60.setTop (mkF m 69 #[.val (.int p0), .val (.int p1), .val (.int (2 : Int32)), .val (.int (1 : Int32)), .val (.ref saT), .val (.ref as58)] [])) _
        refine XS.iconst X60.here hx rfl (hb hby at_69) ?_
        show Steps p.tables e below (T60.setTop (mkF m 70 #[.val (.int p0), .val (.int p1), .val (.int (2 : Int32)), .val (.int (1 : Int32)), .val (.ref saT), .val (.ref as58)] [(.int (1 : Int32))])) _
        refine XS.goto X60.here hx rfl (pc0 := 70) (pc' := 74) rfl (hb hby at_70) (by decide) (by decide) ?_
        show Steps p.tables e below (T60.setTop (mkF m 74 #[.val (.int p0), .val (.int p1), .val (.int (2 : Int32)), .val (.int (1 : Int32)), .val (.ref saT), .val (.ref as58)] [(.int (1 : Int32))])) _
        exact kZ
      refine Go.retNW (s := s) (vm₁ := T58.vm) X60 hx hS58 (by rw [e60]; exact hk58) Bd.notSynchronized (t := .boolean) Bd.returns (by simp) (hb hby at_74) (by decide) (by decide) ?_
      exact ⟨rfl, N60⟩
    · rw [hj]
      show Go p e below _ (s₁.setTop (mkF m 8 #[.val (.int p0), .val (.int p1), .val (.int (2 : Int32)), .val (.int (2 : Int32)), .unset, .unset] []))
      refine Go.via (T' := s₁.setTop (mkF m 9 #[.val (.int p0), .val (.int p1), .val (.int (2 : Int32)), .val (.int (2 : Int32)), .unset, .unset] [(.int (2 : Int32))])) (fun tZ kZ => ?_) ?_
      · show Steps p.tables e below (s₁.setTop (mkF m 8 #[.val (.int p0), .val (.int p1), .val (.int (2 : Int32)), .val (.int (2 : Int32)), .unset, .unset] [])) _
        refine XS.iloadN X0.here hx rfl (hb hby at_8) rfl ?_
        show Steps p.tables e below (s₁.setTop (mkF m 9 #[.val (.int p0), .val (.int p1), .val (.int (2 : Int32)), .val (.int (2 : Int32)), .unset, .unset] [(.int (2 : Int32))])) _
        exact kZ
      obtain ⟨_, _, ⟨T61, L61, k61, n61⟩, -, X61, ⟨Lc61, hQ61, l61, y61, z61⟩, st61⟩ := Jvm.LawKit.callS X0 hx (y := (⟨"com/example/paratitle/paratitle/titles/HeadingElementSeparatorAfterPinLaw", "pick", "(I)Lcom/example/paratitle/paratitle/titles/HeadingElement;"⟩ : MethodName)) hown (mvT hZ (hw _ (List.mem_of_getElem? (i := 0) rfl))) (mvT hZ (hw _ (List.mem_of_getElem? (i := 1) rfl))) (mvT hZ (hw _ (List.mem_of_getElem? (i := 2) rfl))) (mvT hZ (hw _ (List.mem_of_getElem? (i := 3) rfl))) (by decide) (backOf (W := 0) (rm1 l Z a0 hw [] (2 : Int32) aT aO aN aP h0 n0 Z0 (ha0.ext ha21.2) (ha1.ext ha21.2) (ha2.ext ha21.2) (ha3.ext ha21.2)) hZ (hw _ (List.mem_of_getElem? (i := 3) rfl)) (hw _ (List.mem_of_getElem? (i := 2) rfl)) (by decide) (by decide)) (g := (mkF m 9 #[.val (.int p0), .val (.int p1), .val (.int (2 : Int32)), .val (.int (2 : Int32)), .unset, .unset] [(.int (2 : Int32))])) rfl (by rw [hml]; rfl) (argsL := [(.int (2 : Int32))]) (rest := []) (lenOf pd_0 rfl) rfl (by show 2 * 0 + _ ≤ _; exact Nat.le_of_eq rfl) (hb hby at_9) (fun _ _ => ⟨rfl, e0, (by decide : 0 + 0 ≤ _), (by decide : 0 + 0 ≤ _)⟩)
      dsimp only [Pt.U, Pt.locs, Pt.cells, Pt.slots] at X61 l61 y61 z61 st61 hQ61
      subst l61 y61 z61
      obtain ⟨rfl, N61q, e61⟩ := hQ61
      rw [show (f1 (2 : Int32) aT aO aN aP) = Value.ref aN from rfl] at st61
      have N61 := Fr.app N0 N61q
      refine Go.via st61 ?_
      show Go p e below _ (T61.setTop (mkF m 12 #[.val (.int p0), .val (.int p1), .val (.int (2 : Int32)), .val (.int (2 : Int32)), .unset, .unset] [(.ref aN)]))
      refine Go.via (T' := T61.setTop (mkF m 13 #[.val (.int p0), .val (.int p1), .val (.int (2 : Int32)), .val (.int (2 : Int32)), .unset, .unset] [(.int (2 : Int32)), (.ref aN)])) (fun tZ kZ => ?_) ?_
      · show Steps p.tables e below (T61.setTop (mkF m 12 #[.val (.int p0), .val (.int p1), .val (.int (2 : Int32)), .val (.int (2 : Int32)), .unset, .unset] [(.ref aN)])) _
        refine XS.iloadN X61.here hx rfl (hb hby at_12) rfl ?_
        show Steps p.tables e below (T61.setTop (mkF m 13 #[.val (.int p0), .val (.int p1), .val (.int (2 : Int32)), .val (.int (2 : Int32)), .unset, .unset] [(.int (2 : Int32)), (.ref aN)])) _
        exact kZ
      obtain ⟨_, _, ⟨T62, L62, k62, n62⟩, -, X62, ⟨Lc62, hQ62, l62, y62, z62⟩, st62⟩ := Jvm.LawKit.callS X61 hx (y := (⟨"com/example/paratitle/paratitle/titles/HeadingElementSeparatorAfterPinLaw", "pick", "(I)Lcom/example/paratitle/paratitle/titles/HeadingElement;"⟩ : MethodName)) hown (mvT hZ (hw _ (List.mem_of_getElem? (i := 0) rfl))) (mvT hZ (hw _ (List.mem_of_getElem? (i := 1) rfl))) (mvT hZ (hw _ (List.mem_of_getElem? (i := 2) rfl))) (mvT hZ (hw _ (List.mem_of_getElem? (i := 3) rfl))) (by decide) (backOf (W := 1) (rm1 l Z a0 hw [] (2 : Int32) aT aO aN aP h0 n0 Z0 (ha0.ext ha21.2) (ha1.ext ha21.2) (ha2.ext ha21.2) (ha3.ext ha21.2)) hZ (hw _ (List.mem_of_getElem? (i := 3) rfl)) (hw _ (List.mem_of_getElem? (i := 2) rfl)) (by decide) (by decide)) (g := (mkF m 13 #[.val (.int p0), .val (.int p1), .val (.int (2 : Int32)), .val (.int (2 : Int32)), .unset, .unset] [(.int (2 : Int32)), (.ref aN)])) rfl (by rw [hml]; rfl) (argsL := [(.int (2 : Int32))]) (rest := [(.ref aN)]) (lenOf pd_0 rfl) rfl (by show 2 * 0 + _ ≤ _; exact Nat.le_of_eq rfl) (hb hby at_13) (fun _ _ => ⟨rfl, e61, (by decide : 0 + 0 + 0 ≤ _), (by decide : 0 + 0 + 0 ≤ _)⟩)
      dsimp only [Pt.U, Pt.locs, Pt.cells, Pt.slots] at X62 l62 y62 z62 st62 hQ62
      subst l62 y62 z62
      obtain ⟨rfl, N62q, e62⟩ := hQ62
      rw [show (f1 (2 : Int32) aT aO aN aP) = Value.ref aN from rfl] at st62
      have N62 := Fr.app N61 N62q
      refine Go.via st62 ?_
      show Go p e below _ (T62.setTop (mkF m 16 #[.val (.int p0), .val (.int p1), .val (.int (2 : Int32)), .val (.int (2 : Int32)), .unset, .unset] [(.ref aN), (.ref aN)]))
      obtain ⟨cq63, kq63, q63a, q63b, q63c⟩ := isOf hZ e62 ha6
      obtain ⟨_, _, ⟨T63, L63, k63, n63⟩, -, X63, ⟨Lc63, hQ63, l63, y63, z63⟩, st63⟩ := X62.virtualBack hx (y := (⟨"com/example/paratitle/paratitle/titles/HeadingElement", "separatorAfter", "(Lcom/example/paratitle/paratitle/titles/HeadingElement;)Ljava/lang/String;"⟩ : MethodName)) (z := (⟨"com/example/paratitle/paratitle/titles/HeadingElement", "separatorAfter", "(Lcom/example/paratitle/paratitle/titles/HeadingElement;)Ljava/lang/String;"⟩ : MethodName)) hown (mvT hZ (hw _ (List.mem_of_getElem? (i := 9) rfl))) (mvT hZ (hw _ (List.mem_of_getElem? (i := 10) rfl))) (notFace_of_selects (args := #[]) (mvT hZ (hw _ (List.mem_of_getElem? (i := 12) rfl)))) (mvT hZ (hw _ (List.mem_of_getElem? (i := 12) rfl))) (mvT hZ (hw _ (List.mem_of_getElem? (i := 11) rfl))) (by decide) (backOf (W := 0) (rm2i l Z a0 hw [] aN aN aP aN saT h0 n0 Z0 (ha3.ext ha21.2) (ha2.ext ha21.2) ha10 hne_aN_aP) hZ (hw _ (List.mem_of_getElem? (i := 13) rfl)) (hw _ (List.mem_of_getElem? (i := 5) rfl)) (by decide) (by decide)) q63a q63c (g := (mkF m 16 #[.val (.int p0), .val (.int p1), .val (.int (2 : Int32)), .val (.int (2 : Int32)), .unset, .unset] [(.ref aN), (.ref aN)])) rfl (by rw [hml]; rfl) (Steps.refl _) (argsL := [(.ref aN)]) (rest := []) (lenOf pd_1 rfl) rfl (by show 2 * 0 + _ ≤ _; exact Nat.le_of_eq rfl) (hb hby at_16) (fun _ _ => ⟨rfl, e62, (by decide : 0 + 0 + 0 + 0 ≤ _), (by decide : 0 + 0 + 0 + 0 ≤ _)⟩)
      dsimp only [Pt.U, Pt.locs, Pt.cells, Pt.slots] at X63 l63 y63 z63 st63 hQ63
      subst l63 y63 z63
      obtain ⟨rfl, N63q, e63⟩ := hQ63
      have N63 := Fr.app N62 N63q
      refine Go.via (fun t k => st63.trans k) ?_
      show Go p e below _ (T63.setTop (mkF m 19 #[.val (.int p0), .val (.int p1), .val (.int (2 : Int32)), .val (.int (2 : Int32)), .unset, .unset] [(.ref saT)]))
      refine Go.via (T' := T63.setTop (mkF m 50 #[.val (.int p0), .val (.int p1), .val (.int (2 : Int32)), .val (.int (2 : Int32)), .val (.ref saT), .unset] [])) (fun tZ kZ => ?_) ?_
      · show Steps p.tables e below (T63.setTop (mkF m 19 #[.val (.int p0), .val (.int p1), .val (.int (2 : Int32)), .val (.int (2 : Int32)), .unset, .unset] [(.ref saT)])) _
        refine XS.astore X63.here hx rfl (hb hby at_19) rfl rfl (l' := #[.val (.int p0), .val (.int p1), .val (.int (2 : Int32)), .val (.int (2 : Int32)), .val (.ref saT), .unset]) rfl ?_
        show Steps p.tables e below (T63.setTop (mkF m 21 #[.val (.int p0), .val (.int p1), .val (.int (2 : Int32)), .val (.int (2 : Int32)), .val (.ref saT), .unset] [])) _
        refine XS.iloadN X63.here hx rfl (hb hby at_21) rfl ?_
        show Steps p.tables e below (T63.setTop (mkF m 22 #[.val (.int p0), .val (.int p1), .val (.int (2 : Int32)), .val (.int (2 : Int32)), .val (.ref saT), .unset] [(.int (2 : Int32))])) _
        refine XS.iconst X63.here hx rfl (hb hby at_22) ?_
        show Steps p.tables e below (T63.setTop (mkF m 23 #[.val (.int p0), .val (.int p1), .val (.int (2 : Int32)), .val (.int (2 : Int32)), .val (.ref saT), .unset] [(.int (1 : Int32)), (.int (2 : Int32))])) _
        refine XS.icmpYes X63.here hx rfl (pc0 := 23) (pc' := 33) rfl (hb hby at_23) rfl (feq (by decide)).2 (by decide) (by decide) ?_
        show Steps p.tables e below (T63.setTop (mkF m 33 #[.val (.int p0), .val (.int p1), .val (.int (2 : Int32)), .val (.int (2 : Int32)), .val (.ref saT), .unset] [])) _
        refine XS.iloadN X63.here hx rfl (hb hby at_33) rfl ?_
        show Steps p.tables e below (T63.setTop (mkF m 34 #[.val (.int p0), .val (.int p1), .val (.int (2 : Int32)), .val (.int (2 : Int32)), .val (.ref saT), .unset] [(.int (2 : Int32))])) _
        refine XS.iconst X63.here hx rfl (hb hby at_34) ?_
        show Steps p.tables e below (T63.setTop (mkF m 35 #[.val (.int p0), .val (.int p1), .val (.int (2 : Int32)), .val (.int (2 : Int32)), .val (.ref saT), .unset] [(.int (3 : Int32)), (.int (2 : Int32))])) _
        refine XS.icmpYes X63.here hx rfl (pc0 := 35) (pc' := 50) rfl (hb hby at_35) rfl (feq (by decide)).2 (by decide) (by decide) ?_
        show Steps p.tables e below (T63.setTop (mkF m 50 #[.val (.int p0), .val (.int p1), .val (.int (2 : Int32)), .val (.int (2 : Int32)), .val (.ref saT), .unset] [])) _
        exact kZ
      obtain ⟨as64, T64, h64, kk64, ab64, kc64, X64, e64, E64, hS64, hk64, hZ, hown, Ea64, Fc64, Fv64, Ar64, -, -, CR64, -, -, st64⟩ := ldcCH (s := s) (vm0 := s.vm) (EL := own_EL) X63 hx hZ hown (hw _ (List.mem_of_getElem? (i := 17) rfl)) wS e63 hS0 (Nat.zero_le _) (own_EW hw) (by simp [own_EL]) hCH (vs := [46, 32].map Value.int) (z := 2) ⟨by decide, by decide +kernel⟩ (by decide) rfl (g := (mkF m 50 #[.val (.int p0), .val (.int p1), .val (.int (2 : Int32)), .val (.int (2 : Int32)), .val (.ref saT), .unset] [])) rfl (hb hby at_50) (n := 64) (by decide) (by decide) (by decide) (by decide)
      have c65_21 := ha21.ext E64
      have c65_0 := ha0.ext c65_21.2
      have c65_1 := ha1.ext c65_21.2
      have c65_2 := ha2.ext c65_21.2
      have c65_3 := ha3.ext c65_21.2
      have c65_4 := ha4.ext E64
      have c65_5 := ha5.ext E64
      have c65_6 := ha6.ext E64
      have c65_7 := ha7.ext E64
      have c65_8 := ha8.ext E64
      have c65_9 := ha9.ext E64
      have c65_10 := ha10.ext E64
      have c65_11 := ha11.ext E64
      have c65_12 := ha12.ext E64
      have c65_13 := ha13.ext E64
      have c65_14 := ha14.ext E64
      have c65_15 := ha15.ext E64
      have c65_16 := ha16.ext E64
      have c65_17 := ha17.ext E64
      have c65_18 := ha18.ext E64
      have c65_19 := ha19.ext E64
      have c65_20 := ha20.ext c65_21.2
      have Va64 := AV.ofArv Ar64 (n := 2) rfl (by decide)
      have K64 : Keep h0 h64 [] := (Keep.refl h0 []).ext E64
      have Z64 : n0 ≤ h64.size := Nat.le_trans Z0 E64.1
      refine Go.via st64 ?_
      show Go p e below _ (T64.setTop (mkF m 52 #[.val (.int p0), .val (.int p1), .val (.int (2 : Int32)), .val (.int (2 : Int32)), .val (.ref saT), .unset] [(.ref as64)]))
      refine Go.via (T' := T64.setTop (mkF m 63 #[.val (.int p0), .val (.int p1), .val (.int (2 : Int32)), .val (.int (2 : Int32)), .val (.ref saT), .val (.ref as64)] [(.ref as64), (.ref saT)])) (fun tZ kZ => ?_) ?_
      · show Steps p.tables e below (T64.setTop (mkF m 52 #[.val (.int p0), .val (.int p1), .val (.int (2 : Int32)), .val (.int (2 : Int32)), .val (.ref saT), .unset] [(.ref as64)])) _
        refine XS.astore X64.here hx rfl (hb hby at_52) rfl rfl (l' := #[.val (.int p0), .val (.int p1), .val (.int (2 : Int32)), .val (.int (2 : Int32)), .val (.ref saT), .val (.ref as64)]) rfl ?_
        show Steps p.tables e below (T64.setTop (mkF m 54 #[.val (.int p0), .val (.int p1), .val (.int (2 : Int32)), .val (.int (2 : Int32)), .val (.ref saT), .val (.ref as64)] [])) _
        refine XS.aload X64.here hx rfl (hb hby at_54) rfl rfl ?_
        show Steps p.tables e below (T64.setTop (mkF m 56 #[.val (.int p0), .val (.int p1), .val (.int (2 : Int32)), .val (.int (2 : Int32)), .val (.ref saT), .val (.ref as64)] [(.ref saT)])) _
        refine XS.ifnullNo X64.here hx rfl (hb hby at_56) rfl ?_
        show Steps p.tables e below (T64.setTop (mkF m 59 #[.val (.int p0), .val (.int p1), .val (.int (2 : Int32)), .val (.int (2 : Int32)), .val (.ref saT), .val (.ref as64)] [])) _
        refine XS.aload X64.here hx rfl (hb hby at_59) rfl rfl ?_
        show Steps p.tables e below (T64.setTop (mkF m 61 #[.val (.int p0), .val (.int p1), .val (.int (2 : Int32)), .val (.int (2 : Int32)), .val (.ref saT), .val (.ref as64)] [(.ref saT)])) _
        refine XS.aload X64.here hx rfl (hb hby at_61) rfl rfl ?_
        show Steps p.tables e below (T64.setTop (mkF m 63 #[.val (.int p0), .val (.int p1), .val (.int (2 : Int32)), .val (.int (2 : Int32)), .val (.ref saT), .val (.ref as64)] [(.ref as64), (.ref saT)])) _
        exact kZ
      obtain ⟨cq66, kq66, q66a, q66b, q66c⟩ := isOf hZ e64 c65_12
      obtain ⟨_, _, ⟨T66, L66, k66, n66⟩, -, X66, ⟨Lc66, hQ66, l66, y66, z66⟩, st66⟩ := X64.virtualBack hx (y := (⟨"java/lang/String", "equals", "(Ljava/lang/Object;)Z"⟩ : MethodName)) (z := (⟨"java/lang/String", "equals", "(Ljava/lang/Object;)Z"⟩ : MethodName)) hown (mvT hZ (hw _ (List.mem_of_getElem? (i := 25) rfl))) (mvT hZ (hw _ (List.mem_of_getElem? (i := 26) rfl))) (notFace_of_selects (args := #[]) (mvT hZ (hw _ (List.mem_of_getElem? (i := 28) rfl)))) (mvT hZ (hw _ (List.mem_of_getElem? (i := 28) rfl))) (mvT hZ (hw _ (List.mem_of_getElem? (i := 27) rfl))) (by decide) (backOf (W := 0) (rm3n2 l Z a0 hw [] saT as64 baT ab64 (own_t [46, 32]) cs h64 n0 Z64 Ea64 c65_13 Fc64 c65_14 Fv64 c65_15 Va64 c65_20 hcs) hZ (hw _ (List.mem_of_getElem? (i := 29) rfl)) (hw _ (List.mem_of_getElem? (i := 18) rfl)) (by decide) (by decide)) q66a q66c (g := (mkF m 63 #[.val (.int p0), .val (.int p1), .val (.int (2 : Int32)), .val (.int (2 : Int32)), .val (.ref saT), .val (.ref as64)] [(.ref as64), (.ref saT)])) rfl (by rw [hml]; rfl) (Steps.refl _) (argsL := [(.ref as64)]) (rest := []) (lenOf pd_2 rfl) rfl (by show 2 * 0 + _ ≤ _; exact Nat.le_of_eq rfl) (hb hby at_63) (fun _ _ => ⟨rfl, e64, (by decide : 0 + 0 + 0 + 0 + 2 + 0 ≤ _), (by decide : 0 + 0 + 0 + 0 + (64 + 4) + 0 ≤ _)⟩)
      dsimp only [Pt.U, Pt.locs, Pt.cells, Pt.slots] at X66 l66 y66 z66 st66 hQ66
      subst l66 y66 z66
      obtain ⟨rfl, N66q, e66⟩ := hQ66
      have N66 := Fr.app N63 N66q
      refine Go.via (fun t k => st66.trans k) ?_
      show Go p e below _ (T66.setTop (mkF m 66 #[.val (.int p0), .val (.int p1), .val (.int (2 : Int32)), .val (.int (2 : Int32)), .val (.ref saT), .val (.ref as64)] [(.int (f3n2 saT as64 baT ab64 (own_t [46, 32]) cs))]))
      refine Go.via (T' := T66.setTop (mkF m 74 #[.val (.int p0), .val (.int p1), .val (.int (2 : Int32)), .val (.int (2 : Int32)), .val (.ref saT), .val (.ref as64)] [(.int (1 : Int32))])) (fun tZ kZ => ?_) ?_
      · show Steps p.tables e below (T66.setTop (mkF m 66 #[.val (.int p0), .val (.int p1), .val (.int (2 : Int32)), .val (.int (2 : Int32)), .val (.ref saT), .val (.ref as64)] [(.int (f3n2 saT as64 baT ab64 (own_t [46, 32]) cs))])) _
        refine XS.ifNo X66.here hx rfl (hb hby at_66) rfl ((if0 _ _).trans (feq (by rw [own_eq2]; decide)).1) ?_
        show Steps p.tables e below (T66.setTop (mkF m 69 #[.val (.int p0), .val (.int p1), .val (.int (2 : Int32)), .val (.int (2 : Int32)), .val (.ref saT), .val (.ref as64)] [])) _
        refine XS.iconst X66.here hx rfl (hb hby at_69) ?_
        show Steps p.tables e below (T66.setTop (mkF m 70 #[.val (.int p0), .val (.int p1), .val (.int (2 : Int32)), .val (.int (2 : Int32)), .val (.ref saT), .val (.ref as64)] [(.int (1 : Int32))])) _
        refine XS.goto X66.here hx rfl (pc0 := 70) (pc' := 74) rfl (hb hby at_70) (by decide) (by decide) ?_
        show Steps p.tables e below (T66.setTop (mkF m 74 #[.val (.int p0), .val (.int p1), .val (.int (2 : Int32)), .val (.int (2 : Int32)), .val (.ref saT), .val (.ref as64)] [(.int (1 : Int32))])) _
        exact kZ
      refine Go.retNW (s := s) (vm₁ := T64.vm) X66 hx hS64 (by rw [e66]; exact hk64) Bd.notSynchronized (t := .boolean) Bd.returns (by simp) (hb hby at_74) (by decide) (by decide) ?_
      exact ⟨rfl, N66⟩
    · rw [hj]
      show Go p e below _ (s₁.setTop (mkF m 8 #[.val (.int p0), .val (.int p1), .val (.int (2 : Int32)), .val (.int (3 : Int32)), .unset, .unset] []))
      refine Go.via (T' := s₁.setTop (mkF m 9 #[.val (.int p0), .val (.int p1), .val (.int (2 : Int32)), .val (.int (3 : Int32)), .unset, .unset] [(.int (2 : Int32))])) (fun tZ kZ => ?_) ?_
      · show Steps p.tables e below (s₁.setTop (mkF m 8 #[.val (.int p0), .val (.int p1), .val (.int (2 : Int32)), .val (.int (3 : Int32)), .unset, .unset] [])) _
        refine XS.iloadN X0.here hx rfl (hb hby at_8) rfl ?_
        show Steps p.tables e below (s₁.setTop (mkF m 9 #[.val (.int p0), .val (.int p1), .val (.int (2 : Int32)), .val (.int (3 : Int32)), .unset, .unset] [(.int (2 : Int32))])) _
        exact kZ
      obtain ⟨_, _, ⟨T67, L67, k67, n67⟩, -, X67, ⟨Lc67, hQ67, l67, y67, z67⟩, st67⟩ := Jvm.LawKit.callS X0 hx (y := (⟨"com/example/paratitle/paratitle/titles/HeadingElementSeparatorAfterPinLaw", "pick", "(I)Lcom/example/paratitle/paratitle/titles/HeadingElement;"⟩ : MethodName)) hown (mvT hZ (hw _ (List.mem_of_getElem? (i := 0) rfl))) (mvT hZ (hw _ (List.mem_of_getElem? (i := 1) rfl))) (mvT hZ (hw _ (List.mem_of_getElem? (i := 2) rfl))) (mvT hZ (hw _ (List.mem_of_getElem? (i := 3) rfl))) (by decide) (backOf (W := 0) (rm1 l Z a0 hw [] (2 : Int32) aT aO aN aP h0 n0 Z0 (ha0.ext ha21.2) (ha1.ext ha21.2) (ha2.ext ha21.2) (ha3.ext ha21.2)) hZ (hw _ (List.mem_of_getElem? (i := 3) rfl)) (hw _ (List.mem_of_getElem? (i := 2) rfl)) (by decide) (by decide)) (g := (mkF m 9 #[.val (.int p0), .val (.int p1), .val (.int (2 : Int32)), .val (.int (3 : Int32)), .unset, .unset] [(.int (2 : Int32))])) rfl (by rw [hml]; rfl) (argsL := [(.int (2 : Int32))]) (rest := []) (lenOf pd_0 rfl) rfl (by show 2 * 0 + _ ≤ _; exact Nat.le_of_eq rfl) (hb hby at_9) (fun _ _ => ⟨rfl, e0, (by decide : 0 + 0 ≤ _), (by decide : 0 + 0 ≤ _)⟩)
      dsimp only [Pt.U, Pt.locs, Pt.cells, Pt.slots] at X67 l67 y67 z67 st67 hQ67
      subst l67 y67 z67
      obtain ⟨rfl, N67q, e67⟩ := hQ67
      rw [show (f1 (2 : Int32) aT aO aN aP) = Value.ref aN from rfl] at st67
      have N67 := Fr.app N0 N67q
      refine Go.via st67 ?_
      show Go p e below _ (T67.setTop (mkF m 12 #[.val (.int p0), .val (.int p1), .val (.int (2 : Int32)), .val (.int (3 : Int32)), .unset, .unset] [(.ref aN)]))
      refine Go.via (T' := T67.setTop (mkF m 13 #[.val (.int p0), .val (.int p1), .val (.int (2 : Int32)), .val (.int (3 : Int32)), .unset, .unset] [(.int (3 : Int32)), (.ref aN)])) (fun tZ kZ => ?_) ?_
      · show Steps p.tables e below (T67.setTop (mkF m 12 #[.val (.int p0), .val (.int p1), .val (.int (2 : Int32)), .val (.int (3 : Int32)), .unset, .unset] [(.ref aN)])) _
        refine XS.iloadN X67.here hx rfl (hb hby at_12) rfl ?_
        show Steps p.tables e below (T67.setTop (mkF m 13 #[.val (.int p0), .val (.int p1), .val (.int (2 : Int32)), .val (.int (3 : Int32)), .unset, .unset] [(.int (3 : Int32)), (.ref aN)])) _
        exact kZ
      obtain ⟨_, _, ⟨T68, L68, k68, n68⟩, -, X68, ⟨Lc68, hQ68, l68, y68, z68⟩, st68⟩ := Jvm.LawKit.callS X67 hx (y := (⟨"com/example/paratitle/paratitle/titles/HeadingElementSeparatorAfterPinLaw", "pick", "(I)Lcom/example/paratitle/paratitle/titles/HeadingElement;"⟩ : MethodName)) hown (mvT hZ (hw _ (List.mem_of_getElem? (i := 0) rfl))) (mvT hZ (hw _ (List.mem_of_getElem? (i := 1) rfl))) (mvT hZ (hw _ (List.mem_of_getElem? (i := 2) rfl))) (mvT hZ (hw _ (List.mem_of_getElem? (i := 3) rfl))) (by decide) (backOf (W := 1) (rm1 l Z a0 hw [] (3 : Int32) aT aO aN aP h0 n0 Z0 (ha0.ext ha21.2) (ha1.ext ha21.2) (ha2.ext ha21.2) (ha3.ext ha21.2)) hZ (hw _ (List.mem_of_getElem? (i := 3) rfl)) (hw _ (List.mem_of_getElem? (i := 2) rfl)) (by decide) (by decide)) (g := (mkF m 13 #[.val (.int p0), .val (.int p1), .val (.int (2 : Int32)), .val (.int (3 : Int32)), .unset, .unset] [(.int (3 : Int32)), (.ref aN)])) rfl (by rw [hml]; rfl) (argsL := [(.int (3 : Int32))]) (rest := [(.ref aN)]) (lenOf pd_0 rfl) rfl (by show 2 * 0 + _ ≤ _; exact Nat.le_of_eq rfl) (hb hby at_13) (fun _ _ => ⟨rfl, e67, (by decide : 0 + 0 + 0 ≤ _), (by decide : 0 + 0 + 0 ≤ _)⟩)
      dsimp only [Pt.U, Pt.locs, Pt.cells, Pt.slots] at X68 l68 y68 z68 st68 hQ68
      subst l68 y68 z68
      obtain ⟨rfl, N68q, e68⟩ := hQ68
      rw [show (f1 (3 : Int32) aT aO aN aP) = Value.ref aP from rfl] at st68
      have N68 := Fr.app N67 N68q
      refine Go.via st68 ?_
      show Go p e below _ (T68.setTop (mkF m 16 #[.val (.int p0), .val (.int p1), .val (.int (2 : Int32)), .val (.int (3 : Int32)), .unset, .unset] [(.ref aP), (.ref aN)]))
      obtain ⟨cq69, kq69, q69a, q69b, q69c⟩ := isOf hZ e68 ha6
      obtain ⟨_, _, ⟨T69, L69, k69, n69⟩, -, X69, ⟨Lc69, hQ69, l69, y69, z69⟩, st69⟩ := X68.virtualBack hx (y := (⟨"com/example/paratitle/paratitle/titles/HeadingElement", "separatorAfter", "(Lcom/example/paratitle/paratitle/titles/HeadingElement;)Ljava/lang/String;"⟩ : MethodName)) (z := (⟨"com/example/paratitle/paratitle/titles/HeadingElement", "separatorAfter", "(Lcom/example/paratitle/paratitle/titles/HeadingElement;)Ljava/lang/String;"⟩ : MethodName)) hown (mvT hZ (hw _ (List.mem_of_getElem? (i := 9) rfl))) (mvT hZ (hw _ (List.mem_of_getElem? (i := 10) rfl))) (notFace_of_selects (args := #[]) (mvT hZ (hw _ (List.mem_of_getElem? (i := 12) rfl)))) (mvT hZ (hw _ (List.mem_of_getElem? (i := 12) rfl))) (mvT hZ (hw _ (List.mem_of_getElem? (i := 11) rfl))) (by decide) (backOf (W := 0) (rm2i l Z a0 hw [] aN aP aP aN saT h0 n0 Z0 (ha3.ext ha21.2) (ha2.ext ha21.2) ha10 hne_aN_aP) hZ (hw _ (List.mem_of_getElem? (i := 13) rfl)) (hw _ (List.mem_of_getElem? (i := 5) rfl)) (by decide) (by decide)) q69a q69c (g := (mkF m 16 #[.val (.int p0), .val (.int p1), .val (.int (2 : Int32)), .val (.int (3 : Int32)), .unset, .unset] [(.ref aP), (.ref aN)])) rfl (by rw [hml]; rfl) (Steps.refl _) (argsL := [(.ref aP)]) (rest := []) (lenOf pd_1 rfl) rfl (by show 2 * 0 + _ ≤ _; exact Nat.le_of_eq rfl) (hb hby at_16) (fun _ _ => ⟨rfl, e68, (by decide : 0 + 0 + 0 + 0 ≤ _), (by decide : 0 + 0 + 0 + 0 ≤ _)⟩)
      dsimp only [Pt.U, Pt.locs, Pt.cells, Pt.slots] at X69 l69 y69 z69 st69 hQ69
      subst l69 y69 z69
      obtain ⟨rfl, N69q, e69⟩ := hQ69
      have N69 := Fr.app N68 N69q
      refine Go.via (fun t k => st69.trans k) ?_
      show Go p e below _ (T69.setTop (mkF m 19 #[.val (.int p0), .val (.int p1), .val (.int (2 : Int32)), .val (.int (3 : Int32)), .unset, .unset] [(.ref saT)]))
      refine Go.via (T' := T69.setTop (mkF m 50 #[.val (.int p0), .val (.int p1), .val (.int (2 : Int32)), .val (.int (3 : Int32)), .val (.ref saT), .unset] [])) (fun tZ kZ => ?_) ?_
      · show Steps p.tables e below (T69.setTop (mkF m 19 #[.val (.int p0), .val (.int p1), .val (.int (2 : Int32)), .val (.int (3 : Int32)), .unset, .unset] [(.ref saT)])) _
        refine XS.astore X69.here hx rfl (hb hby at_19) rfl rfl (l' := #[.val (.int p0), .val (.int p1), .val (.int (2 : Int32)), .val (.int (3 : Int32)), .val (.ref saT), .unset]) rfl ?_
        show Steps p.tables e below (T69.setTop (mkF m 21 #[.val (.int p0), .val (.int p1), .val (.int (2 : Int32)), .val (.int (3 : Int32)), .val (.ref saT), .unset] [])) _
        refine XS.iloadN X69.here hx rfl (hb hby at_21) rfl ?_
        show Steps p.tables e below (T69.setTop (mkF m 22 #[.val (.int p0), .val (.int p1), .val (.int (2 : Int32)), .val (.int (3 : Int32)), .val (.ref saT), .unset] [(.int (2 : Int32))])) _
        refine XS.iconst X69.here hx rfl (hb hby at_22) ?_
        show Steps p.tables e below (T69.setTop (mkF m 23 #[.val (.int p0), .val (.int p1), .val (.int (2 : Int32)), .val (.int (3 : Int32)), .val (.ref saT), .unset] [(.int (1 : Int32)), (.int (2 : Int32))])) _
        refine XS.icmpYes X69.here hx rfl (pc0 := 23) (pc' := 33) rfl (hb hby at_23) rfl (feq (by decide)).2 (by decide) (by decide) ?_
        show Steps p.tables e below (T69.setTop (mkF m 33 #[.val (.int p0), .val (.int p1), .val (.int (2 : Int32)), .val (.int (3 : Int32)), .val (.ref saT), .unset] [])) _
        refine XS.iloadN X69.here hx rfl (hb hby at_33) rfl ?_
        show Steps p.tables e below (T69.setTop (mkF m 34 #[.val (.int p0), .val (.int p1), .val (.int (2 : Int32)), .val (.int (3 : Int32)), .val (.ref saT), .unset] [(.int (2 : Int32))])) _
        refine XS.iconst X69.here hx rfl (hb hby at_34) ?_
        show Steps p.tables e below (T69.setTop (mkF m 35 #[.val (.int p0), .val (.int p1), .val (.int (2 : Int32)), .val (.int (3 : Int32)), .val (.ref saT), .unset] [(.int (3 : Int32)), (.int (2 : Int32))])) _
        refine XS.icmpYes X69.here hx rfl (pc0 := 35) (pc' := 50) rfl (hb hby at_35) rfl (feq (by decide)).2 (by decide) (by decide) ?_
        show Steps p.tables e below (T69.setTop (mkF m 50 #[.val (.int p0), .val (.int p1), .val (.int (2 : Int32)), .val (.int (3 : Int32)), .val (.ref saT), .unset] [])) _
        exact kZ
      obtain ⟨as70, T70, h70, kk70, ab70, kc70, X70, e70, E70, hS70, hk70, hZ, hown, Ea70, Fc70, Fv70, Ar70, -, -, CR70, -, -, st70⟩ := ldcCH (s := s) (vm0 := s.vm) (EL := own_EL) X69 hx hZ hown (hw _ (List.mem_of_getElem? (i := 17) rfl)) wS e69 hS0 (Nat.zero_le _) (own_EW hw) (by simp [own_EL]) hCH (vs := [46, 32].map Value.int) (z := 2) ⟨by decide, by decide +kernel⟩ (by decide) rfl (g := (mkF m 50 #[.val (.int p0), .val (.int p1), .val (.int (2 : Int32)), .val (.int (3 : Int32)), .val (.ref saT), .unset] [])) rfl (hb hby at_50) (n := 64) (by decide) (by decide) (by decide) (by decide)
      have c71_21 := ha21.ext E70
      have c71_0 := ha0.ext c71_21.2
      have c71_1 := ha1.ext c71_21.2
      have c71_2 := ha2.ext c71_21.2
      have c71_3 := ha3.ext c71_21.2
      have c71_4 := ha4.ext E70
      have c71_5 := ha5.ext E70
      have c71_6 := ha6.ext E70
      have c71_7 := ha7.ext E70
      have c71_8 := ha8.ext E70
      have c71_9 := ha9.ext E70
      have c71_10 := ha10.ext E70
      have c71_11 := ha11.ext E70
      have c71_12 := ha12.ext E70
      have c71_13 := ha13.ext E70
      have c71_14 := ha14.ext E70
      have c71_15 := ha15.ext E70
      have c71_16 := ha16.ext E70
      have c71_17 := ha17.ext E70
      have c71_18 := ha18.ext E70
      have c71_19 := ha19.ext E70
      have c71_20 := ha20.ext c71_21.2
      have Va70 := AV.ofArv Ar70 (n := 2) rfl (by decide)
      have K70 : Keep h0 h70 [] := (Keep.refl h0 []).ext E70
      have Z70 : n0 ≤ h70.size := Nat.le_trans Z0 E70.1
      refine Go.via st70 ?_
      show Go p e below _ (T70.setTop (mkF m 52 #[.val (.int p0), .val (.int p1), .val (.int (2 : Int32)), .val (.int (3 : Int32)), .val (.ref saT), .unset] [(.ref as70)]))
      refine Go.via (T' := T70.setTop (mkF m 63 #[.val (.int p0), .val (.int p1), .val (.int (2 : Int32)), .val (.int (3 : Int32)), .val (.ref saT), .val (.ref as70)] [(.ref as70), (.ref saT)])) (fun tZ kZ => ?_) ?_
      · show Steps p.tables e below (T70.setTop (mkF m 52 #[.val (.int p0), .val (.int p1), .val (.int (2 : Int32)), .val (.int (3 : Int32)), .val (.ref saT), .unset] [(.ref as70)])) _
        refine XS.astore X70.here hx rfl (hb hby at_52) rfl rfl (l' := #[.val (.int p0), .val (.int p1), .val (.int (2 : Int32)), .val (.int (3 : Int32)), .val (.ref saT), .val (.ref as70)]) rfl ?_
        show Steps p.tables e below (T70.setTop (mkF m 54 #[.val (.int p0), .val (.int p1), .val (.int (2 : Int32)), .val (.int (3 : Int32)), .val (.ref saT), .val (.ref as70)] [])) _
        refine XS.aload X70.here hx rfl (hb hby at_54) rfl rfl ?_
        show Steps p.tables e below (T70.setTop (mkF m 56 #[.val (.int p0), .val (.int p1), .val (.int (2 : Int32)), .val (.int (3 : Int32)), .val (.ref saT), .val (.ref as70)] [(.ref saT)])) _
        refine XS.ifnullNo X70.here hx rfl (hb hby at_56) rfl ?_
        show Steps p.tables e below (T70.setTop (mkF m 59 #[.val (.int p0), .val (.int p1), .val (.int (2 : Int32)), .val (.int (3 : Int32)), .val (.ref saT), .val (.ref as70)] [])) _
        refine XS.aload X70.here hx rfl (hb hby at_59) rfl rfl ?_
        show Steps p.tables e below (T70.setTop (mkF m 61 #[.val (.int p0), .val (.int p1), .val (.int (2 : Int32)), .val (.int (3 : Int32)), .val (.ref saT), .val (.ref as70)] [(.ref saT)])) _
        refine XS.aload X70.here hx rfl (hb hby at_61) rfl rfl ?_
        show Steps p.tables e below (T70.setTop (mkF m 63 #[.val (.int p0), .val (.int p1), .val (.int (2 : Int32)), .val (.int (3 : Int32)), .val (.ref saT), .val (.ref as70)] [(.ref as70), (.ref saT)])) _
        exact kZ
      obtain ⟨cq72, kq72, q72a, q72b, q72c⟩ := isOf hZ e70 c71_12
      obtain ⟨_, _, ⟨T72, L72, k72, n72⟩, -, X72, ⟨Lc72, hQ72, l72, y72, z72⟩, st72⟩ := X70.virtualBack hx (y := (⟨"java/lang/String", "equals", "(Ljava/lang/Object;)Z"⟩ : MethodName)) (z := (⟨"java/lang/String", "equals", "(Ljava/lang/Object;)Z"⟩ : MethodName)) hown (mvT hZ (hw _ (List.mem_of_getElem? (i := 25) rfl))) (mvT hZ (hw _ (List.mem_of_getElem? (i := 26) rfl))) (notFace_of_selects (args := #[]) (mvT hZ (hw _ (List.mem_of_getElem? (i := 28) rfl)))) (mvT hZ (hw _ (List.mem_of_getElem? (i := 28) rfl))) (mvT hZ (hw _ (List.mem_of_getElem? (i := 27) rfl))) (by decide) (backOf (W := 0) (rm3n2 l Z a0 hw [] saT as70 baT ab70 (own_t [46, 32]) cs h70 n0 Z70 Ea70 c71_13 Fc70 c71_14 Fv70 c71_15 Va70 c71_20 hcs) hZ (hw _ (List.mem_of_getElem? (i := 29) rfl)) (hw _ (List.mem_of_getElem? (i := 18) rfl)) (by decide) (by decide)) q72a q72c (g := (mkF m 63 #[.val (.int p0), .val (.int p1), .val (.int (2 : Int32)), .val (.int (3 : Int32)), .val (.ref saT), .val (.ref as70)] [(.ref as70), (.ref saT)])) rfl (by rw [hml]; rfl) (Steps.refl _) (argsL := [(.ref as70)]) (rest := []) (lenOf pd_2 rfl) rfl (by show 2 * 0 + _ ≤ _; exact Nat.le_of_eq rfl) (hb hby at_63) (fun _ _ => ⟨rfl, e70, (by decide : 0 + 0 + 0 + 0 + 2 + 0 ≤ _), (by decide : 0 + 0 + 0 + 0 + (64 + 4) + 0 ≤ _)⟩)
      dsimp only [Pt.U, Pt.locs, Pt.cells, Pt.slots] at X72 l72 y72 z72 st72 hQ72
      subst l72 y72 z72
      obtain ⟨rfl, N72q, e72⟩ := hQ72
      have N72 := Fr.app N69 N72q
      refine Go.via (fun t k => st72.trans k) ?_
      show Go p e below _ (T72.setTop (mkF m 66 #[.val (.int p0), .val (.int p1), .val (.int (2 : Int32)), .val (.int (3 : Int32)), .val (.ref saT), .val (.ref as70)] [(.int (f3n2 saT as70 baT ab70 (own_t [46, 32]) cs))]))
      refine Go.via (T' := T72.setTop (mkF m 74 #[.val (.int p0), .val (.int p1), .val (.int (2 : Int32)), .val (.int (3 : Int32)), .val (.ref saT), .val (.ref as70)] [(.int (1 : Int32))])) (fun tZ kZ => ?_) ?_
      · show Steps p.tables e below (T72.setTop (mkF m 66 #[.val (.int p0), .val (.int p1), .val (.int (2 : Int32)), .val (.int (3 : Int32)), .val (.ref saT), .val (.ref as70)] [(.int (f3n2 saT as70 baT ab70 (own_t [46, 32]) cs))])) _
        refine XS.ifNo X72.here hx rfl (hb hby at_66) rfl ((if0 _ _).trans (feq (by rw [own_eq2]; decide)).1) ?_
        show Steps p.tables e below (T72.setTop (mkF m 69 #[.val (.int p0), .val (.int p1), .val (.int (2 : Int32)), .val (.int (3 : Int32)), .val (.ref saT), .val (.ref as70)] [])) _
        refine XS.iconst X72.here hx rfl (hb hby at_69) ?_
        show Steps p.tables e below (T72.setTop (mkF m 70 #[.val (.int p0), .val (.int p1), .val (.int (2 : Int32)), .val (.int (3 : Int32)), .val (.ref saT), .val (.ref as70)] [(.int (1 : Int32))])) _
        refine XS.goto X72.here hx rfl (pc0 := 70) (pc' := 74) rfl (hb hby at_70) (by decide) (by decide) ?_
        show Steps p.tables e below (T72.setTop (mkF m 74 #[.val (.int p0), .val (.int p1), .val (.int (2 : Int32)), .val (.int (3 : Int32)), .val (.ref saT), .val (.ref as70)] [(.int (1 : Int32))])) _
        exact kZ
      refine Go.retNW (s := s) (vm₁ := T70.vm) X72 hx hS70 (by rw [e72]; exact hk70) Bd.notSynchronized (t := .boolean) Bd.returns (by simp) (hb hby at_74) (by decide) (by decide) ?_
      exact ⟨rfl, N72⟩
  · rw [hi]
    rcases own_and3 p1 with hj | hj | hj | hj
    · rw [hj]
      show Go p e below _ (s₁.setTop (mkF m 8 #[.val (.int p0), .val (.int p1), .val (.int (3 : Int32)), .val (.int (0 : Int32)), .unset, .unset] []))
      refine Go.via (T' := s₁.setTop (mkF m 9 #[.val (.int p0), .val (.int p1), .val (.int (3 : Int32)), .val (.int (0 : Int32)), .unset, .unset] [(.int (3 : Int32))])) (fun tZ kZ => ?_) ?_
      · show Steps p.tables e below (s₁.setTop (mkF m 8 #[.val (.int p0), .val (.int p1), .val (.int (3 : Int32)), .val (.int (0 : Int32)), .unset, .unset] [])) _
        refine XS.iloadN X0.here hx rfl (hb hby at_8) rfl ?_
        show Steps p.tables e below (s₁.setTop (mkF m 9 #[.val (.int p0), .val (.int p1), .val (.int (3 : Int32)), .val (.int (0 : Int32)), .unset, .unset] [(.int (3 : Int32))])) _
        exact kZ
      obtain ⟨_, _, ⟨T73, L73, k73, n73⟩, -, X73, ⟨Lc73, hQ73, l73, y73, z73⟩, st73⟩ := Jvm.LawKit.callS X0 hx (y := (⟨"com/example/paratitle/paratitle/titles/HeadingElementSeparatorAfterPinLaw", "pick", "(I)Lcom/example/paratitle/paratitle/titles/HeadingElement;"⟩ : MethodName)) hown (mvT hZ (hw _ (List.mem_of_getElem? (i := 0) rfl))) (mvT hZ (hw _ (List.mem_of_getElem? (i := 1) rfl))) (mvT hZ (hw _ (List.mem_of_getElem? (i := 2) rfl))) (mvT hZ (hw _ (List.mem_of_getElem? (i := 3) rfl))) (by decide) (backOf (W := 0) (rm1 l Z a0 hw [] (3 : Int32) aT aO aN aP h0 n0 Z0 (ha0.ext ha21.2) (ha1.ext ha21.2) (ha2.ext ha21.2) (ha3.ext ha21.2)) hZ (hw _ (List.mem_of_getElem? (i := 3) rfl)) (hw _ (List.mem_of_getElem? (i := 2) rfl)) (by decide) (by decide)) (g := (mkF m 9 #[.val (.int p0), .val (.int p1), .val (.int (3 : Int32)), .val (.int (0 : Int32)), .unset, .unset] [(.int (3 : Int32))])) rfl (by rw [hml]; rfl) (argsL := [(.int (3 : Int32))]) (rest := []) (lenOf pd_0 rfl) rfl (by show 2 * 0 + _ ≤ _; exact Nat.le_of_eq rfl) (hb hby at_9) (fun _ _ => ⟨rfl, e0, (by decide : 0 + 0 ≤ _), (by decide : 0 + 0 ≤ _)⟩)
      dsimp only [Pt.U, Pt.locs, Pt.cells, Pt.slots] at X73 l73 y73 z73 st73 hQ73
      subst l73 y73 z73
      obtain ⟨rfl, N73q, e73⟩ := hQ73
      rw [show (f1 (3 : Int32) aT aO aN aP) = Value.ref aP from rfl] at st73
      have N73 := Fr.app N0 N73q
      refine Go.via st73 ?_
      show Go p e below _ (T73.setTop (mkF m 12 #[.val (.int p0), .val (.int p1), .val (.int (3 : Int32)), .val (.int (0 : Int32)), .unset, .unset] [(.ref aP)]))
      refine Go.via (T' := T73.setTop (mkF m 13 #[.val (.int p0), .val (.int p1), .val (.int (3 : Int32)), .val (.int (0 : Int32)), .unset, .unset] [(.int (0 : Int32)), (.ref aP)])) (fun tZ kZ => ?_) ?_
      · show Steps p.tables e below (T73.setTop (mkF m 12 #[.val (.int p0), .val (.int p1), .val (.int (3 : Int32)), .val (.int (0 : Int32)), .unset, .unset] [(.ref aP)])) _
        refine XS.iloadN X73.here hx rfl (hb hby at_12) rfl ?_
        show Steps p.tables e below (T73.setTop (mkF m 13 #[.val (.int p0), .val (.int p1), .val (.int (3 : Int32)), .val (.int (0 : Int32)), .unset, .unset] [(.int (0 : Int32)), (.ref aP)])) _
        exact kZ
      obtain ⟨_, _, ⟨T74, L74, k74, n74⟩, -, X74, ⟨Lc74, hQ74, l74, y74, z74⟩, st74⟩ := Jvm.LawKit.callS X73 hx (y := (⟨"com/example/paratitle/paratitle/titles/HeadingElementSeparatorAfterPinLaw", "pick", "(I)Lcom/example/paratitle/paratitle/titles/HeadingElement;"⟩ : MethodName)) hown (mvT hZ (hw _ (List.mem_of_getElem? (i := 0) rfl))) (mvT hZ (hw _ (List.mem_of_getElem? (i := 1) rfl))) (mvT hZ (hw _ (List.mem_of_getElem? (i := 2) rfl))) (mvT hZ (hw _ (List.mem_of_getElem? (i := 3) rfl))) (by decide) (backOf (W := 1) (rm1 l Z a0 hw [] (0 : Int32) aT aO aN aP h0 n0 Z0 (ha0.ext ha21.2) (ha1.ext ha21.2) (ha2.ext ha21.2) (ha3.ext ha21.2)) hZ (hw _ (List.mem_of_getElem? (i := 3) rfl)) (hw _ (List.mem_of_getElem? (i := 2) rfl)) (by decide) (by decide)) (g := (mkF m 13 #[.val (.int p0), .val (.int p1), .val (.int (3 : Int32)), .val (.int (0 : Int32)), .unset, .unset] [(.int (0 : Int32)), (.ref aP)])) rfl (by rw [hml]; rfl) (argsL := [(.int (0 : Int32))]) (rest := [(.ref aP)]) (lenOf pd_0 rfl) rfl (by show 2 * 0 + _ ≤ _; exact Nat.le_of_eq rfl) (hb hby at_13) (fun _ _ => ⟨rfl, e73, (by decide : 0 + 0 + 0 ≤ _), (by decide : 0 + 0 + 0 ≤ _)⟩)
      dsimp only [Pt.U, Pt.locs, Pt.cells, Pt.slots] at X74 l74 y74 z74 st74 hQ74
      subst l74 y74 z74
      obtain ⟨rfl, N74q, e74⟩ := hQ74
      rw [show (f1 (0 : Int32) aT aO aN aP) = Value.ref aT from rfl] at st74
      have N74 := Fr.app N73 N74q
      refine Go.via st74 ?_
      show Go p e below _ (T74.setTop (mkF m 16 #[.val (.int p0), .val (.int p1), .val (.int (3 : Int32)), .val (.int (0 : Int32)), .unset, .unset] [(.ref aT), (.ref aP)]))
      obtain ⟨cq75, kq75, q75a, q75b, q75c⟩ := isOf hZ e74 ha7
      obtain ⟨_, _, ⟨T75, L75, k75, n75⟩, -, X75, ⟨Lc75, hQ75, l75, y75, z75⟩, st75⟩ := X74.virtualBack hx (y := (⟨"com/example/paratitle/paratitle/titles/HeadingElement", "separatorAfter", "(Lcom/example/paratitle/paratitle/titles/HeadingElement;)Ljava/lang/String;"⟩ : MethodName)) (z := (⟨"com/example/paratitle/paratitle/titles/HeadingElement", "separatorAfter", "(Lcom/example/paratitle/paratitle/titles/HeadingElement;)Ljava/lang/String;"⟩ : MethodName)) hown (mvT hZ (hw _ (List.mem_of_getElem? (i := 9) rfl))) (mvT hZ (hw _ (List.mem_of_getElem? (i := 10) rfl))) (notFace_of_selects (args := #[]) (mvT hZ (hw _ (List.mem_of_getElem? (i := 12) rfl)))) (mvT hZ (hw _ (List.mem_of_getElem? (i := 12) rfl))) (mvT hZ (hw _ (List.mem_of_getElem? (i := 11) rfl))) (by decide) (backOf (W := 0) (rm2p l Z a0 hw [] aP aT aN saT h0 n0 Z0 (ha3.ext ha21.2) (ha2.ext ha21.2) ha11 hne_aT_aN) hZ (hw _ (List.mem_of_getElem? (i := 13) rfl)) (hw _ (List.mem_of_getElem? (i := 5) rfl)) (by decide) (by decide)) q75a q75c (g := (mkF m 16 #[.val (.int p0), .val (.int p1), .val (.int (3 : Int32)), .val (.int (0 : Int32)), .unset, .unset] [(.ref aT), (.ref aP)])) rfl (by rw [hml]; rfl) (Steps.refl _) (argsL := [(.ref aT)]) (rest := []) (lenOf pd_1 rfl) rfl (by show 2 * 0 + _ ≤ _; exact Nat.le_of_eq rfl) (hb hby at_16) (fun _ _ => ⟨rfl, e74, (by decide : 0 + 0 + 0 + 0 ≤ _), (by decide : 0 + 0 + 0 + 0 ≤ _)⟩)
      dsimp only [Pt.U, Pt.locs, Pt.cells, Pt.slots] at X75 l75 y75 z75 st75 hQ75
      subst l75 y75 z75
      obtain ⟨rfl, N75q, e75⟩ := hQ75
      have N75 := Fr.app N74 N75q
      refine Go.via (fun t k => st75.trans k) ?_
      show Go p e below _ (T75.setTop (mkF m 19 #[.val (.int p0), .val (.int p1), .val (.int (3 : Int32)), .val (.int (0 : Int32)), .unset, .unset] [(.ref saT)]))
      refine Go.via (T' := T75.setTop (mkF m 50 #[.val (.int p0), .val (.int p1), .val (.int (3 : Int32)), .val (.int (0 : Int32)), .val (.ref saT), .unset] [])) (fun tZ kZ => ?_) ?_
      · show Steps p.tables e below (T75.setTop (mkF m 19 #[.val (.int p0), .val (.int p1), .val (.int (3 : Int32)), .val (.int (0 : Int32)), .unset, .unset] [(.ref saT)])) _
        refine XS.astore X75.here hx rfl (hb hby at_19) rfl rfl (l' := #[.val (.int p0), .val (.int p1), .val (.int (3 : Int32)), .val (.int (0 : Int32)), .val (.ref saT), .unset]) rfl ?_
        show Steps p.tables e below (T75.setTop (mkF m 21 #[.val (.int p0), .val (.int p1), .val (.int (3 : Int32)), .val (.int (0 : Int32)), .val (.ref saT), .unset] [])) _
        refine XS.iloadN X75.here hx rfl (hb hby at_21) rfl ?_
        show Steps p.tables e below (T75.setTop (mkF m 22 #[.val (.int p0), .val (.int p1), .val (.int (3 : Int32)), .val (.int (0 : Int32)), .val (.ref saT), .unset] [(.int (3 : Int32))])) _
        refine XS.iconst X75.here hx rfl (hb hby at_22) ?_
        show Steps p.tables e below (T75.setTop (mkF m 23 #[.val (.int p0), .val (.int p1), .val (.int (3 : Int32)), .val (.int (0 : Int32)), .val (.ref saT), .unset] [(.int (1 : Int32)), (.int (3 : Int32))])) _
        refine XS.icmpYes X75.here hx rfl (pc0 := 23) (pc' := 33) rfl (hb hby at_23) rfl (feq (by decide)).2 (by decide) (by decide) ?_
        show Steps p.tables e below (T75.setTop (mkF m 33 #[.val (.int p0), .val (.int p1), .val (.int (3 : Int32)), .val (.int (0 : Int32)), .val (.ref saT), .unset] [])) _
        refine XS.iloadN X75.here hx rfl (hb hby at_33) rfl ?_
        show Steps p.tables e below (T75.setTop (mkF m 34 #[.val (.int p0), .val (.int p1), .val (.int (3 : Int32)), .val (.int (0 : Int32)), .val (.ref saT), .unset] [(.int (3 : Int32))])) _
        refine XS.iconst X75.here hx rfl (hb hby at_34) ?_
        show Steps p.tables e below (T75.setTop (mkF m 35 #[.val (.int p0), .val (.int p1), .val (.int (3 : Int32)), .val (.int (0 : Int32)), .val (.ref saT), .unset] [(.int (3 : Int32)), (.int (3 : Int32))])) _
        refine XS.icmpNo X75.here hx rfl (hb hby at_35) rfl (teq (by decide)).2 ?_
        show Steps p.tables e below (T75.setTop (mkF m 38 #[.val (.int p0), .val (.int p1), .val (.int (3 : Int32)), .val (.int (0 : Int32)), .val (.ref saT), .unset] [])) _
        refine XS.iloadN X75.here hx rfl (hb hby at_38) rfl ?_
        show Steps p.tables e below (T75.setTop (mkF m 39 #[.val (.int p0), .val (.int p1), .val (.int (3 : Int32)), .val (.int (0 : Int32)), .val (.ref saT), .unset] [(.int (0 : Int32))])) _
        refine XS.iconst X75.here hx rfl (hb hby at_39) ?_
        show Steps p.tables e below (T75.setTop (mkF m 40 #[.val (.int p0), .val (.int p1), .val (.int (3 : Int32)), .val (.int (0 : Int32)), .val (.ref saT), .unset] [(.int (2 : Int32)), (.int (0 : Int32))])) _
        refine XS.icmpYes X75.here hx rfl (pc0 := 40) (pc' := 50) rfl (hb hby at_40) rfl (feq (by decide)).2 (by decide) (by decide) ?_
        show Steps p.tables e below (T75.setTop (mkF m 50 #[.val (.int p0), .val (.int p1), .val (.int (3 : Int32)), .val (.int (0 : Int32)), .val (.ref saT), .unset] [])) _
        exact kZ
      obtain ⟨as76, T76, h76, kk76, ab76, kc76, X76, e76, E76, hS76, hk76, hZ, hown, Ea76, Fc76, Fv76, Ar76, -, -, CR76, -, -, st76⟩ := ldcCH (s := s) (vm0 := s.vm) (EL := own_EL) X75 hx hZ hown (hw _ (List.mem_of_getElem? (i := 17) rfl)) wS e75 hS0 (Nat.zero_le _) (own_EW hw) (by simp [own_EL]) hCH (vs := [46, 32].map Value.int) (z := 2) ⟨by decide, by decide +kernel⟩ (by decide) rfl (g := (mkF m 50 #[.val (.int p0), .val (.int p1), .val (.int (3 : Int32)), .val (.int (0 : Int32)), .val (.ref saT), .unset] [])) rfl (hb hby at_50) (n := 64) (by decide) (by decide) (by decide) (by decide)
      have c77_21 := ha21.ext E76
      have c77_0 := ha0.ext c77_21.2
      have c77_1 := ha1.ext c77_21.2
      have c77_2 := ha2.ext c77_21.2
      have c77_3 := ha3.ext c77_21.2
      have c77_4 := ha4.ext E76
      have c77_5 := ha5.ext E76
      have c77_6 := ha6.ext E76
      have c77_7 := ha7.ext E76
      have c77_8 := ha8.ext E76
      have c77_9 := ha9.ext E76
      have c77_10 := ha10.ext E76
      have c77_11 := ha11.ext E76
      have c77_12 := ha12.ext E76
      have c77_13 := ha13.ext E76
      have c77_14 := ha14.ext E76
      have c77_15 := ha15.ext E76
      have c77_16 := ha16.ext E76
      have c77_17 := ha17.ext E76
      have c77_18 := ha18.ext E76
      have c77_19 := ha19.ext E76
      have c77_20 := ha20.ext c77_21.2
      have Va76 := AV.ofArv Ar76 (n := 2) rfl (by decide)
      have K76 : Keep h0 h76 [] := (Keep.refl h0 []).ext E76
      have Z76 : n0 ≤ h76.size := Nat.le_trans Z0 E76.1
      refine Go.via st76 ?_
      show Go p e below _ (T76.setTop (mkF m 52 #[.val (.int p0), .val (.int p1), .val (.int (3 : Int32)), .val (.int (0 : Int32)), .val (.ref saT), .unset] [(.ref as76)]))
      refine Go.via (T' := T76.setTop (mkF m 63 #[.val (.int p0), .val (.int p1), .val (.int (3 : Int32)), .val (.int (0 : Int32)), .val (.ref saT), .val (.ref as76)] [(.ref as76), (.ref saT)])) (fun tZ kZ => ?_) ?_
      · show Steps p.tables e below (T76.setTop (mkF m 52 #[.val (.int p0), .val (.int p1), .val (.int (3 : Int32)), .val (.int (0 : Int32)), .val (.ref saT), .unset] [(.ref as76)])) _
        refine XS.astore X76.here hx rfl (hb hby at_52) rfl rfl (l' := #[.val (.int p0), .val (.int p1), .val (.int (3 : Int32)), .val (.int (0 : Int32)), .val (.ref saT), .val (.ref as76)]) rfl ?_
        show Steps p.tables e below (T76.setTop (mkF m 54 #[.val (.int p0), .val (.int p1), .val (.int (3 : Int32)), .val (.int (0 : Int32)), .val (.ref saT), .val (.ref as76)] [])) _
        refine XS.aload X76.here hx rfl (hb hby at_54) rfl rfl ?_
        show Steps p.tables e below (T76.setTop (mkF m 56 #[.val (.int p0), .val (.int p1), .val (.int (3 : Int32)), .val (.int (0 : Int32)), .val (.ref saT), .val (.ref as76)] [(.ref saT)])) _
        refine XS.ifnullNo X76.here hx rfl (hb hby at_56) rfl ?_
        show Steps p.tables e below (T76.setTop (mkF m 59 #[.val (.int p0), .val (.int p1), .val (.int (3 : Int32)), .val (.int (0 : Int32)), .val (.ref saT), .val (.ref as76)] [])) _
        refine XS.aload X76.here hx rfl (hb hby at_59) rfl rfl ?_
        show Steps p.tables e below (T76.setTop (mkF m 61 #[.val (.int p0), .val (.int p1), .val (.int (3 : Int32)), .val (.int (0 : Int32)), .val (.ref saT), .val (.ref as76)] [(.ref saT)])) _
        refine XS.aload X76.here hx rfl (hb hby at_61) rfl rfl ?_
        show Steps p.tables e below (T76.setTop (mkF m 63 #[.val (.int p0), .val (.int p1), .val (.int (3 : Int32)), .val (.int (0 : Int32)), .val (.ref saT), .val (.ref as76)] [(.ref as76), (.ref saT)])) _
        exact kZ
      obtain ⟨cq78, kq78, q78a, q78b, q78c⟩ := isOf hZ e76 c77_12
      obtain ⟨_, _, ⟨T78, L78, k78, n78⟩, -, X78, ⟨Lc78, hQ78, l78, y78, z78⟩, st78⟩ := X76.virtualBack hx (y := (⟨"java/lang/String", "equals", "(Ljava/lang/Object;)Z"⟩ : MethodName)) (z := (⟨"java/lang/String", "equals", "(Ljava/lang/Object;)Z"⟩ : MethodName)) hown (mvT hZ (hw _ (List.mem_of_getElem? (i := 25) rfl))) (mvT hZ (hw _ (List.mem_of_getElem? (i := 26) rfl))) (notFace_of_selects (args := #[]) (mvT hZ (hw _ (List.mem_of_getElem? (i := 28) rfl)))) (mvT hZ (hw _ (List.mem_of_getElem? (i := 28) rfl))) (mvT hZ (hw _ (List.mem_of_getElem? (i := 27) rfl))) (by decide) (backOf (W := 0) (rm3n2 l Z a0 hw [] saT as76 baT ab76 (own_t [46, 32]) cs h76 n0 Z76 Ea76 c77_13 Fc76 c77_14 Fv76 c77_15 Va76 c77_20 hcs) hZ (hw _ (List.mem_of_getElem? (i := 29) rfl)) (hw _ (List.mem_of_getElem? (i := 18) rfl)) (by decide) (by decide)) q78a q78c (g := (mkF m 63 #[.val (.int p0), .val (.int p1), .val (.int (3 : Int32)), .val (.int (0 : Int32)), .val (.ref saT), .val (.ref as76)] [(.ref as76), (.ref saT)])) rfl (by rw [hml]; rfl) (Steps.refl _) (argsL := [(.ref as76)]) (rest := []) (lenOf pd_2 rfl) rfl (by show 2 * 0 + _ ≤ _; exact Nat.le_of_eq rfl) (hb hby at_63) (fun _ _ => ⟨rfl, e76, (by decide : 0 + 0 + 0 + 0 + 2 + 0 ≤ _), (by decide : 0 + 0 + 0 + 0 + (64 + 4) + 0 ≤ _)⟩)
      dsimp only [Pt.U, Pt.locs, Pt.cells, Pt.slots] at X78 l78 y78 z78 st78 hQ78
      subst l78 y78 z78
      obtain ⟨rfl, N78q, e78⟩ := hQ78
      have N78 := Fr.app N75 N78q
      refine Go.via (fun t k => st78.trans k) ?_
      show Go p e below _ (T78.setTop (mkF m 66 #[.val (.int p0), .val (.int p1), .val (.int (3 : Int32)), .val (.int (0 : Int32)), .val (.ref saT), .val (.ref as76)] [(.int (f3n2 saT as76 baT ab76 (own_t [46, 32]) cs))]))
      refine Go.via (T' := T78.setTop (mkF m 74 #[.val (.int p0), .val (.int p1), .val (.int (3 : Int32)), .val (.int (0 : Int32)), .val (.ref saT), .val (.ref as76)] [(.int (1 : Int32))])) (fun tZ kZ => ?_) ?_
      · show Steps p.tables e below (T78.setTop (mkF m 66 #[.val (.int p0), .val (.int p1), .val (.int (3 : Int32)), .val (.int (0 : Int32)), .val (.ref saT), .val (.ref as76)] [(.int (f3n2 saT as76 baT ab76 (own_t [46, 32]) cs))])) _
        refine XS.ifNo X78.here hx rfl (hb hby at_66) rfl ((if0 _ _).trans (feq (by rw [own_eq2]; decide)).1) ?_
        show Steps p.tables e below (T78.setTop (mkF m 69 #[.val (.int p0), .val (.int p1), .val (.int (3 : Int32)), .val (.int (0 : Int32)), .val (.ref saT), .val (.ref as76)] [])) _
        refine XS.iconst X78.here hx rfl (hb hby at_69) ?_
        show Steps p.tables e below (T78.setTop (mkF m 70 #[.val (.int p0), .val (.int p1), .val (.int (3 : Int32)), .val (.int (0 : Int32)), .val (.ref saT), .val (.ref as76)] [(.int (1 : Int32))])) _
        refine XS.goto X78.here hx rfl (pc0 := 70) (pc' := 74) rfl (hb hby at_70) (by decide) (by decide) ?_
        show Steps p.tables e below (T78.setTop (mkF m 74 #[.val (.int p0), .val (.int p1), .val (.int (3 : Int32)), .val (.int (0 : Int32)), .val (.ref saT), .val (.ref as76)] [(.int (1 : Int32))])) _
        exact kZ
      refine Go.retNW (s := s) (vm₁ := T76.vm) X78 hx hS76 (by rw [e78]; exact hk76) Bd.notSynchronized (t := .boolean) Bd.returns (by simp) (hb hby at_74) (by decide) (by decide) ?_
      exact ⟨rfl, N78⟩
    · rw [hj]
      show Go p e below _ (s₁.setTop (mkF m 8 #[.val (.int p0), .val (.int p1), .val (.int (3 : Int32)), .val (.int (1 : Int32)), .unset, .unset] []))
      refine Go.via (T' := s₁.setTop (mkF m 9 #[.val (.int p0), .val (.int p1), .val (.int (3 : Int32)), .val (.int (1 : Int32)), .unset, .unset] [(.int (3 : Int32))])) (fun tZ kZ => ?_) ?_
      · show Steps p.tables e below (s₁.setTop (mkF m 8 #[.val (.int p0), .val (.int p1), .val (.int (3 : Int32)), .val (.int (1 : Int32)), .unset, .unset] [])) _
        refine XS.iloadN X0.here hx rfl (hb hby at_8) rfl ?_
        show Steps p.tables e below (s₁.setTop (mkF m 9 #[.val (.int p0), .val (.int p1), .val (.int (3 : Int32)), .val (.int (1 : Int32)), .unset, .unset] [(.int (3 : Int32))])) _
        exact kZ
      obtain ⟨_, _, ⟨T79, L79, k79, n79⟩, -, X79, ⟨Lc79, hQ79, l79, y79, z79⟩, st79⟩ := Jvm.LawKit.callS X0 hx (y := (⟨"com/example/paratitle/paratitle/titles/HeadingElementSeparatorAfterPinLaw", "pick", "(I)Lcom/example/paratitle/paratitle/titles/HeadingElement;"⟩ : MethodName)) hown (mvT hZ (hw _ (List.mem_of_getElem? (i := 0) rfl))) (mvT hZ (hw _ (List.mem_of_getElem? (i := 1) rfl))) (mvT hZ (hw _ (List.mem_of_getElem? (i := 2) rfl))) (mvT hZ (hw _ (List.mem_of_getElem? (i := 3) rfl))) (by decide) (backOf (W := 0) (rm1 l Z a0 hw [] (3 : Int32) aT aO aN aP h0 n0 Z0 (ha0.ext ha21.2) (ha1.ext ha21.2) (ha2.ext ha21.2) (ha3.ext ha21.2)) hZ (hw _ (List.mem_of_getElem? (i := 3) rfl)) (hw _ (List.mem_of_getElem? (i := 2) rfl)) (by decide) (by decide)) (g := (mkF m 9 #[.val (.int p0), .val (.int p1), .val (.int (3 : Int32)), .val (.int (1 : Int32)), .unset, .unset] [(.int (3 : Int32))])) rfl (by rw [hml]; rfl) (argsL := [(.int (3 : Int32))]) (rest := []) (lenOf pd_0 rfl) rfl (by show 2 * 0 + _ ≤ _; exact Nat.le_of_eq rfl) (hb hby at_9) (fun _ _ => ⟨rfl, e0, (by decide : 0 + 0 ≤ _), (by decide : 0 + 0 ≤ _)⟩)
      dsimp only [Pt.U, Pt.locs, Pt.cells, Pt.slots] at X79 l79 y79 z79 st79 hQ79
      subst l79 y79 z79
      obtain ⟨rfl, N79q, e79⟩ := hQ79
      rw [show (f1 (3 : Int32) aT aO aN aP) = Value.ref aP from rfl] at st79
      have N79 := Fr.app N0 N79q
      refine Go.via st79 ?_
      show Go p e below _ (T79.setTop (mkF m 12 #[.val (.int p0), .val (.int p1), .val (.int (3 : Int32)), .val (.int (1 : Int32)), .unset, .unset] [(.ref aP)]))
      refine Go.via (T' := T79.setTop (mkF m 13 #[.val (.int p0), .val (.int p1), .val (.int (3 : Int32)), .val (.int (1 : Int32)), .unset, .unset] [(.int (1 : Int32)), (.ref aP)])) (fun tZ kZ => ?_) ?_
      · show Steps p.tables e below (T79.setTop (mkF m 12 #[.val (.int p0), .val (.int p1), .val (.int (3 : Int32)), .val (.int (1 : Int32)), .unset, .unset] [(.ref aP)])) _
        refine XS.iloadN X79.here hx rfl (hb hby at_12) rfl ?_
        show Steps p.tables e below (T79.setTop (mkF m 13 #[.val (.int p0), .val (.int p1), .val (.int (3 : Int32)), .val (.int (1 : Int32)), .unset, .unset] [(.int (1 : Int32)), (.ref aP)])) _
        exact kZ
      obtain ⟨_, _, ⟨T80, L80, k80, n80⟩, -, X80, ⟨Lc80, hQ80, l80, y80, z80⟩, st80⟩ := Jvm.LawKit.callS X79 hx (y := (⟨"com/example/paratitle/paratitle/titles/HeadingElementSeparatorAfterPinLaw", "pick", "(I)Lcom/example/paratitle/paratitle/titles/HeadingElement;"⟩ : MethodName)) hown (mvT hZ (hw _ (List.mem_of_getElem? (i := 0) rfl))) (mvT hZ (hw _ (List.mem_of_getElem? (i := 1) rfl))) (mvT hZ (hw _ (List.mem_of_getElem? (i := 2) rfl))) (mvT hZ (hw _ (List.mem_of_getElem? (i := 3) rfl))) (by decide) (backOf (W := 1) (rm1 l Z a0 hw [] (1 : Int32) aT aO aN aP h0 n0 Z0 (ha0.ext ha21.2) (ha1.ext ha21.2) (ha2.ext ha21.2) (ha3.ext ha21.2)) hZ (hw _ (List.mem_of_getElem? (i := 3) rfl)) (hw _ (List.mem_of_getElem? (i := 2) rfl)) (by decide) (by decide)) (g := (mkF m 13 #[.val (.int p0), .val (.int p1), .val (.int (3 : Int32)), .val (.int (1 : Int32)), .unset, .unset] [(.int (1 : Int32)), (.ref aP)])) rfl (by rw [hml]; rfl) (argsL := [(.int (1 : Int32))]) (rest := [(.ref aP)]) (lenOf pd_0 rfl) rfl (by show 2 * 0 + _ ≤ _; exact Nat.le_of_eq rfl) (hb hby at_13) (fun _ _ => ⟨rfl, e79, (by decide : 0 + 0 + 0 ≤ _), (by decide : 0 + 0 + 0 ≤ _)⟩)
      dsimp only [Pt.U, Pt.locs, Pt.cells, Pt.slots] at X80 l80 y80 z80 st80 hQ80
      subst l80 y80 z80
      obtain ⟨rfl, N80q, e80⟩ := hQ80
      rw [show (f1 (1 : Int32) aT aO aN aP) = Value.ref aO from rfl] at st80
      have N80 := Fr.app N79 N80q
      refine Go.via st80 ?_
      show Go p e below _ (T80.setTop (mkF m 16 #[.val (.int p0), .val (.int p1), .val (.int (3 : Int32)), .val (.int (1 : Int32)), .unset, .unset] [(.ref aO), (.ref aP)]))
      obtain ⟨cq81, kq81, q81a, q81b, q81c⟩ := isOf hZ e80 ha7
      obtain ⟨_, _, ⟨T81, L81, k81, n81⟩, -, X81, ⟨Lc81, hQ81, l81, y81, z81⟩, st81⟩ := X80.virtualBack hx (y := (⟨"com/example/paratitle/paratitle/titles/HeadingElement", "separatorAfter", "(Lcom/example/paratitle/paratitle/titles/HeadingElement;)Ljava/lang/String;"⟩ : MethodName)) (z := (⟨"com/example/paratitle/paratitle/titles/HeadingElement", "separatorAfter", "(Lcom/example/paratitle/paratitle/titles/HeadingElement;)Ljava/lang/String;"⟩ : MethodName)) hown (mvT hZ (hw _ (List.mem_of_getElem? (i := 9) rfl))) (mvT hZ (hw _ (List.mem_of_getElem? (i := 10) rfl))) (notFace_of_selects (args := #[]) (mvT hZ (hw _ (List.mem_of_getElem? (i := 12) rfl)))) (mvT hZ (hw _ (List.mem_of_getElem? (i := 12) rfl))) (mvT hZ (hw _ (List.mem_of_getElem? (i := 11) rfl))) (by decide) (backOf (W := 0) (rm2p l Z a0 hw [] aP aO aN saT h0 n0 Z0 (ha3.ext ha21.2) (ha2.ext ha21.2) ha11 hne_aO_aN) hZ (hw _ (List.mem_of_getElem? (i := 13) rfl)) (hw _ (List.mem_of_getElem? (i := 5) rfl)) (by decide) (by decide)) q81a q81c (g := (mkF m 16 #[.val (.int p0), .val (.int p1), .val (.int (3 : Int32)), .val (.int (1 : Int32)), .unset, .unset] [(.ref aO), (.ref aP)])) rfl (by rw [hml]; rfl) (Steps.refl _) (argsL := [(.ref aO)]) (rest := []) (lenOf pd_1 rfl) rfl (by show 2 * 0 + _ ≤ _; exact Nat.le_of_eq rfl) (hb hby at_16) (fun _ _ => ⟨rfl, e80, (by decide : 0 + 0 + 0 + 0 ≤ _), (by decide : 0 + 0 + 0 + 0 ≤ _)⟩)
      dsimp only [Pt.U, Pt.locs, Pt.cells, Pt.slots] at X81 l81 y81 z81 st81 hQ81
      subst l81 y81 z81
      obtain ⟨rfl, N81q, e81⟩ := hQ81
      have N81 := Fr.app N80 N81q
      refine Go.via (fun t k => st81.trans k) ?_
      show Go p e below _ (T81.setTop (mkF m 19 #[.val (.int p0), .val (.int p1), .val (.int (3 : Int32)), .val (.int (1 : Int32)), .unset, .unset] [(.ref saT)]))
      refine Go.via (T' := T81.setTop (mkF m 50 #[.val (.int p0), .val (.int p1), .val (.int (3 : Int32)), .val (.int (1 : Int32)), .val (.ref saT), .unset] [])) (fun tZ kZ => ?_) ?_
      · show Steps p.tables e below (T81.setTop (mkF m 19 #[.val (.int p0), .val (.int p1), .val (.int (3 : Int32)), .val (.int (1 : Int32)), .unset, .unset] [(.ref saT)])) _
        refine XS.astore X81.here hx rfl (hb hby at_19) rfl rfl (l' := #[.val (.int p0), .val (.int p1), .val (.int (3 : Int32)), .val (.int (1 : Int32)), .val (.ref saT), .unset]) rfl ?_
        show Steps p.tables e below (T81.setTop (mkF m 21 #[.val (.int p0), .val (.int p1), .val (.int (3 : Int32)), .val (.int (1 : Int32)), .val (.ref saT), .unset] [])) _
        refine XS.iloadN X81.here hx rfl (hb hby at_21) rfl ?_
        show Steps p.tables e below (T81.setTop (mkF m 22 #[.val (.int p0), .val (.int p1), .val (.int (3 : Int32)), .val (.int (1 : Int32)), .val (.ref saT), .unset] [(.int (3 : Int32))])) _
        refine XS.iconst X81.here hx rfl (hb hby at_22) ?_
        show Steps p.tables e below (T81.setTop (mkF m 23 #[.val (.int p0), .val (.int p1), .val (.int (3 : Int32)), .val (.int (1 : Int32)), .val (.ref saT), .unset] [(.int (1 : Int32)), (.int (3 : Int32))])) _
        refine XS.icmpYes X81.here hx rfl (pc0 := 23) (pc' := 33) rfl (hb hby at_23) rfl (feq (by decide)).2 (by decide) (by decide) ?_
        show Steps p.tables e below (T81.setTop (mkF m 33 #[.val (.int p0), .val (.int p1), .val (.int (3 : Int32)), .val (.int (1 : Int32)), .val (.ref saT), .unset] [])) _
        refine XS.iloadN X81.here hx rfl (hb hby at_33) rfl ?_
        show Steps p.tables e below (T81.setTop (mkF m 34 #[.val (.int p0), .val (.int p1), .val (.int (3 : Int32)), .val (.int (1 : Int32)), .val (.ref saT), .unset] [(.int (3 : Int32))])) _
        refine XS.iconst X81.here hx rfl (hb hby at_34) ?_
        show Steps p.tables e below (T81.setTop (mkF m 35 #[.val (.int p0), .val (.int p1), .val (.int (3 : Int32)), .val (.int (1 : Int32)), .val (.ref saT), .unset] [(.int (3 : Int32)), (.int (3 : Int32))])) _
        refine XS.icmpNo X81.here hx rfl (hb hby at_35) rfl (teq (by decide)).2 ?_
        show Steps p.tables e below (T81.setTop (mkF m 38 #[.val (.int p0), .val (.int p1), .val (.int (3 : Int32)), .val (.int (1 : Int32)), .val (.ref saT), .unset] [])) _
        refine XS.iloadN X81.here hx rfl (hb hby at_38) rfl ?_
        show Steps p.tables e below (T81.setTop (mkF m 39 #[.val (.int p0), .val (.int p1), .val (.int (3 : Int32)), .val (.int (1 : Int32)), .val (.ref saT), .unset] [(.int (1 : Int32))])) _
        refine XS.iconst X81.here hx rfl (hb hby at_39) ?_
        show Steps p.tables e below (T81.setTop (mkF m 40 #[.val (.int p0), .val (.int p1), .val (.int (3 : Int32)), .val (.int (1 : Int32)), .val (.ref saT), .unset] [(.int (2 : Int32)), (.int (1 : Int32))])) _
        refine XS.icmpYes X81.here hx rfl (pc0 := 40) (pc' := 50) rfl (hb hby at_40) rfl (feq (by decide)).2 (by decide) (by decide) ?_
        show Steps p.tables e below (T81.setTop (mkF m 50 #[.val (.int p0), .val (.int p1), .val (.int (3 : Int32)), .val (.int (1 : Int32)), .val (.ref saT), .unset] [])) _
        exact kZ
      obtain ⟨as82, T82, h82, kk82, ab82, kc82, X82, e82, E82, hS82, hk82, hZ, hown, Ea82, Fc82, Fv82, Ar82, -, -, CR82, -, -, st82⟩ := ldcCH (s := s) (vm0 := s.vm) (EL := own_EL) X81 hx hZ hown (hw _ (List.mem_of_getElem? (i := 17) rfl)) wS e81 hS0 (Nat.zero_le _) (own_EW hw) (by simp [own_EL]) hCH (vs := [46, 32].map Value.int) (z := 2) ⟨by decide, by decide +kernel⟩ (by decide) rfl (g := (mkF m 50 #[.val (.int p0), .val (.int p1), .val (.int (3 : Int32)), .val (.int (1 : Int32)), .val (.ref saT), .unset] [])) rfl (hb hby at_50) (n := 64) (by decide) (by decide) (by decide) (by decide)
      have c83_21 := ha21.ext E82
      have c83_0 := ha0.ext c83_21.2
      have c83_1 := ha1.ext c83_21.2
      have c83_2 := ha2.ext c83_21.2
      have c83_3 := ha3.ext c83_21.2
      have c83_4 := ha4.ext E82
      have c83_5 := ha5.ext E82
      have c83_6 := ha6.ext E82
      have c83_7 := ha7.ext E82
      have c83_8 := ha8.ext E82
      have c83_9 := ha9.ext E82
      have c83_10 := ha10.ext E82
      have c83_11 := ha11.ext E82
      have c83_12 := ha12.ext E82
      have c83_13 := ha13.ext E82
      have c83_14 := ha14.ext E82
      have c83_15 := ha15.ext E82
      have c83_16 := ha16.ext E82
      have c83_17 := ha17.ext E82
      have c83_18 := ha18.ext E82
      have c83_19 := ha19.ext E82
      have c83_20 := ha20.ext c83_21.2
      have Va82 := AV.ofArv Ar82 (n := 2) rfl (by decide)
      have K82 : Keep h0 h82 [] := (Keep.refl h0 []).ext E82
      have Z82 : n0 ≤ h82.size := Nat.le_trans Z0 E82.1
      refine Go.via st82 ?_
      show Go p e below _ (T82.setTop (mkF m 52 #[.val (.int p0), .val (.int p1), .val (.int (3 : Int32)), .val (.int (1 : Int32)), .val (.ref saT), .unset] [(.ref as82)]))
      refine Go.via (T' := T82.setTop (mkF m 63 #[.val (.int p0), .val (.int p1), .val (.int (3 : Int32)), .val (.int (1 : Int32)), .val (.ref saT), .val (.ref as82)] [(.ref as82), (.ref saT)])) (fun tZ kZ => ?_) ?_
      · show Steps p.tables e below (T82.setTop (mkF m 52 #[.val (.int p0), .val (.int p1), .val (.int (3 : Int32)), .val (.int (1 : Int32)), .val (.ref saT), .unset] [(.ref as82)])) _
        refine XS.astore X82.here hx rfl (hb hby at_52) rfl rfl (l' := #[.val (.int p0), .val (.int p1), .val (.int (3 : Int32)), .val (.int (1 : Int32)), .val (.ref saT), .val (.ref as82)]) rfl ?_
        show Steps p.tables e below (T82.setTop (mkF m 54 #[.val (.int p0), .val (.int p1), .val (.int (3 : Int32)), .val (.int (1 : Int32)), .val (.ref saT), .val (.ref as82)] [])) _
        refine XS.aload X82.here hx rfl (hb hby at_54) rfl rfl ?_
        show Steps p.tables e below (T82.setTop (mkF m 56 #[.val (.int p0), .val (.int p1), .val (.int (3 : Int32)), .val (.int (1 : Int32)), .val (.ref saT), .val (.ref as82)] [(.ref saT)])) _
        refine XS.ifnullNo X82.here hx rfl (hb hby at_56) rfl ?_
        show Steps p.tables e below (T82.setTop (mkF m 59 #[.val (.int p0), .val (.int p1), .val (.int (3 : Int32)), .val (.int (1 : Int32)), .val (.ref saT), .val (.ref as82)] [])) _
        refine XS.aload X82.here hx rfl (hb hby at_59) rfl rfl ?_
        show Steps p.tables e below (T82.setTop (mkF m 61 #[.val (.int p0), .val (.int p1), .val (.int (3 : Int32)), .val (.int (1 : Int32)), .val (.ref saT), .val (.ref as82)] [(.ref saT)])) _
        refine XS.aload X82.here hx rfl (hb hby at_61) rfl rfl ?_
        show Steps p.tables e below (T82.setTop (mkF m 63 #[.val (.int p0), .val (.int p1), .val (.int (3 : Int32)), .val (.int (1 : Int32)), .val (.ref saT), .val (.ref as82)] [(.ref as82), (.ref saT)])) _
        exact kZ
      obtain ⟨cq84, kq84, q84a, q84b, q84c⟩ := isOf hZ e82 c83_12
      obtain ⟨_, _, ⟨T84, L84, k84, n84⟩, -, X84, ⟨Lc84, hQ84, l84, y84, z84⟩, st84⟩ := X82.virtualBack hx (y := (⟨"java/lang/String", "equals", "(Ljava/lang/Object;)Z"⟩ : MethodName)) (z := (⟨"java/lang/String", "equals", "(Ljava/lang/Object;)Z"⟩ : MethodName)) hown (mvT hZ (hw _ (List.mem_of_getElem? (i := 25) rfl))) (mvT hZ (hw _ (List.mem_of_getElem? (i := 26) rfl))) (notFace_of_selects (args := #[]) (mvT hZ (hw _ (List.mem_of_getElem? (i := 28) rfl)))) (mvT hZ (hw _ (List.mem_of_getElem? (i := 28) rfl))) (mvT hZ (hw _ (List.mem_of_getElem? (i := 27) rfl))) (by decide) (backOf (W := 0) (rm3n2 l Z a0 hw [] saT as82 baT ab82 (own_t [46, 32]) cs h82 n0 Z82 Ea82 c83_13 Fc82 c83_14 Fv82 c83_15 Va82 c83_20 hcs) hZ (hw _ (List.mem_of_getElem? (i := 29) rfl)) (hw _ (List.mem_of_getElem? (i := 18) rfl)) (by decide) (by decide)) q84a q84c (g := (mkF m 63 #[.val (.int p0), .val (.int p1), .val (.int (3 : Int32)), .val (.int (1 : Int32)), .val (.ref saT), .val (.ref as82)] [(.ref as82), (.ref saT)])) rfl (by rw [hml]; rfl) (Steps.refl _) (argsL := [(.ref as82)]) (rest := []) (lenOf pd_2 rfl) rfl (by show 2 * 0 + _ ≤ _; exact Nat.le_of_eq rfl) (hb hby at_63) (fun _ _ => ⟨rfl, e82, (by decide : 0 + 0 + 0 + 0 + 2 + 0 ≤ _), (by decide : 0 + 0 + 0 + 0 + (64 + 4) + 0 ≤ _)⟩)
      dsimp only [Pt.U, Pt.locs, Pt.cells, Pt.slots] at X84 l84 y84 z84 st84 hQ84
      subst l84 y84 z84
      obtain ⟨rfl, N84q, e84⟩ := hQ84
      have N84 := Fr.app N81 N84q
      refine Go.via (fun t k => st84.trans k) ?_
      show Go p e below _ (T84.setTop (mkF m 66 #[.val (.int p0), .val (.int p1), .val (.int (3 : Int32)), .val (.int (1 : Int32)), .val (.ref saT), .val (.ref as82)] [(.int (f3n2 saT as82 baT ab82 (own_t [46, 32]) cs))]))
      refine Go.via (T' := T84.setTop (mkF m 74 #[.val (.int p0), .val (.int p1), .val (.int (3 : Int32)), .val (.int (1 : Int32)), .val (.ref saT), .val (.ref as82)] [(.int (1 : Int32))])) (fun tZ kZ => ?_) ?_
      · show Steps p.tables e below (T84.setTop (mkF m 66 #[.val (.int p0), .val (.int p1), .val (.int (3 : Int32)), .val (.int (1 : Int32)), .val (.ref saT), .val (.ref as82)] [(.int (f3n2 saT as82 baT ab82 (own_t [46, 32]) cs))])) _
        refine XS.ifNo X84.here hx rfl (hb hby at_66) rfl ((if0 _ _).trans (feq (by rw [own_eq2]; decide)).1) ?_
        show Steps p.tables e below (T84.setTop (mkF m 69 #[.val (.int p0), .val (.int p1), .val (.int (3 : Int32)), .val (.int (1 : Int32)), .val (.ref saT), .val (.ref as82)] [])) _
        refine XS.iconst X84.here hx rfl (hb hby at_69) ?_
        show Steps p.tables e below (T84.setTop (mkF m 70 #[.val (.int p0), .val (.int p1), .val (.int (3 : Int32)), .val (.int (1 : Int32)), .val (.ref saT), .val (.ref as82)] [(.int (1 : Int32))])) _
        refine XS.goto X84.here hx rfl (pc0 := 70) (pc' := 74) rfl (hb hby at_70) (by decide) (by decide) ?_
        show Steps p.tables e below (T84.setTop (mkF m 74 #[.val (.int p0), .val (.int p1), .val (.int (3 : Int32)), .val (.int (1 : Int32)), .val (.ref saT), .val (.ref as82)] [(.int (1 : Int32))])) _
        exact kZ
      refine Go.retNW (s := s) (vm₁ := T82.vm) X84 hx hS82 (by rw [e84]; exact hk82) Bd.notSynchronized (t := .boolean) Bd.returns (by simp) (hb hby at_74) (by decide) (by decide) ?_
      exact ⟨rfl, N84⟩
    · rw [hj]
      show Go p e below _ (s₁.setTop (mkF m 8 #[.val (.int p0), .val (.int p1), .val (.int (3 : Int32)), .val (.int (2 : Int32)), .unset, .unset] []))
      refine Go.via (T' := s₁.setTop (mkF m 9 #[.val (.int p0), .val (.int p1), .val (.int (3 : Int32)), .val (.int (2 : Int32)), .unset, .unset] [(.int (3 : Int32))])) (fun tZ kZ => ?_) ?_
      · show Steps p.tables e below (s₁.setTop (mkF m 8 #[.val (.int p0), .val (.int p1), .val (.int (3 : Int32)), .val (.int (2 : Int32)), .unset, .unset] [])) _
        refine XS.iloadN X0.here hx rfl (hb hby at_8) rfl ?_
        show Steps p.tables e below (s₁.setTop (mkF m 9 #[.val (.int p0), .val (.int p1), .val (.int (3 : Int32)), .val (.int (2 : Int32)), .unset, .unset] [(.int (3 : Int32))])) _
        exact kZ
      obtain ⟨_, _, ⟨T85, L85, k85, n85⟩, -, X85, ⟨Lc85, hQ85, l85, y85, z85⟩, st85⟩ := Jvm.LawKit.callS X0 hx (y := (⟨"com/example/paratitle/paratitle/titles/HeadingElementSeparatorAfterPinLaw", "pick", "(I)Lcom/example/paratitle/paratitle/titles/HeadingElement;"⟩ : MethodName)) hown (mvT hZ (hw _ (List.mem_of_getElem? (i := 0) rfl))) (mvT hZ (hw _ (List.mem_of_getElem? (i := 1) rfl))) (mvT hZ (hw _ (List.mem_of_getElem? (i := 2) rfl))) (mvT hZ (hw _ (List.mem_of_getElem? (i := 3) rfl))) (by decide) (backOf (W := 0) (rm1 l Z a0 hw [] (3 : Int32) aT aO aN aP h0 n0 Z0 (ha0.ext ha21.2) (ha1.ext ha21.2) (ha2.ext ha21.2) (ha3.ext ha21.2)) hZ (hw _ (List.mem_of_getElem? (i := 3) rfl)) (hw _ (List.mem_of_getElem? (i := 2) rfl)) (by decide) (by decide)) (g := (mkF m 9 #[.val (.int p0), .val (.int p1), .val (.int (3 : Int32)), .val (.int (2 : Int32)), .unset, .unset] [(.int (3 : Int32))])) rfl (by rw [hml]; rfl) (argsL := [(.int (3 : Int32))]) (rest := []) (lenOf pd_0 rfl) rfl (by show 2 * 0 + _ ≤ _; exact Nat.le_of_eq rfl) (hb hby at_9) (fun _ _ => ⟨rfl, e0, (by decide : 0 + 0 ≤ _), (by decide : 0 + 0 ≤ _)⟩)
      dsimp only [Pt.U, Pt.locs, Pt.cells, Pt.slots] at X85 l85 y85 z85 st85 hQ85
      subst l85 y85 z85
      obtain ⟨rfl, N85q, e85⟩ := hQ85
      rw [show (f1 (3 : Int32) aT aO aN aP) = Value.ref aP from rfl] at st85
      have N85 := Fr.app N0 N85q
      refine Go.via st85 ?_
      show Go p e below _ (T85.setTop (mkF m 12 #[.val (.int p0), .val (.int p1), .val (.int (3 : Int32)), .val (.int (2 : Int32)), .unset, .unset] [(.ref aP)]))
      refine Go.via (T' := T85.setTop (mkF m 13 #[.val (.int p0), .val (.int p1), .val (.int (3 : Int32)), .val (.int (2 : Int32)), .unset, .unset] [(.int (2 : Int32)), (.ref aP)])) (fun tZ kZ => ?_) ?_
      · show Steps p.tables e below (T85.setTop (mkF m 12 #[.val (.int p0), .val (.int p1), .val (.int (3 : Int32)), .val (.int (2 : Int32)), .unset, .unset] [(.ref aP)])) _
        refine XS.iloadN X85.here hx rfl (hb hby at_12) rfl ?_
        show Steps p.tables e below (T85.setTop (mkF m 13 #[.val (.int p0), .val (.int p1), .val (.int (3 : Int32)), .val (.int (2 : Int32)), .unset, .unset] [(.int (2 : Int32)), (.ref aP)])) _
        exact kZ
      obtain ⟨_, _, ⟨T86, L86, k86, n86⟩, -, X86, ⟨Lc86, hQ86, l86, y86, z86⟩, st86⟩ := Jvm.LawKit.callS X85 hx (y := (⟨"com/example/paratitle/paratitle/titles/HeadingElementSeparatorAfterPinLaw", "pick", "(I)Lcom/example/paratitle/paratitle/titles/HeadingElement;"⟩ : MethodName)) hown (mvT hZ (hw _ (List.mem_of_getElem? (i := 0) rfl))) (mvT hZ (hw _ (List.mem_of_getElem? (i := 1) rfl))) (mvT hZ (hw _ (List.mem_of_getElem? (i := 2) rfl))) (mvT hZ (hw _ (List.mem_of_getElem? (i := 3) rfl))) (by decide) (backOf (W := 1) (rm1 l Z a0 hw [] (2 : Int32) aT aO aN aP h0 n0 Z0 (ha0.ext ha21.2) (ha1.ext ha21.2) (ha2.ext ha21.2) (ha3.ext ha21.2)) hZ (hw _ (List.mem_of_getElem? (i := 3) rfl)) (hw _ (List.mem_of_getElem? (i := 2) rfl)) (by decide) (by decide)) (g := (mkF m 13 #[.val (.int p0), .val (.int p1), .val (.int (3 : Int32)), .val (.int (2 : Int32)), .unset, .unset] [(.int (2 : Int32)), (.ref aP)])) rfl (by rw [hml]; rfl) (argsL := [(.int (2 : Int32))]) (rest := [(.ref aP)]) (lenOf pd_0 rfl) rfl (by show 2 * 0 + _ ≤ _; exact Nat.le_of_eq rfl) (hb hby at_13) (fun _ _ => ⟨rfl, e85, (by decide : 0 + 0 + 0 ≤ _), (by decide : 0 + 0 + 0 ≤ _)⟩)
      dsimp only [Pt.U, Pt.locs, Pt.cells, Pt.slots] at X86 l86 y86 z86 st86 hQ86
      subst l86 y86 z86
      obtain ⟨rfl, N86q, e86⟩ := hQ86
      rw [show (f1 (2 : Int32) aT aO aN aP) = Value.ref aN from rfl] at st86
      have N86 := Fr.app N85 N86q
      refine Go.via st86 ?_
      show Go p e below _ (T86.setTop (mkF m 16 #[.val (.int p0), .val (.int p1), .val (.int (3 : Int32)), .val (.int (2 : Int32)), .unset, .unset] [(.ref aN), (.ref aP)]))
      obtain ⟨cq87, kq87, q87a, q87b, q87c⟩ := isOf hZ e86 ha7
      obtain ⟨_, _, ⟨T87, L87, k87, n87⟩, -, X87, hS87, -, ⟨Lc87, hQ87, l87, y87, z87, CR87⟩, st87⟩ := virtualBackS (s := s.setVm s.vm) X86 hx (y := (⟨"com/example/paratitle/paratitle/titles/HeadingElement", "separatorAfter", "(Lcom/example/paratitle/paratitle/titles/HeadingElement;)Ljava/lang/String;"⟩ : MethodName)) (z := (⟨"com/example/paratitle/paratitle/titles/HeadingElement", "separatorAfter", "(Lcom/example/paratitle/paratitle/titles/HeadingElement;)Ljava/lang/String;"⟩ : MethodName)) hown (mvT hZ (hw _ (List.mem_of_getElem? (i := 9) rfl))) (mvT hZ (hw _ (List.mem_of_getElem? (i := 10) rfl))) (notFace_of_selects (args := #[]) (mvT hZ (hw _ (List.mem_of_getElem? (i := 12) rfl)))) (mvT hZ (hw _ (List.mem_of_getElem? (i := 12) rfl))) (mvT hZ (hw _ (List.mem_of_getElem? (i := 11) rfl))) (by decide) (backOfSH (s := s) (vm0 := s.vm) (W := 0) (rm2w l Z a0 hw [] aP aN h0 n0 Z0 (ha3.ext ha21.2) (ha2.ext ha21.2)) hZ (hw _ (List.mem_of_getElem? (i := 13) rfl)) (hw _ (List.mem_of_getElem? (i := 5) rfl)) (by decide) (by decide) (own_EW hw) hCH) q87a q87c (g := (mkF m 16 #[.val (.int p0), .val (.int p1), .val (.int (3 : Int32)), .val (.int (2 : Int32)), .unset, .unset] [(.ref aN), (.ref aP)])) rfl (by rw [hml]; rfl) (Steps.refl _) (argsL := [(.ref aN)]) (rest := []) (lenOf pd_1 rfl) rfl (by show 2 * 0 + _ ≤ _; exact Nat.le_of_eq rfl) (hb hby at_16) (fun _ _ => ⟨rfl, e86, (by decide : 0 + 0 + 0 + 2 ≤ _), (by decide : 0 + 0 + 0 + 68 ≤ _)⟩)
      dsimp only [Pt.U, Pt.locs, Pt.cells, Pt.slots] at X87 hS87 l87 y87 z87 CR87 st87 hQ87
      subst l87 y87 z87
      obtain ⟨aw87, bw87, rfl, N87q, Kq87, Ew87, Fcw87, Fvw87, Vw87⟩ := hQ87
      have c88_21 := ha21.keep Kq87 all0
      have c88_0 := ha0.ext c88_21.2
      have c88_1 := ha1.ext c88_21.2
      have c88_2 := ha2.ext c88_21.2
      have c88_3 := ha3.ext c88_21.2
      have c88_4 := ha4.keep Kq87
      have c88_5 := ha5.keep Kq87
      have c88_6 := ha6.keep Kq87
      have c88_7 := ha7.keep Kq87
      have c88_8 := ha8.keep Kq87 nin0
      have c88_9 := ha9.keep Kq87 nin0
      have c88_10 := ha10.keep Kq87 nin0
      have c88_11 := ha11.keep Kq87 nin0
      have c88_12 := ha12.keep Kq87
      have c88_13 := ha13.keep Kq87 nin0
      have c88_14 := ha14.keep Kq87 nin0
      have c88_15 := ha15.keep Kq87 nin0
      have c88_16 := ha16.keep Kq87
      have c88_17 := ha17.keep Kq87 nin0
      have c88_18 := ha18.keep Kq87 nin0
      have c88_19 := ha19.keep Kq87 nin0
      have c88_20 := ha20.ext c88_21.2
      have N87 := Fr.app N86 N87q
      have K87 : Keep h0 T87.heap [] := (Keep.refl h0 []).trans Kq87 all0
      have Z87 : n0 ≤ T87.heap.size := Nat.le_trans Z0 Kq87.1
      replace hZ : Z.Warmed39 (s.setVm T87.vm).vm := State.Warmed39.trans (t := s.setVm s.vm) hZ hS87.1
      replace hown : (s.setVm T87.vm).vm.findClass "com/example/paratitle/paratitle/titles/HeadingElementSeparatorAfterPinLaw" = some m.cls := by rw [show (s.setVm T87.vm).vm = T87.vm from rfl, hS87.1.alike.findClass]; exact hown
      refine Go.via (fun t k => st87.trans k) ?_
      show Go p e below _ (T87.setTop (mkF m 19 #[.val (.int p0), .val (.int p1), .val (.int (3 : Int32)), .val (.int (2 : Int32)), .unset, .unset] [(.ref aw87)]))
      refine Go.via (T' := T87.setTop (mkF m 43 #[.val (.int p0), .val (.int p1), .val (.int (3 : Int32)), .val (.int (2 : Int32)), .val (.ref aw87), .unset] [])) (fun tZ kZ => ?_) ?_
      · show Steps p.tables e below (T87.setTop (mkF m 19 #[.val (.int p0), .val (.int p1), .val (.int (3 : Int32)), .val (.int (2 : Int32)), .unset, .unset] [(.ref aw87)])) _
        refine XS.astore X87.here hx rfl (hb hby at_19) rfl rfl (l' := #[.val (.int p0), .val (.int p1), .val (.int (3 : Int32)), .val (.int (2 : Int32)), .val (.ref aw87), .unset]) rfl ?_
        show Steps p.tables e below (T87.setTop (mkF m 21 #[.val (.int p0), .val (.int p1), .val (.int (3 : Int32)), .val (.int (2 : Int32)), .val (.ref aw87), .unset] [])) _
        refine XS.iloadN X87.here hx rfl (hb hby at_21) rfl ?_
        show Steps p.tables e below (T87.setTop (mkF m 22 #[.val (.int p0), .val (.int p1), .val (.int (3 : Int32)), .val (.int (2 : Int32)), .val (.ref aw87), .unset] [(.int (3 : Int32))])) _
        refine XS.iconst X87.here hx rfl (hb hby at_22) ?_
        show Steps p.tables e below (T87.setTop (mkF m 23 #[.val (.int p0), .val (.int p1), .val (.int (3 : Int32)), .val (.int (2 : Int32)), .val (.ref aw87), .unset] [(.int (1 : Int32)), (.int (3 : Int32))])) _
        refine XS.icmpYes X87.here hx rfl (pc0 := 23) (pc' := 33) rfl (hb hby at_23) rfl (feq (by decide)).2 (by decide) (by decide) ?_
        show Steps p.tables e below (T87.setTop (mkF m 33 #[.val (.int p0), .val (.int p1), .val (.int (3 : Int32)), .val (.int (2 : Int32)), .val (.ref aw87), .unset] [])) _
        refine XS.iloadN X87.here hx rfl (hb hby at_33) rfl ?_
        show Steps p.tables e below (T87.setTop (mkF m 34 #[.val (.int p0), .val (.int p1), .val (.int (3 : Int32)), .val (.int (2 : Int32)), .val (.ref aw87), .unset] [(.int (3 : Int32))])) _
        refine XS.iconst X87.here hx rfl (hb hby at_34) ?_
        show Steps p.tables e below (T87.setTop (mkF m 35 #[.val (.int p0), .val (.int p1), .val (.int (3 : Int32)), .val (.int (2 : Int32)), .val (.ref aw87), .unset] [(.int (3 : Int32)), (.int (3 : Int32))])) _
        refine XS.icmpNo X87.here hx rfl (hb hby at_35) rfl (teq (by decide)).2 ?_
        show Steps p.tables e below (T87.setTop (mkF m 38 #[.val (.int p0), .val (.int p1), .val (.int (3 : Int32)), .val (.int (2 : Int32)), .val (.ref aw87), .unset] [])) _
        refine XS.iloadN X87.here hx rfl (hb hby at_38) rfl ?_
        show Steps p.tables e below (T87.setTop (mkF m 39 #[.val (.int p0), .val (.int p1), .val (.int (3 : Int32)), .val (.int (2 : Int32)), .val (.ref aw87), .unset] [(.int (2 : Int32))])) _
        refine XS.iconst X87.here hx rfl (hb hby at_39) ?_
        show Steps p.tables e below (T87.setTop (mkF m 40 #[.val (.int p0), .val (.int p1), .val (.int (3 : Int32)), .val (.int (2 : Int32)), .val (.ref aw87), .unset] [(.int (2 : Int32)), (.int (2 : Int32))])) _
        refine XS.icmpNo X87.here hx rfl (hb hby at_40) rfl (teq (by decide)).2 ?_
        show Steps p.tables e below (T87.setTop (mkF m 43 #[.val (.int p0), .val (.int p1), .val (.int (3 : Int32)), .val (.int (2 : Int32)), .val (.ref aw87), .unset] [])) _
        exact kZ
      obtain ⟨as89, T89, h89, kk89, ab89, kc89, X89, e89, E89, hS89, hk89, hZ, hown, Ea89, Fc89, Fv89, Ar89, -, -, CR89, -, -, st89⟩ := ldcCH (s := s) (vm0 := T87.vm) (EL := own_EL) X87 hx hZ hown (hw _ (List.mem_of_getElem? (i := 46) rfl)) wS rfl hS87 (Nat.le_refl _) (own_EW hw) (by simp [own_EL]) CR87.1 (vs := [44, 32].map Value.int) (z := 2) ⟨by decide, by decide +kernel⟩ (by decide) rfl (g := (mkF m 43 #[.val (.int p0), .val (.int p1), .val (.int (3 : Int32)), .val (.int (2 : Int32)), .val (.ref aw87), .unset] [])) rfl (hb hby at_43) (n := 64) (by decide) (by decide) (by decide) (by decide)
      have c90_21 := c88_21.ext E89
      have c90_0 := ha0.ext c90_21.2
      have c90_1 := ha1.ext c90_21.2
      have c90_2 := ha2.ext c90_21.2
      have c90_3 := ha3.ext c90_21.2
      have c90_4 := c88_4.ext E89
      have c90_5 := c88_5.ext E89
      have c90_6 := c88_6.ext E89
      have c90_7 := c88_7.ext E89
      have c90_8 := c88_8.ext E89
      have c90_9 := c88_9.ext E89
      have c90_10 := c88_10.ext E89
      have c90_11 := c88_11.ext E89
      have c90_12 := c88_12.ext E89
      have c90_13 := c88_13.ext E89
      have c90_14 := c88_14.ext E89
      have c90_15 := c88_15.ext E89
      have c90_16 := c88_16.ext E89
      have c90_17 := c88_17.ext E89
      have c90_18 := c88_18.ext E89
      have c90_19 := c88_19.ext E89
      have c90_20 := ha20.ext c90_21.2
      have c90_22 := Ew87.ext E89
      have c90_23 := Fcw87.ext E89
      have c90_24 := Fvw87.ext E89
      have c90_25 := Vw87.ext E89
      have Va89 := AV.ofArv Ar89 (n := 2) rfl (by decide)
      have K89 : Keep h0 h89 [] := K87.ext E89
      have Z89 : n0 ≤ h89.size := Nat.le_trans Z87 E89.1
      refine Go.via st89 ?_
      show Go p e below _ (T89.setTop (mkF m 45 #[.val (.int p0), .val (.int p1), .val (.int (3 : Int32)), .val (.int (2 : Int32)), .val (.ref aw87), .unset] [(.ref as89)]))
      refine Go.via (T' := T89.setTop (mkF m 63 #[.val (.int p0), .val (.int p1), .val (.int (3 : Int32)), .val (.int (2 : Int32)), .val (.ref aw87), .val (.ref as89)] [(.ref as89), (.ref aw87)])) (fun tZ kZ => ?_) ?_
      · show Steps p.tables e below (T89.setTop (mkF m 45 #[.val (.int p0), .val (.int p1), .val (.int (3 : Int32)), .val (.int (2 : Int32)), .val (.ref aw87), .unset] [(.ref as89)])) _
        refine XS.astore X89.here hx rfl (hb hby at_45) rfl rfl (l' := #[.val (.int p0), .val (.int p1), .val (.int (3 : Int32)), .val (.int (2 : Int32)), .val (.ref aw87), .val (.ref as89)]) rfl ?_
        show Steps p.tables e below (T89.setTop (mkF m 47 #[.val (.int p0), .val (.int p1), .val (.int (3 : Int32)), .val (.int (2 : Int32)), .val (.ref aw87), .val (.ref as89)] [])) _
        refine XS.goto X89.here hx rfl (pc0 := 47) (pc' := 54) rfl (hb hby at_47) (by decide) (by decide) ?_
        show Steps p.tables e below (T89.setTop (mkF m 54 #[.val (.int p0), .val (.int p1), .val (.int (3 : Int32)), .val (.int (2 : Int32)), .val (.ref aw87), .val (.ref as89)] [])) _
        refine XS.aload X89.here hx rfl (hb hby at_54) rfl rfl ?_
        show Steps p.tables e below (T89.setTop (mkF m 56 #[.val (.int p0), .val (.int p1), .val (.int (3 : Int32)), .val (.int (2 : Int32)), .val (.ref aw87), .val (.ref as89)] [(.ref aw87)])) _
        refine XS.ifnullNo X89.here hx rfl (hb hby at_56) rfl ?_
        show Steps p.tables e below (T89.setTop (mkF m 59 #[.val (.int p0), .val (.int p1), .val (.int (3 : Int32)), .val (.int (2 : Int32)), .val (.ref aw87), .val (.ref as89)] [])) _
        refine XS.aload X89.here hx rfl (hb hby at_59) rfl rfl ?_
        show Steps p.tables e below (T89.setTop (mkF m 61 #[.val (.int p0), .val (.int p1), .val (.int (3 : Int32)), .val (.int (2 : Int32)), .val (.ref aw87), .val (.ref as89)] [(.ref aw87)])) _
        refine XS.aload X89.here hx rfl (hb hby at_61) rfl rfl ?_
        show Steps p.tables e below (T89.setTop (mkF m 63 #[.val (.int p0), .val (.int p1), .val (.int (3 : Int32)), .val (.int (2 : Int32)), .val (.ref aw87), .val (.ref as89)] [(.ref as89), (.ref aw87)])) _
        exact kZ
      obtain ⟨cq91, kq91, q91a, q91b, q91c⟩ := isOf hZ e89 c90_22
      obtain ⟨_, _, ⟨T91, L91, k91, n91⟩, -, X91, ⟨Lc91, hQ91, l91, y91, z91⟩, st91⟩ := X89.virtualBack hx (y := (⟨"java/lang/String", "equals", "(Ljava/lang/Object;)Z"⟩ : MethodName)) (z := (⟨"java/lang/String", "equals", "(Ljava/lang/Object;)Z"⟩ : MethodName)) hown (mvT hZ (hw _ (List.mem_of_getElem? (i := 25) rfl))) (mvT hZ (hw _ (List.mem_of_getElem? (i := 26) rfl))) (notFace_of_selects (args := #[]) (mvT hZ (hw _ (List.mem_of_getElem? (i := 28) rfl)))) (mvT hZ (hw _ (List.mem_of_getElem? (i := 28) rfl))) (mvT hZ (hw _ (List.mem_of_getElem? (i := 27) rfl))) (by decide) (backOf (W := 0) (rm3n2 l Z a0 hw [] aw87 as89 bw87 ab89 (own_t [44, 32]) cs h89 n0 Z89 Ea89 c90_23 Fc89 c90_24 Fv89 c90_25 Va89 c90_20 hcs) hZ (hw _ (List.mem_of_getElem? (i := 29) rfl)) (hw _ (List.mem_of_getElem? (i := 18) rfl)) (by decide) (by decide)) q91a q91c (g := (mkF m 63 #[.val (.int p0), .val (.int p1), .val (.int (3 : Int32)), .val (.int (2 : Int32)), .val (.ref aw87), .val (.ref as89)] [(.ref as89), (.ref aw87)])) rfl (by rw [hml]; rfl) (Steps.refl _) (argsL := [(.ref as89)]) (rest := []) (lenOf pd_2 rfl) rfl (by show 2 * 0 + _ ≤ _; exact Nat.le_of_eq rfl) (hb hby at_63) (fun _ _ => ⟨rfl, e89, (by decide : 0 + 0 + 0 + 2 + 2 + 0 ≤ _), (by decide : 0 + 0 + 0 + 68 + (64 + 4) + 0 ≤ _)⟩)
      dsimp only [Pt.U, Pt.locs, Pt.cells, Pt.slots] at X91 l91 y91 z91 st91 hQ91
      subst l91 y91 z91
      obtain ⟨rfl, N91q, e91⟩ := hQ91
      have N91 := Fr.app N87 N91q
      refine Go.via (fun t k => st91.trans k) ?_
      show Go p e below _ (T91.setTop (mkF m 66 #[.val (.int p0), .val (.int p1), .val (.int (3 : Int32)), .val (.int (2 : Int32)), .val (.ref aw87), .val (.ref as89)] [(.int (f3n2 aw87 as89 bw87 ab89 (own_t [44, 32]) cs))]))
      refine Go.via (T' := T91.setTop (mkF m 74 #[.val (.int p0), .val (.int p1), .val (.int (3 : Int32)), .val (.int (2 : Int32)), .val (.ref aw87), .val (.ref as89)] [(.int (1 : Int32))])) (fun tZ kZ => ?_) ?_
      · show Steps p.tables e below (T91.setTop (mkF m 66 #[.val (.int p0), .val (.int p1), .val (.int (3 : Int32)), .val (.int (2 : Int32)), .val (.ref aw87), .val (.ref as89)] [(.int (f3n2 aw87 as89 bw87 ab89 (own_t [44, 32]) cs))])) _
        refine XS.ifNo X91.here hx rfl (hb hby at_66) rfl ((if0 _ _).trans (feq (by rw [own_eq2]; decide)).1) ?_
        show Steps p.tables e below (T91.setTop (mkF m 69 #[.val (.int p0), .val (.int p1), .val (.int (3 : Int32)), .val (.int (2 : Int32)), .val (.ref aw87), .val (.ref as89)] [])) _
        refine XS.iconst X91.here hx rfl (hb hby at_69) ?_
        show Steps p.tables e below (T91.setTop (mkF m 70 #[.val (.int p0), .val (.int p1), .val (.int (3 : Int32)), .val (.int (2 : Int32)), .val (.ref aw87), .val (.ref as89)] [(.int (1 : Int32))])) _
        refine XS.goto X91.here hx rfl (pc0 := 70) (pc' := 74) rfl (hb hby at_70) (by decide) (by decide) ?_
        show Steps p.tables e below (T91.setTop (mkF m 74 #[.val (.int p0), .val (.int p1), .val (.int (3 : Int32)), .val (.int (2 : Int32)), .val (.ref aw87), .val (.ref as89)] [(.int (1 : Int32))])) _
        exact kZ
      refine Go.retNW (s := s) (vm₁ := T89.vm) X91 hx hS89 (by rw [e91]; exact hk89) Bd.notSynchronized (t := .boolean) Bd.returns (by simp) (hb hby at_74) (by decide) (by decide) ?_
      exact ⟨rfl, N91⟩
    · rw [hj]
      show Go p e below _ (s₁.setTop (mkF m 8 #[.val (.int p0), .val (.int p1), .val (.int (3 : Int32)), .val (.int (3 : Int32)), .unset, .unset] []))
      refine Go.via (T' := s₁.setTop (mkF m 9 #[.val (.int p0), .val (.int p1), .val (.int (3 : Int32)), .val (.int (3 : Int32)), .unset, .unset] [(.int (3 : Int32))])) (fun tZ kZ => ?_) ?_
      · show Steps p.tables e below (s₁.setTop (mkF m 8 #[.val (.int p0), .val (.int p1), .val (.int (3 : Int32)), .val (.int (3 : Int32)), .unset, .unset] [])) _
        refine XS.iloadN X0.here hx rfl (hb hby at_8) rfl ?_
        show Steps p.tables e below (s₁.setTop (mkF m 9 #[.val (.int p0), .val (.int p1), .val (.int (3 : Int32)), .val (.int (3 : Int32)), .unset, .unset] [(.int (3 : Int32))])) _
        exact kZ
      obtain ⟨_, _, ⟨T92, L92, k92, n92⟩, -, X92, ⟨Lc92, hQ92, l92, y92, z92⟩, st92⟩ := Jvm.LawKit.callS X0 hx (y := (⟨"com/example/paratitle/paratitle/titles/HeadingElementSeparatorAfterPinLaw", "pick", "(I)Lcom/example/paratitle/paratitle/titles/HeadingElement;"⟩ : MethodName)) hown (mvT hZ (hw _ (List.mem_of_getElem? (i := 0) rfl))) (mvT hZ (hw _ (List.mem_of_getElem? (i := 1) rfl))) (mvT hZ (hw _ (List.mem_of_getElem? (i := 2) rfl))) (mvT hZ (hw _ (List.mem_of_getElem? (i := 3) rfl))) (by decide) (backOf (W := 0) (rm1 l Z a0 hw [] (3 : Int32) aT aO aN aP h0 n0 Z0 (ha0.ext ha21.2) (ha1.ext ha21.2) (ha2.ext ha21.2) (ha3.ext ha21.2)) hZ (hw _ (List.mem_of_getElem? (i := 3) rfl)) (hw _ (List.mem_of_getElem? (i := 2) rfl)) (by decide) (by decide)) (g := (mkF m 9 #[.val (.int p0), .val (.int p1), .val (.int (3 : Int32)), .val (.int (3 : Int32)), .unset, .unset] [(.int (3 : Int32))])) rfl (by rw [hml]; rfl) (argsL := [(.int (3 : Int32))]) (rest := []) (lenOf pd_0 rfl) rfl (by show 2 * 0 + _ ≤ _; exact Nat.le_of_eq rfl) (hb hby at_9) (fun _ _ => ⟨rfl, e0, (by decide : 0 + 0 ≤ _), (by decide : 0 + 0 ≤ _)⟩)
      dsimp only [Pt.U, Pt.locs, Pt.cells, Pt.slots] at X92 l92 y92 z92 st92 hQ92
      subst l92 y92 z92
      obtain ⟨rfl, N92q, e92⟩ := hQ92
      rw [show (f1 (3 : Int32) aT aO aN aP) = Value.ref aP from rfl] at st92
      have N92 := Fr.app N0 N92q
      refine Go.via st92 ?_
      show Go p e below _ (T92.setTop (mkF m 12 #[.val (.int p0), .val (.int p1), .val (.int (3 : Int32)), .val (.int (3 : Int32)), .unset, .unset] [(.ref aP)]))
      refine Go.via (T' := T92.setTop (mkF m 13 #[.val (.int p0), .val (.int p1), .val (.int (3 : Int32)), .val (.int (3 : Int32)), .unset, .unset] [(.int (3 : Int32)), (.ref aP)])) (fun tZ kZ => ?_) ?_
      · show Steps p.tables e below (T92.setTop (mkF m 12 #[.val (.int p0), .val (.int p1), .val (.int (3 : Int32)), .val (.int (3 : Int32)), .unset, .unset] [(.ref aP)])) _
        refine XS.iloadN X92.here hx rfl (hb hby at_12) rfl ?_
        show Steps p.tables e below (T92.setTop (mkF m 13 #[.val (.int p0), .val (.int p1), .val (.int (3 : Int32)), .val (.int (3 : Int32)), .unset, .unset] [(.int (3 : Int32)), (.ref aP)])) _
        exact kZ
      obtain ⟨_, _, ⟨T93, L93, k93, n93⟩, -, X93, ⟨Lc93, hQ93, l93, y93, z93⟩, st93⟩ := Jvm.LawKit.callS X92 hx (y := (⟨"com/example/paratitle/paratitle/titles/HeadingElementSeparatorAfterPinLaw", "pick", "(I)Lcom/example/paratitle/paratitle/titles/HeadingElement;"⟩ : MethodName)) hown (mvT hZ (hw _ (List.mem_of_getElem? (i := 0) rfl))) (mvT hZ (hw _ (List.mem_of_getElem? (i := 1) rfl))) (mvT hZ (hw _ (List.mem_of_getElem? (i := 2) rfl))) (mvT hZ (hw _ (List.mem_of_getElem? (i := 3) rfl))) (by decide) (backOf (W := 1) (rm1 l Z a0 hw [] (3 : Int32) aT aO aN aP h0 n0 Z0 (ha0.ext ha21.2) (ha1.ext ha21.2) (ha2.ext ha21.2) (ha3.ext ha21.2)) hZ (hw _ (List.mem_of_getElem? (i := 3) rfl)) (hw _ (List.mem_of_getElem? (i := 2) rfl)) (by decide) (by decide)) (g := (mkF m 13 #[.val (.int p0), .val (.int p1), .val (.int (3 : Int32)), .val (.int (3 : Int32)), .unset, .unset] [(.int (3 : Int32)), (.ref aP)])) rfl (by rw [hml]; rfl) (argsL := [(.int (3 : Int32))]) (rest := [(.ref aP)]) (lenOf pd_0 rfl) rfl (by show 2 * 0 + _ ≤ _; exact Nat.le_of_eq rfl) (hb hby at_13) (fun _ _ => ⟨rfl, e92, (by decide : 0 + 0 + 0 ≤ _), (by decide : 0 + 0 + 0 ≤ _)⟩)
      dsimp only [Pt.U, Pt.locs, Pt.cells, Pt.slots] at X93 l93 y93 z93 st93 hQ93
      subst l93 y93 z93
      obtain ⟨rfl, N93q, e93⟩ := hQ93
      rw [show (f1 (3 : Int32) aT aO aN aP) = Value.ref aP from rfl] at st93
      have N93 := Fr.app N92 N93q
      refine Go.via st93 ?_
      show Go p e below _ (T93.setTop (mkF m 16 #[.val (.int p0), .val (.int p1), .val (.int (3 : Int32)), .val (.int (3 : Int32)), .unset, .unset] [(.ref aP), (.ref aP)]))
      obtain ⟨cq94, kq94, q94a, q94b, q94c⟩ := isOf hZ e93 ha7
      obtain ⟨_, _, ⟨T94, L94, k94, n94⟩, -, X94, ⟨Lc94, hQ94, l94, y94, z94⟩, st94⟩ := X93.virtualBack hx (y := (⟨"com/example/paratitle/paratitle/titles/HeadingElement", "separatorAfter", "(Lcom/example/paratitle/paratitle/titles/HeadingElement;)Ljava/lang/String;"⟩ : MethodName)) (z := (⟨"com/example/paratitle/paratitle/titles/HeadingElement", "separatorAfter", "(Lcom/example/paratitle/paratitle/titles/HeadingElement;)Ljava/lang/String;"⟩ : MethodName)) hown (mvT hZ (hw _ (List.mem_of_getElem? (i := 9) rfl))) (mvT hZ (hw _ (List.mem_of_getElem? (i := 10) rfl))) (notFace_of_selects (args := #[]) (mvT hZ (hw _ (List.mem_of_getElem? (i := 12) rfl)))) (mvT hZ (hw _ (List.mem_of_getElem? (i := 12) rfl))) (mvT hZ (hw _ (List.mem_of_getElem? (i := 11) rfl))) (by decide) (backOf (W := 0) (rm2p l Z a0 hw [] aP aP aN saT h0 n0 Z0 (ha3.ext ha21.2) (ha2.ext ha21.2) ha11 (Ne.symm hne_aN_aP)) hZ (hw _ (List.mem_of_getElem? (i := 13) rfl)) (hw _ (List.mem_of_getElem? (i := 5) rfl)) (by decide) (by decide)) q94a q94c (g := (mkF m 16 #[.val (.int p0), .val (.int p1), .val (.int (3 : Int32)), .val (.int (3 : Int32)), .unset, .unset] [(.ref aP), (.ref aP)])) rfl (by rw [hml]; rfl) (Steps.refl _) (argsL := [(.ref aP)]) (rest := []) (lenOf pd_1 rfl) rfl (by show 2 * 0 + _ ≤ _; exact Nat.le_of_eq rfl) (hb hby at_16) (fun _ _ => ⟨rfl, e93, (by decide : 0 + 0 + 0 + 0 ≤ _), (by decide : 0 + 0 + 0 + 0 ≤ _)⟩)
      dsimp only [Pt.U, Pt.locs, Pt.cells, Pt.slots] at X94 l94 y94 z94 st94 hQ94
      subst l94 y94 z94
      obtain ⟨rfl, N94q, e94⟩ := hQ94
      have N94 := Fr.app N93 N94q
      refine Go.via (fun t k => st94.trans k) ?_
      show Go p e below _ (T94.setTop (mkF m 19 #[.val (.int p0), .val (.int p1), .val (.int (3 : Int32)), .val (.int (3 : Int32)), .unset, .unset] [(.ref saT)]))
      refine Go.via (T' := T94.setTop (mkF m 50 #[.val (.int p0), .val (.int p1), .val (.int (3 : Int32)), .val (.int (3 : Int32)), .val (.ref saT), .unset] [])) (fun tZ kZ => ?_) ?_
      · show Steps p.tables e below (T94.setTop (mkF m 19 #[.val (.int p0), .val (.int p1), .val (.int (3 : Int32)), .val (.int (3 : Int32)), .unset, .unset] [(.ref saT)])) _
        refine XS.astore X94.here hx rfl (hb hby at_19) rfl rfl (l' := #[.val (.int p0), .val (.int p1), .val (.int (3 : Int32)), .val (.int (3 : Int32)), .val (.ref saT), .unset]) rfl ?_
        show Steps p.tables e below (T94.setTop (mkF m 21 #[.val (.int p0), .val (.int p1), .val (.int (3 : Int32)), .val (.int (3 : Int32)), .val (.ref saT), .unset] [])) _
        refine XS.iloadN X94.here hx rfl (hb hby at_21) rfl ?_
        show Steps p.tables e below (T94.setTop (mkF m 22 #[.val (.int p0), .val (.int p1), .val (.int (3 : Int32)), .val (.int (3 : Int32)), .val (.ref saT), .unset] [(.int (3 : Int32))])) _
        refine XS.iconst X94.here hx rfl (hb hby at_22) ?_
        show Steps p.tables e below (T94.setTop (mkF m 23 #[.val (.int p0), .val (.int p1), .val (.int (3 : Int32)), .val (.int (3 : Int32)), .val (.ref saT), .unset] [(.int (1 : Int32)), (.int (3 : Int32))])) _
        refine XS.icmpYes X94.here hx rfl (pc0 := 23) (pc' := 33) rfl (hb hby at_23) rfl (feq (by decide)).2 (by decide) (by decide) ?_
        show Steps p.tables e below (T94.setTop (mkF m 33 #[.val (.int p0), .val (.int p1), .val (.int (3 : Int32)), .val (.int (3 : Int32)), .val (.ref saT), .unset] [])) _
        refine XS.iloadN X94.here hx rfl (hb hby at_33) rfl ?_
        show Steps p.tables e below (T94.setTop (mkF m 34 #[.val (.int p0), .val (.int p1), .val (.int (3 : Int32)), .val (.int (3 : Int32)), .val (.ref saT), .unset] [(.int (3 : Int32))])) _
        refine XS.iconst X94.here hx rfl (hb hby at_34) ?_
        show Steps p.tables e below (T94.setTop (mkF m 35 #[.val (.int p0), .val (.int p1), .val (.int (3 : Int32)), .val (.int (3 : Int32)), .val (.ref saT), .unset] [(.int (3 : Int32)), (.int (3 : Int32))])) _
        refine XS.icmpNo X94.here hx rfl (hb hby at_35) rfl (teq (by decide)).2 ?_
        show Steps p.tables e below (T94.setTop (mkF m 38 #[.val (.int p0), .val (.int p1), .val (.int (3 : Int32)), .val (.int (3 : Int32)), .val (.ref saT), .unset] [])) _
        refine XS.iloadN X94.here hx rfl (hb hby at_38) rfl ?_
        show Steps p.tables e below (T94.setTop (mkF m 39 #[.val (.int p0), .val (.int p1), .val (.int (3 : Int32)), .val (.int (3 : Int32)), .val (.ref saT), .unset] [(.int (3 : Int32))])) _
        refine XS.iconst X94.here hx rfl (hb hby at_39) ?_
        show Steps p.tables e below (T94.setTop (mkF m 40 #[.val (.int p0), .val (.int p1), .val (.int (3 : Int32)), .val (.int (3 : Int32)), .val (.ref saT), .unset] [(.int (2 : Int32)), (.int (3 : Int32))])) _
        refine XS.icmpYes X94.here hx rfl (pc0 := 40) (pc' := 50) rfl (hb hby at_40) rfl (feq (by decide)).2 (by decide) (by decide) ?_
        show Steps p.tables e below (T94.setTop (mkF m 50 #[.val (.int p0), .val (.int p1), .val (.int (3 : Int32)), .val (.int (3 : Int32)), .val (.ref saT), .unset] [])) _
        exact kZ
      obtain ⟨as95, T95, h95, kk95, ab95, kc95, X95, e95, E95, hS95, hk95, hZ, hown, Ea95, Fc95, Fv95, Ar95, -, -, CR95, -, -, st95⟩ := ldcCH (s := s) (vm0 := s.vm) (EL := own_EL) X94 hx hZ hown (hw _ (List.mem_of_getElem? (i := 17) rfl)) wS e94 hS0 (Nat.zero_le _) (own_EW hw) (by simp [own_EL]) hCH (vs := [46, 32].map Value.int) (z := 2) ⟨by decide, by decide +kernel⟩ (by decide) rfl (g := (mkF m 50 #[.val (.int p0), .val (.int p1), .val (.int (3 : Int32)), .val (.int (3 : Int32)), .val (.ref saT), .unset] [])) rfl (hb hby at_50) (n := 64) (by decide) (by decide) (by decide) (by decide)
      have c96_21 := ha21.ext E95
      have c96_0 := ha0.ext c96_21.2
      have c96_1 := ha1.ext c96_21.2
      have c96_2 := ha2.ext c96_21.2
      have c96_3 := ha3.ext c96_21.2
      have c96_4 := ha4.ext E95
      have c96_5 := ha5.ext E95
      have c96_6 := ha6.ext E95
      have c96_7 := ha7.ext E95
      have c96_8 := ha8.ext E95
      have c96_9 := ha9.ext E95
      have c96_10 := ha10.ext E95
      have c96_11 := ha11.ext E95
      have c96_12 := ha12.ext E95
      have c96_13 := ha13.ext E95
      have c96_14 := ha14.ext E95
      have c96_15 := ha15.ext E95
      have c96_16 := ha16.ext E95
      have c96_17 := ha17.ext E95
      have c96_18 := ha18.ext E95
      have c96_19 := ha19.ext E95
      have c96_20 := ha20.ext c96_21.2
      have Va95 := AV.ofArv Ar95 (n := 2) rfl (by decide)
      have K95 : Keep h0 h95 [] := (Keep.refl h0 []).ext E95
      have Z95 : n0 ≤ h95.size := Nat.le_trans Z0 E95.1
      refine Go.via st95 ?_
      show Go p e below _ (T95.setTop (mkF m 52 #[.val (.int p0), .val (.int p1), .val (.int (3 : Int32)), .val (.int (3 : Int32)), .val (.ref saT), .unset] [(.ref as95)]))
      refine Go.via (T' := T95.setTop (mkF m 63 #[.val (.int p0), .val (.int p1), .val (.int (3 : Int32)), .val (.int (3 : Int32)), .val (.ref saT), .val (.ref as95)] [(.ref as95), (.ref saT)])) (fun tZ kZ => ?_) ?_
      · show Steps p.tables e below (T95.setTop (mkF m 52 #[.val (.int p0), .val (.int p1), .val (.int (3 : Int32)), .val (.int (3 : Int32)), .val (.ref saT), .unset] [(.ref as95)])) _
        refine XS.astore X95.here hx rfl (hb hby at_52) rfl rfl (l' := #[.val (.int p0), .val (.int p1), .val (.int (3 : Int32)), .val (.int (3 : Int32)), .val (.ref saT), .val (.ref as95)]) rfl ?_
        show Steps p.tables e below (T95.setTop (mkF m 54 #[.val (.int p0), .val (.int p1), .val (.int (3 : Int32)), .val (.int (3 : Int32)), .val (.ref saT), .val (.ref as95)] [])) _
        refine XS.aload X95.here hx rfl (hb hby at_54) rfl rfl ?_
        show Steps p.tables e below (T95.setTop (mkF m 56 #[.val (.int p0), .val (.int p1), .val (.int (3 : Int32)), .val (.int (3 : Int32)), .val (.ref saT), .val (.ref as95)] [(.ref saT)])) _
        refine XS.ifnullNo X95.here hx rfl (hb hby at_56) rfl ?_
        show Steps p.tables e below (T95.setTop (mkF m 59 #[.val (.int p0), .val (.int p1), .val (.int (3 : Int32)), .val (.int (3 : Int32)), .val (.ref saT), .val (.ref as95)] [])) _
        refine XS.aload X95.here hx rfl (hb hby at_59) rfl rfl ?_
        show Steps p.tables e below (T95.setTop (mkF m 61 #[.val (.int p0), .val (.int p1), .val (.int (3 : Int32)), .val (.int (3 : Int32)), .val (.ref saT), .val (.ref as95)] [(.ref saT)])) _
        refine XS.aload X95.here hx rfl (hb hby at_61) rfl rfl ?_
        show Steps p.tables e below (T95.setTop (mkF m 63 #[.val (.int p0), .val (.int p1), .val (.int (3 : Int32)), .val (.int (3 : Int32)), .val (.ref saT), .val (.ref as95)] [(.ref as95), (.ref saT)])) _
        exact kZ
      obtain ⟨cq97, kq97, q97a, q97b, q97c⟩ := isOf hZ e95 c96_12
      obtain ⟨_, _, ⟨T97, L97, k97, n97⟩, -, X97, ⟨Lc97, hQ97, l97, y97, z97⟩, st97⟩ := X95.virtualBack hx (y := (⟨"java/lang/String", "equals", "(Ljava/lang/Object;)Z"⟩ : MethodName)) (z := (⟨"java/lang/String", "equals", "(Ljava/lang/Object;)Z"⟩ : MethodName)) hown (mvT hZ (hw _ (List.mem_of_getElem? (i := 25) rfl))) (mvT hZ (hw _ (List.mem_of_getElem? (i := 26) rfl))) (notFace_of_selects (args := #[]) (mvT hZ (hw _ (List.mem_of_getElem? (i := 28) rfl)))) (mvT hZ (hw _ (List.mem_of_getElem? (i := 28) rfl))) (mvT hZ (hw _ (List.mem_of_getElem? (i := 27) rfl))) (by decide) (backOf (W := 0) (rm3n2 l Z a0 hw [] saT as95 baT ab95 (own_t [46, 32]) cs h95 n0 Z95 Ea95 c96_13 Fc95 c96_14 Fv95 c96_15 Va95 c96_20 hcs) hZ (hw _ (List.mem_of_getElem? (i := 29) rfl)) (hw _ (List.mem_of_getElem? (i := 18) rfl)) (by decide) (by decide)) q97a q97c (g := (mkF m 63 #[.val (.int p0), .val (.int p1), .val (.int (3 : Int32)), .val (.int (3 : Int32)), .val (.ref saT), .val (.ref as95)] [(.ref as95), (.ref saT)])) rfl (by rw [hml]; rfl) (Steps.refl _) (argsL := [(.ref as95)]) (rest := []) (lenOf pd_2 rfl) rfl (by show 2 * 0 + _ ≤ _; exact Nat.le_of_eq rfl) (hb hby at_63) (fun _ _ => ⟨rfl, e95, (by decide : 0 + 0 + 0 + 0 + 2 + 0 ≤ _), (by decide : 0 + 0 + 0 + 0 + (64 + 4) + 0 ≤ _)⟩)
      dsimp only [Pt.U, Pt.locs, Pt.cells, Pt.slots] at X97 l97 y97 z97 st97 hQ97
      subst l97 y97 z97
      obtain ⟨rfl, N97q, e97⟩ := hQ97
      have N97 := Fr.app N94 N97q
      refine Go.via (fun t k => st97.trans k) ?_
      show Go p e below _ (T97.setTop (mkF m 66 #[.val (.int p0), .val (.int p1), .val (.int (3 : Int32)), .val (.int (3 : Int32)), .val (.ref saT), .val (.ref as95)] [(.int (f3n2 saT as95 baT ab95 (own_t [46, 32]) cs))]))
      refine Go.via (T' := T97.setTop (mkF m 74 #[.val (.int p0), .val (.int p1), .val (.int (3 : Int32)), .val (.int (3 : Int32)), .val (.ref saT), .val (.ref as95)] [(.int (1 : Int32))])) (fun tZ kZ => ?_) ?_
      · show Steps p.tables e below (T97.setTop (mkF m 66 #[.val (.int p0), .val (.int p1), .val (.int (3 : Int32)), .val (.int (3 : Int32)), .val (.ref saT), .val (.ref as95)] [(.int (f3n2 saT as95 baT ab95 (own_t [46, 32]) cs))])) _
        refine XS.ifNo X97.here hx rfl (hb hby at_66) rfl ((if0 _ _).trans (feq (by rw [own_eq2]; decide)).1) ?_
        show Steps p.tables e below (T97.setTop (mkF m 69 #[.val (.int p0), .val (.int p1), .val (.int (3 : Int32)), .val (.int (3 : Int32)), .val (.ref saT), .val (.ref as95)] [])) _
        refine XS.iconst X97.here hx rfl (hb hby at_69) ?_
        show Steps p.tables e below (T97.setTop (mkF m 70 #[.val (.int p0), .val (.int p1), .val (.int (3 : Int32)), .val (.int (3 : Int32)), .val (.ref saT), .val (.ref as95)] [(.int (1 : Int32))])) _
        refine XS.goto X97.here hx rfl (pc0 := 70) (pc' := 74) rfl (hb hby at_70) (by decide) (by decide) ?_
        show Steps p.tables e below (T97.setTop (mkF m 74 #[.val (.int p0), .val (.int p1), .val (.int (3 : Int32)), .val (.int (3 : Int32)), .val (.ref saT), .val (.ref as95)] [(.int (1 : Int32))])) _
        exact kZ
      refine Go.retNW (s := s) (vm₁ := T95.vm) X97 hx hS95 (by rw [e97]; exact hk95) Bd.notSynchronized (t := .boolean) Bd.returns (by simp) (hb hby at_74) (by decide) (by decide) ?_
      exact ⟨rfl, N97⟩
set_option maxRecDepth 65536 in
set_option maxHeartbeats 40000000 in
theorem comes_1 {Post : Tables → Env → Array Value → State → Outcome → State → Prop} (hpost : ∀ tb e args s v u, (limb_1_1.after args s (.returned v) u = true ∧ limb_1_2.after args s (.returned v) u = true ∧ True) → ReturnedEndW s (.returned v) u (Jvm.fieldLocs frame_1_writes args s ++ Jvm.arrayLocs frame_1_arrays args s ++ Jvm.staticLocs frame_1_statics s) 8 4160 → Post tb e args s (.returned v) u) :
    ArmFor flags0 classFile x code maxLocals ret World_1 tables_1 room_1 Calls_1 rest_1 Pre_1 Post := by
  intro l hfl _ _ p e ha hc hk s m args below hf hA hF happ hP
  obtain ⟨hcalls, hrest, hpre⟩ := hP
  obtain ⟨-, -, -, hnamed, -, -, -, hat⟩ := (Spec.applies_iff hf).mp happ
  obtain ⟨hg, hn⟩ := and_e (Cond.before_iff.mp (show (Jvm.Cond.and given_1 narrow_1).before args s = true from hpre))
  obtain ⟨g1, g2⟩ := and_e hg
  obtain ⟨g3, g4⟩ := and_e g2
  obtain ⟨w0, w1, rfl⟩ : ∃ w0 w1 : Value, args = #[w0, w1] := by
    have hs : args.size = 2 := by simpa [Cond.value, given_1] using g1
    obtain ⟨L⟩ := args
    match L, hs with
    | [w0, w1], _ => exact ⟨w0, w1, rfl⟩
  have hw := fun d (hd : d ∈ tables_1) => atoms_spec (ws := Jvm.Cond.code x code maxLocals ret :: tables_1) hat d (List.mem_cons_of_mem _ hd)
  have hfit : Fit s := fun {y c} hc i hi => by
    obtain ⟨ha, rfl⟩ := Array.getElem?_eq_some_iff.mp hc
    have q := List.all_eq_true.mp ((Array.all_eq_true_iff_forall_mem.mp hF) _ (Array.getElem_mem ha)) i (List.mem_range.mpr hi)
    simpa [Array.getElem?_eq_getElem hi] using q
  obtain ⟨hsets, hown0⟩ := atoms_of _ (rest_1_c_eq ▸ (show rest_1_c.before _ s = true from hrest))
  have hr0 := Cond.before_iff.mp hown0
  obtain ⟨i0, ei0⟩ := is_v g3
  obtain rfl : w0 = (.int i0) := Option.some.inj ei0
  obtain ⟨i1, ei1⟩ := is_v g4
  obtain rfl : w1 = (.int i1) := Option.some.inj ei1
  obtain ⟨hn1, hn2⟩ := and_e hn
  obtain ⟨hn3, hn4⟩ := and_e hn2
  obtain ⟨hn5, hn6⟩ := and_e hn4
  obtain ⟨hn7, hn8⟩ := and_e hn6
  obtain ⟨hn9, hn10⟩ := and_e hn8
  obtain ⟨hn11, hn12⟩ := and_e hn10
  obtain ⟨hn13, hn14⟩ := and_e hn12
  obtain ⟨hn15, hn16⟩ := and_e hn14
  obtain ⟨hn17, hn18⟩ := and_e hn16
  obtain ⟨hn19, hn20⟩ := and_e hn18
  obtain ⟨hn21, hn22⟩ := and_e hn20
  obtain ⟨hn23, hn24⟩ := and_e hn22
  obtain ⟨hn25, hn26⟩ := and_e hn24
  obtain ⟨hn27, hn28⟩ := and_e hn26
  obtain ⟨hn29, hn30⟩ := and_e hn28
  obtain ⟨hn31, hn32⟩ := and_e hn30
  obtain ⟨hn33, hn34⟩ := and_e hn32
  obtain ⟨hn35, hn36⟩ := and_e hn34
  obtain ⟨hn37, hn38⟩ := and_e hn36
  obtain ⟨hn39, hn40⟩ := and_e hn38
  obtain ⟨hn41, hn42⟩ := and_e hn40
  obtain ⟨hn43, hn44⟩ := and_e hn42
  obtain ⟨aT, ev_aT⟩ := exa_v hn1
  have S_aT : Sta s s.heap "com/example/paratitle/paratitle/titles/HeadingElement" "TITLE" "Lcom/example/paratitle/paratitle/titles/HeadingElement;" (.ref aT) := Sta.start ev_aT (Or.inr ⟨(hw _ (List.mem_of_getElem? (i := 5) rfl)), (hw _ (List.mem_of_getElem? (i := 6) rfl))⟩)
  have E_aT : Exa s s.heap aT "com/example/paratitle/paratitle/titles/HeadingElement" := Exa.start ev_aT hn1
  obtain ⟨aP, ev_aP⟩ := exa_v hn3
  have S_aP : Sta s s.heap "com/example/paratitle/paratitle/titles/HeadingElement" "PART_NAME" "Lcom/example/paratitle/paratitle/titles/HeadingElement;" (.ref aP) := Sta.start ev_aP (Or.inr ⟨(hw _ (List.mem_of_getElem? (i := 5) rfl)), (hw _ (List.mem_of_getElem? (i := 8) rfl))⟩)
  have E_aP : Exa s s.heap aP "com/example/paratitle/paratitle/titles/HeadingElement" := Exa.start ev_aP hn3
  obtain ⟨aN, ev_aN⟩ := exa_v hn21
  have S_aN : Sta s s.heap "com/example/paratitle/paratitle/titles/HeadingElement" "PART_NUMBER" "Lcom/example/paratitle/paratitle/titles/HeadingElement;" (.ref aN) := Sta.start ev_aN (Or.inr ⟨(hw _ (List.mem_of_getElem? (i := 5) rfl)), (hw _ (List.mem_of_getElem? (i := 40) rfl))⟩)
  have E_aN : Exa s s.heap aN "com/example/paratitle/paratitle/titles/HeadingElement" := Exa.start ev_aN hn21
  obtain ⟨aO, ev_aO⟩ := exa_v hn23
  have S_aO : Sta s s.heap "com/example/paratitle/paratitle/titles/HeadingElement" "OTHER_TITLE_INFORMATION" "Lcom/example/paratitle/paratitle/titles/HeadingElement;" (.ref aO) := Sta.start ev_aO (Or.inr ⟨(hw _ (List.mem_of_getElem? (i := 5) rfl)), (hw _ (List.mem_of_getElem? (i := 42) rfl))⟩)
  have E_aO : Exa s s.heap aO "com/example/paratitle/paratitle/titles/HeadingElement" := Exa.start ev_aO hn23
  have F_aT_ordinal : Fld s s.heap aT "java/lang/Enum" "ordinal" "I" (.int (0 : Int32)) := Fld.start ((fld_at ev_aT).symm.trans (own_eqi hn5))
  have F_aP_ordinal : Fld s s.heap aP "java/lang/Enum" "ordinal" "I" (.int (3 : Int32)) := Fld.start ((fld_at ev_aP).symm.trans (own_eqi hn7))
  have F_aN_ordinal : Fld s s.heap aN "java/lang/Enum" "ordinal" "I" (.int (2 : Int32)) := Fld.start ((fld_at ev_aN).symm.trans (own_eqi hn25))
  have F_aO_ordinal : Fld s s.heap aO "java/lang/Enum" "ordinal" "I" (.int (1 : Int32)) := Fld.start ((fld_at ev_aO).symm.trans (own_eqi hn29))
  obtain ⟨saT, ev_saT⟩ := exa_v hn9
  have E_saT : Exa s s.heap saT "java/lang/String" := Exa.start ev_saT hn9
  have F_aT : Fld s s.heap aT "com/example/paratitle/paratitle/titles/HeadingElement" "separator" "Ljava/lang/String;" (.ref saT) := Fld.start ((fld_at ev_aT).symm.trans ev_saT)
  have C_saT : Fld s s.heap saT "java/lang/String" "coder" "B" (.int (0 : Int32)) := Fld.start ((fld_at ev_saT).symm.trans (own_eqi hn11))
  obtain ⟨baT, ev_baT⟩ := arr_v hn13
  have V_saT : Fld s s.heap saT "java/lang/String" "value" "[B" (.ref baT) := Fld.start ((fld_at ev_saT).symm.trans ev_baT)
  obtain ⟨c_baT, A_baT⟩ := Arr.start ev_baT hn13
  have len_baT := own_len ev_baT A_baT (own_eqi hn15)
  have el_baT_0 := (elem_in (own_eqi hn17) ev_baT rfl A_baT.1).2
  have el_baT_1 := (elem_in (own_eqi hn19) ev_baT rfl A_baT.1).2
  have AV_baT : AV s s.heap baT .byte 2 (fun k => .int ((own_t [46, 32]) k)) := ⟨by decide, c_baT, A_baT, len_baT, fun k hk => by
    match k, hk with
    | 0, _ => exact el_baT_0
    | 1, _ => exact el_baT_1
    | n + 2, hk => exact absurd hk (by omega)⟩
  obtain ⟨saO, ev_saO⟩ := exa_v hn31
  have E_saO : Exa s s.heap saO "java/lang/String" := Exa.start ev_saO hn31
  have F_aO : Fld s s.heap aO "com/example/paratitle/paratitle/titles/HeadingElement" "separator" "Ljava/lang/String;" (.ref saO) := Fld.start ((fld_at ev_aO).symm.trans ev_saO)
  have C_saO : Fld s s.heap saO "java/lang/String" "coder" "B" (.int (0 : Int32)) := Fld.start ((fld_at ev_saO).symm.trans (own_eqi hn33))
  obtain ⟨baO, ev_baO⟩ := arr_v hn35
  have V_saO : Fld s s.heap saO "java/lang/String" "value" "[B" (.ref baO) := Fld.start ((fld_at ev_saO).symm.trans ev_baO)
  obtain ⟨c_baO, A_baO⟩ := Arr.start ev_baO hn35
  have len_baO := own_len ev_baO A_baO (own_eqi hn37)
  have el_baO_0 := (elem_in (own_eqi hn39) ev_baO rfl A_baO.1).2
  have el_baO_1 := (elem_in (own_eqi hn41) ev_baO rfl A_baO.1).2
  have el_baO_2 := (elem_in (own_eqi hn43) ev_baO rfl A_baO.1).2
  have AV_baO : AV s s.heap baO .byte 3 (fun k => .int ((own_t [32, 58, 32]) k)) := ⟨by decide, c_baO, A_baO, len_baO, fun k hk => by
    match k, hk with
    | 0, _ => exact el_baO_0
    | 1, _ => exact el_baO_1
    | 2, _ => exact el_baO_2
    | n + 3, hk => exact absurd hk (by omega)⟩
  have F_aN : Fld s s.heap aN "com/example/paratitle/paratitle/titles/HeadingElement" "separator" "Ljava/lang/String;" (.ref saT) := Fld.start ((fld_at ev_aN).symm.trans (own_eqr hn27 ev_saT))
  have F_aP : Fld s s.heap aP "com/example/paratitle/paratitle/titles/HeadingElement" "separator" "Ljava/lang/String;" (.ref saT) := Fld.start ((fld_at ev_aP).symm.trans (own_eqr hn44 ev_saT))
  obtain ⟨cs, evCS⟩ := is_v (Cond.before_iff.mp (hsets _ (List.mem_of_getElem? (i := 1) rfl)))
  have S_CS : Sta s s.heap "java/lang/String" "COMPACT_STRINGS" "Z" (.int cs) := Sta.start evCS (Or.inl (hsets _ (List.mem_of_getElem? (i := 0) rfl)))
  have hcs : ¬ cs = 0 := gotF (Cond.eq_ints evCS (Term.int_eval 0)) (not_v (Cond.before_iff.mp (hsets _ (List.mem_of_getElem? (i := 2) rfl))))
  have hCH : CHv s own_EL s.vm s.heap := CHv.start (own_EW hw) (fun p hp => hcalls.1 p hp) (hsets _ (List.mem_of_getElem? (i := 2) rfl)) (hw _ (List.mem_of_getElem? (i := 20) rfl)) (hw _ (List.mem_of_getElem? (i := 19) rfl))
  obtain ⟨n, o, h1, h2, h3, _, L, rfl, ⟨rfl, N⟩, hq⟩ := rm0 l s _ hw tables_1 i0 i1 aT aO aN aP saT saO baT baO cs s.heap s.heap.size (Nat.le_refl _) S_aT S_aO S_aN S_aP E_aT E_aO E_aN E_aP F_aT F_aO F_aN F_aP E_saT C_saT V_saT AV_baT E_saO C_saO V_saO AV_baO S_CS (Old.start s) (Fld.ne F_aT_ordinal F_aP_ordinal (by simp)) (Fld.ne F_aO_ordinal F_aP_ordinal (by simp)) (Fld.ne F_aN_ordinal F_aP_ordinal (by simp)) (Fld.ne F_aT_ordinal F_aN_ordinal (by simp)) (Fld.ne F_aO_ordinal F_aN_ordinal (by simp)) hcs p e ha hc hk s m _ below hf ((Spec.applies_iff_loose hf).mp happ).1 ⟨rfl, State.Warmed39.refl s, rfl, hCH⟩ trivial
  refine ⟨n, _, h1, h2, h3, hpost _ _ _ _ _ _ ⟨Cond.after_iff.mpr rfl, Cond.after_iff.mpr (eq_i res_at (Term.int_eval (1)) rfl), trivial⟩ ⟨hq.1, hq.2.1, hq.2.2.1, (hq.2.2.2.sift fun y hy => Or.inr (N y hy)).mono (by decide) (by decide)⟩⟩
theorem main_1_1 : Claimed_1_1 := comes_1 fun _ _ _ _ _ _ h hF => ⟨h.1, hF⟩
theorem main_1_2 : Claimed_1_2 := comes_1 fun _ _ _ _ _ _ h hF => ⟨h.2.1, hF⟩
end Jvm.Pilot.@@N@@
namespace Jvm.Pilot.@@N@@
open Jvm Jvm.ClassFile Sem Op Lib Jvm.Free Jvm.Stand Jvm.Pilot.@@N@@.Jvm.D
/-! MADE BY PROGRAM (witnessworld.py) out of the Statement's table words and the real class files: 18 classes; the members and pool entries that the words name. The judged class is class 1, her method 2. -/
namespace start1
open Jvm.ClassFile
def u (s : String) : CpInfo := .utf8 (stringToUtf16 s)
/-- a pool by its gaps: so many unusable entries, then the entry; so many at the end -/
def gap : Nat → List CpInfo → List CpInfo
  | 0, r => r
  | n + 1, r => .unusable :: gap n r
def poolList (es : List (Nat × CpInfo)) (last : Nat) : List CpInfo := es.foldr (fun e r => gap e.1 (e.2 :: r)) (gap last [])
def pool (es : List (Nat × CpInfo)) (last : Nat) : Array CpInfo := ⟨poolList es last⟩
def fileOf (pool : Array CpInfo) (this : Nat) (attrs : Array Attribute := #[]) (ms : Array MethodInfo := #[]) (fl : Nat := 33) (sup : Nat := 0) (ifs : Array Nat := #[]) (fds : Array FieldInfo := #[]) : ClassFile where
  minorVersion := 0
  majorVersion := 65
  constantPool := pool
  accessFlags := fl
  thisClass := this
  superClass := sup
  interfaces := ifs
  fields := fds
  methods := ms
  attributes := attrs
def plain (name : String) (sup : Option ClassId) : Class where
  name := name
  kind := .ordinary
  loader := none
  accessFlags := 33
  super := sup
  interfaces := #[]
  cf := none
  fields := #[]
  methods := #[]
  instanceTypes := #[]
  staticTypes := #[]
  resolved := #[]
  callSites := []
  init := .initialized
  statics := none
  mirror := none

def pool0 : Array CpInfo := pool [(5, u "<init>"), (0, u "()V"), (1, .class_ 10), (1, u "java/lang/Object")] 113

def k0m0 : Method := { name := "<init>", desc := "()V", sig := { parameters := [], returnType := none }, accessFlags := 1, code := none }
/-- java/lang/Object -/
def k0 : Class := { plain "java/lang/Object" none with
  accessFlags := 33
  interfaces := #[]
  cf := some (fileOf pool0 8 #[] #[{ accessFlags := 1, nameIndex := 5, descriptorIndex := 6, attributes := #[] }] 33 0 #[] #[])
  fields := #[]
  methods := #[k0m0]
  instanceTypes := #[]
  staticTypes := #[]
  resolved := Array.replicate 124 none
  statics := none }

def pool1 : Array CpInfo := pool [(2, .class_ 4), (1, u "java/lang/Object"), (0, u "<init>"), (0, u "()V"), (0, .fieldref 8 9), (0, .class_ 10), (0, .nameAndType 11 12), (0, u "com/example/paratitle/paratitle/titles/HeadingElement"), (0, u "TITLE"), (0, u "Lcom/example/paratitle/paratitle/titles/HeadingElement;"), (0, .fieldref 8 14), (0, .nameAndType 15 12), (0, u "OTHER_TITLE_INFORMATION"), (0, .fieldref 8 17), (0, .nameAndType 18 12), (0, u "PART_NUMBER"), (0, .fieldref 8 20), (0, .nameAndType 21 12), (0, u "PART_NAME"), (0, .methodref 23 24), (0, .class_ 25), (0, .nameAndType 26 27), (0, u "com/example/paratitle/paratitle/titles/HeadingElementSeparatorAfterPinLaw"), (0, u "pick"), (0, u "(I)Lcom/example/paratitle/paratitle/titles/HeadingElement;"), (0, .methodref 8 29), (0, .nameAndType 30 31), (0, u "separatorAfter"), (0, u "(Lcom/example/paratitle/paratitle/titles/HeadingElement;)Ljava/lang/String;"), (0, .string 33), (0, u " : "), (0, .string 35), (0, u ", "), (0, .string 37), (0, u ". "), (0, .methodref 39 40), (0, .class_ 41), (0, .nameAndType 42 43), (0, u "java/lang/String"), (0, u "equals"), (0, u "(Ljava/lang/Object;)Z"), (3, u "law"), (0, u "(II)Z")] 2

def k1m0 : Method := { name := "<init>", desc := "()V", sig := { parameters := [], returnType := none }, accessFlags := 1, code := none }
def k1c1 : Code := { maxStack := 2, maxLocals := 1, code := method_2_code, exceptionTable := #[], attributes := #[] }
def k1m1 : Method := { name := "pick", desc := "(I)Lcom/example/paratitle/paratitle/titles/HeadingElement;", sig := { parameters := [.int], returnType := some (.object "com/example/paratitle/paratitle/titles/HeadingElement") }, accessFlags := 10, code := some k1c1 }
def k1c2 : Code := { maxStack := 2, maxLocals := 6, code := code, exceptionTable := #[], attributes := #[] }
def k1m2 : Method := { name := "law", desc := "(II)Z", sig := { parameters := [.int, .int], returnType := some .boolean }, accessFlags := 9, code := some k1c2 }
/-- com/example/paratitle/paratitle/titles/HeadingElementSeparatorAfterPinLaw -/
def k1 : Class := { plain "com/example/paratitle/paratitle/titles/HeadingElementSeparatorAfterPinLaw" (some 0) with
  accessFlags := 49
  interfaces := #[]
  cf := some (fileOf pool1 23 #[] #[{ accessFlags := 1, nameIndex := 5, descriptorIndex := 6, attributes := #[] }, { accessFlags := 10, nameIndex := 26, descriptorIndex := 27, attributes := #[] }, { accessFlags := 9, nameIndex := 47, descriptorIndex := 48, attributes := #[] }] 49 2 #[] #[])
  fields := #[]
  methods := #[k1m0, k1m1, k1m2]
  instanceTypes := #[]
  staticTypes := #[]
  resolved := Array.replicate 51 none
  statics := none }

def pool2 : Array CpInfo := pool [(1, .class_ 2), (0, u "java/lang/constant/Constable"), (0, .class_ 4), (0, u "java/lang/Object")] 6

/-- java/lang/constant/Constable -/
def k2 : Class := { plain "java/lang/constant/Constable" (some 0) with
  accessFlags := 1537
  interfaces := #[]
  cf := some (fileOf pool2 1 #[] #[] 1537 3 #[] #[])
  fields := #[]
  methods := #[]
  instanceTypes := #[]
  staticTypes := #[]
  resolved := Array.replicate 11 none
  statics := none }

def pool3 : Array CpInfo := pool [(1, .class_ 2), (0, u "java/lang/Comparable"), (0, .class_ 4), (0, u "java/lang/Object")] 7

/-- java/lang/Comparable -/
def k3 : Class := { plain "java/lang/Comparable" (some 0) with
  accessFlags := 1537
  interfaces := #[]
  cf := some (fileOf pool3 1 #[] #[] 1537 3 #[] #[])
  fields := #[]
  methods := #[]
  instanceTypes := #[]
  staticTypes := #[]
  resolved := Array.replicate 12 none
  statics := none }

def pool4 : Array CpInfo := pool [(1, .class_ 2), (0, u "java/io/Serializable"), (0, .class_ 4), (0, u "java/lang/Object")] 2

/-- java/io/Serializable -/
def k4 : Class := { plain "java/io/Serializable" (some 0) with
  accessFlags := 1537
  interfaces := #[]
  cf := some (fileOf pool4 1 #[] #[] 1537 3 #[] #[])
  fields := #[]
  methods := #[]
  instanceTypes := #[]
  staticTypes := #[]
  resolved := Array.replicate 7 none
  statics := none }

def pool5 : Array CpInfo := pool [(2, .class_ 4), (1, u "java/lang/Enum"), (0, u "name"), (0, u "Ljava/lang/String;"), (2, u "ordinal"), (0, u "I"), (1, .class_ 14), (1, u "java/lang/Object"), (4, u "hash"), (86, .class_ 108), (1, u "java/lang/Enum$EnumDesc"), (2, .class_ 112), (0, u "java/lang/constant/Constable"), (0, .class_ 114), (0, u "java/lang/Comparable"), (0, .class_ 116), (0, u "java/io/Serializable")] 87

/-- java/lang/Enum -/
def k5 : Class := { plain "java/lang/Enum" (some 0) with
  accessFlags := 1057
  interfaces := #[2, 3, 4]
  cf := some (fileOf pool5 2 #[.nestMembers #[106]] #[] 1057 12 #[111, 113, 115] #[{ accessFlags := 18, nameIndex := 5, descriptorIndex := 6, attributes := #[] }, { accessFlags := 18, nameIndex := 9, descriptorIndex := 10, attributes := #[] }, { accessFlags := 2, nameIndex := 19, descriptorIndex := 10, attributes := #[] }])
  fields := #[{ name := "name", type := (.object "java/lang/String"), accessFlags := 18, slot := 0, constantValue := 0 }, { name := "ordinal", type := .int, accessFlags := 18, slot := 1, constantValue := 0 }, { name := "hash", type := .int, accessFlags := 2, slot := 2, constantValue := 0 }]
  methods := #[]
  instanceTypes := #[(.object "java/lang/String"), .int, .int]
  staticTypes := #[]
  resolved := Array.replicate 204 none
  statics := none }

def pool6 : Array CpInfo := pool [(1, .class_ 2), (0, u "com/example/paratitle/paratitle/titles/HeadingElement"), (2, u "TITLE"), (0, u "Lcom/example/paratitle/paratitle/titles/HeadingElement;"), (2, u "OTHER_TITLE_INFORMATION"), (0, .fieldref 1 11), (0, .nameAndType 12 6), (0, u "PART_NUMBER"), (0, .fieldref 1 14), (0, .nameAndType 15 6), (0, u "PART_NAME"), (2, u "$VALUES"), (0, u "[Lcom/example/paratitle/paratitle/titles/HeadingElement;"), (6, .class_ 28), (1, u "java/lang/Enum"), (6, .fieldref 1 36), (0, .nameAndType 37 38), (0, u "separator"), (0, u "Ljava/lang/String;"), (0, .string 40), (0, u ", "), (22, u "separatorAfter"), (0, u "(Lcom/example/paratitle/paratitle/titles/HeadingElement;)Ljava/lang/String;")] 6

def k6c0 : Code := { maxStack := 2, maxLocals := 2, code := prog_26_method_4_code, exceptionTable := #[], attributes := #[] }
def k6m0 : Method := { name := "separatorAfter", desc := "(Lcom/example/paratitle/paratitle/titles/HeadingElement;)Ljava/lang/String;", sig := { parameters := [(.object "com/example/paratitle/paratitle/titles/HeadingElement")], returnType := some (.object "java/lang/String") }, accessFlags := 0, code := some k6c0 }
/-- com/example/paratitle/paratitle/titles/HeadingElement -/
def k6 : Class := { plain "com/example/paratitle/paratitle/titles/HeadingElement" (some 5) with
  accessFlags := 16432
  interfaces := #[]
  cf := some (fileOf pool6 1 #[] #[{ accessFlags := 0, nameIndex := 63, descriptorIndex := 64, attributes := #[] }] 16432 26 #[] #[{ accessFlags := 16409, nameIndex := 5, descriptorIndex := 6, attributes := #[] }, { accessFlags := 16409, nameIndex := 9, descriptorIndex := 6, attributes := #[] }, { accessFlags := 16409, nameIndex := 12, descriptorIndex := 6, attributes := #[] }, { accessFlags := 16409, nameIndex := 15, descriptorIndex := 6, attributes := #[] }, { accessFlags := 18, nameIndex := 37, descriptorIndex := 38, attributes := #[] }, { accessFlags := 4122, nameIndex := 18, descriptorIndex := 19, attributes := #[] }])
  fields := #[{ name := "TITLE", type := (.object "com/example/paratitle/paratitle/titles/HeadingElement"), accessFlags := 16409, slot := 0, constantValue := 0 }, { name := "OTHER_TITLE_INFORMATION", type := (.object "com/example/paratitle/paratitle/titles/HeadingElement"), accessFlags := 16409, slot := 1, constantValue := 0 }, { name := "PART_NUMBER", type := (.object "com/example/paratitle/paratitle/titles/HeadingElement"), accessFlags := 16409, slot := 2, constantValue := 0 }, { name := "PART_NAME", type := (.object "com/example/paratitle/paratitle/titles/HeadingElement"), accessFlags := 16409, slot := 3, constantValue := 0 }, { name := "separator", type := (.object "java/lang/String"), accessFlags := 18, slot := 3, constantValue := 0 }, { name := "$VALUES", type := (.array (.object "com/example/paratitle/paratitle/titles/HeadingElement")), accessFlags := 4122, slot := 4, constantValue := 0 }]
  methods := #[k6m0]
  instanceTypes := #[(.object "java/lang/String"), .int, .int, (.object "java/lang/String")]
  staticTypes := #[(.object "com/example/paratitle/paratitle/titles/HeadingElement"), (.object "com/example/paratitle/paratitle/titles/HeadingElement"), (.object "com/example/paratitle/paratitle/titles/HeadingElement"), (.object "com/example/paratitle/paratitle/titles/HeadingElement"), (.array (.object "com/example/paratitle/paratitle/titles/HeadingElement"))]
  resolved := Array.replicate 71 none
  statics := some 0 }

def pool7 : Array CpInfo := pool [(2, .class_ 4), (1, u "java/lang/CharSequence"), (42, .class_ 48), (0, u "java/lang/CharSequence$1CodePointIterator"), (10, .class_ 60), (0, u "java/lang/CharSequence$1CharIterator"), (5, .class_ 67), (0, u "java/lang/Object")] 63

/-- java/lang/CharSequence -/
def k7 : Class := { plain "java/lang/CharSequence" (some 0) with
  accessFlags := 1537
  interfaces := #[]
  cf := some (fileOf pool7 2 #[.nestMembers #[47, 59]] #[] 1537 66 #[] #[])
  fields := #[]
  methods := #[]
  instanceTypes := #[]
  staticTypes := #[]
  resolved := Array.replicate 131 none
  statics := none }

def pool8 : Array CpInfo := pool [(1, .class_ 2), (0, u "java/lang/constant/ConstantDesc"), (0, .class_ 4), (0, u "java/lang/Object")] 32

/-- java/lang/constant/ConstantDesc -/
def k8 : Class := { plain "java/lang/constant/ConstantDesc" (some 0) with
  accessFlags := 1537
  interfaces := #[]
  cf := some (fileOf pool8 1 #[] #[] 1537 3 #[] #[])
  fields := #[]
  methods := #[]
  instanceTypes := #[]
  staticTypes := #[]
  resolved := Array.replicate 37 none
  statics := none }

def pool9 : Array CpInfo := pool [(2, .class_ 4), (1, u "java/lang/Object"), (0, u "<init>"), (0, u "()V"), (2, .fieldref 10 11), (0, .class_ 12), (0, .nameAndType 13 14), (0, u "java/lang/String"), (0, u "value"), (0, u "[B"), (0, .fieldref 10 16), (0, .nameAndType 17 18), (0, u "coder"), (0, u "B"), (2, u "hash"), (0, u "I"), (2, u "hashIsZero"), (0, u "Z"), (11, .fieldref 10 39), (0, .nameAndType 40 26), (0, u "COMPACT_STRINGS"), (66, .class_ 109), (1, u "java/lang/StringLatin1"), (431, .methodref 107 542), (0, .nameAndType 543 544), (0, u "equals"), (0, u "([B[B)Z"), (28, u "(Ljava/lang/Object;)Z"), (1, .class_ 576), (0, u "java/lang/CharSequence"), (22, u "CASE_INSENSITIVE_ORDER"), (0, u "Ljava/util/Comparator;"), (500, u "serialPersistentFields"), (0, u "[Ljava/io/ObjectStreamField;"), (0, .class_ 1104), (0, u "java/lang/String$CaseInsensitiveComparator"), (1, .class_ 1107), (0, u "java/io/Serializable"), (0, .class_ 1109), (0, u "java/lang/Comparable"), (0, .class_ 1111), (0, u "java/lang/constant/Constable"), (0, .class_ 1113), (0, u "java/lang/constant/ConstantDesc"), (2, u "serialVersionUID"), (0, u "J"), (3, u "REPL"), (0, u "C"), (2, u "LATIN1"), (1, u "UTF16")] 323

def k9m0 : Method := { name := "<init>", desc := "()V", sig := { parameters := [], returnType := none }, accessFlags := 1, code := none }
def k9c1 : Code := { maxStack := 2, maxLocals := 3, code := jdk_42_method_66_code, exceptionTable := #[], attributes := #[] }
def k9m1 : Method := { name := "equals", desc := "(Ljava/lang/Object;)Z", sig := { parameters := [(.object "java/lang/Object")], returnType := some .boolean }, accessFlags := 1, code := some k9c1 }
/-- java/lang/String -/
def k9 : Class := { plain "java/lang/String" (some 0) with
  accessFlags := 49
  interfaces := #[4, 3, 7, 2, 8]
  cf := some (fileOf pool9 10 #[.nestMembers #[1103]] #[{ accessFlags := 1, nameIndex := 5, descriptorIndex := 6, attributes := #[] }, { accessFlags := 1, nameIndex := 543, descriptorIndex := 573, attributes := #[] }] 49 2 #[1106, 1108, 575, 1110, 1112] #[{ accessFlags := 18, nameIndex := 13, descriptorIndex := 14, attributes := #[] }, { accessFlags := 18, nameIndex := 17, descriptorIndex := 18, attributes := #[] }, { accessFlags := 2, nameIndex := 21, descriptorIndex := 22, attributes := #[] }, { accessFlags := 2, nameIndex := 25, descriptorIndex := 26, attributes := #[] }, { accessFlags := 26, nameIndex := 1116, descriptorIndex := 1117, attributes := #[] }, { accessFlags := 24, nameIndex := 40, descriptorIndex := 26, attributes := #[] }, { accessFlags := 26, nameIndex := 1101, descriptorIndex := 1102, attributes := #[] }, { accessFlags := 26, nameIndex := 1121, descriptorIndex := 1122, attributes := #[] }, { accessFlags := 25, nameIndex := 599, descriptorIndex := 600, attributes := #[] }, { accessFlags := 24, nameIndex := 1125, descriptorIndex := 18, attributes := #[] }, { accessFlags := 24, nameIndex := 1127, descriptorIndex := 18, attributes := #[] }])
  fields := #[{ name := "value", type := (.array .byte), accessFlags := 18, slot := 0, constantValue := 0 }, { name := "coder", type := .byte, accessFlags := 18, slot := 1, constantValue := 0 }, { name := "hash", type := .int, accessFlags := 2, slot := 2, constantValue := 0 }, { name := "hashIsZero", type := .boolean, accessFlags := 2, slot := 3, constantValue := 0 }, { name := "serialVersionUID", type := .long, accessFlags := 26, slot := 0, constantValue := 0 }, { name := "COMPACT_STRINGS", type := .boolean, accessFlags := 24, slot := 1, constantValue := 0 }, { name := "serialPersistentFields", type := (.array (.object "java/io/ObjectStreamField")), accessFlags := 26, slot := 2, constantValue := 0 }, { name := "REPL", type := .char, accessFlags := 26, slot := 3, constantValue := 0 }, { name := "CASE_INSENSITIVE_ORDER", type := (.object "java/util/Comparator"), accessFlags := 25, slot := 4, constantValue := 0 }, { name := "LATIN1", type := .byte, accessFlags := 24, slot := 5, constantValue := 0 }, { name := "UTF16", type := .byte, accessFlags := 24, slot := 6, constantValue := 0 }]
  methods := #[k9m0, k9m1]
  instanceTypes := #[(.array .byte), .byte, .int, .boolean]
  staticTypes := #[.long, .boolean, (.array (.object "java/io/ObjectStreamField")), .char, (.object "java/util/Comparator"), .byte, .byte]
  resolved := Array.replicate 1451 none
  statics := some 1 }

def pool10 : Array CpInfo := pool [(4, .class_ 6), (1, u "java/lang/Object"), (0, u "<init>"), (0, u "()V"), (5, .class_ 16), (1, u "java/lang/StringLatin1"), (104, u "$assertionsDisabled"), (0, u "Z"), (98, .class_ 223), (1, u "java/lang/StringLatin1$LinesSpliterator"), (57, u "equals"), (0, u "([B[B)Z"), (107, .class_ 391), (0, u "java/lang/StringLatin1$CharsSpliterator")] 3

def k10m0 : Method := { name := "<init>", desc := "()V", sig := { parameters := [], returnType := none }, accessFlags := 0, code := none }
def k10c1 : Code := { maxStack := 3, maxLocals := 3, code := jdk_43_method_13_code, exceptionTable := #[], attributes := #[] }
def k10m1 : Method := { name := "equals", desc := "([B[B)Z", sig := { parameters := [(.array .byte), (.array .byte)], returnType := some .boolean }, accessFlags := 9, code := some k10c1 }
/-- java/lang/StringLatin1 -/
def k10 : Class := { plain "java/lang/StringLatin1" (some 0) with
  accessFlags := 48
  interfaces := #[]
  cf := some (fileOf pool10 14 #[.nestMembers #[390, 221]] #[{ accessFlags := 0, nameIndex := 7, descriptorIndex := 8, attributes := #[] }, { accessFlags := 9, nameIndex := 281, descriptorIndex := 282, attributes := #[] }] 48 4 #[] #[{ accessFlags := 4120, nameIndex := 121, descriptorIndex := 122, attributes := #[] }])
  fields := #[{ name := "$assertionsDisabled", type := .boolean, accessFlags := 4120, slot := 0, constantValue := 0 }]
  methods := #[k10m0, k10m1]
  instanceTypes := #[]
  staticTypes := #[.boolean]
  resolved := Array.replicate 395 none
  statics := none }

def pool11 : Array CpInfo := pool [(2, .class_ 4), (1, u "java/lang/Object"), (0, u "<init>"), (0, u "()V"), (17, .class_ 26), (1, u "jdk/internal/util/Preconditions"), (28, .class_ 56), (0, u "jdk/internal/util/Preconditions$4"), (57, .class_ 115), (0, u "jdk/internal/util/Preconditions$1"), (7, u "SIOOBE_FORMATTER"), (0, u "Ljava/util/function/BiFunction;"), (0, .class_ 126), (0, u "jdk/internal/util/Preconditions$2"), (3, u "AIOOBE_FORMATTER"), (0, .class_ 132), (0, u "jdk/internal/util/Preconditions$3"), (3, u "IOOBE_FORMATTER")] 57

def k11m0 : Method := { name := "<init>", desc := "()V", sig := { parameters := [], returnType := none }, accessFlags := 1, code := none }
/-- jdk/internal/util/Preconditions -/
def k11 : Class := { plain "jdk/internal/util/Preconditions" (some 0) with
  accessFlags := 33
  interfaces := #[]
  cf := some (fileOf pool11 24 #[.nestMembers #[55, 131, 125, 114]] #[{ accessFlags := 1, nameIndex := 5, descriptorIndex := 6, attributes := #[] }] 33 2 #[] #[{ accessFlags := 25, nameIndex := 123, descriptorIndex := 124, attributes := #[] }, { accessFlags := 25, nameIndex := 130, descriptorIndex := 124, attributes := #[] }, { accessFlags := 25, nameIndex := 136, descriptorIndex := 124, attributes := #[] }])
  fields := #[{ name := "SIOOBE_FORMATTER", type := (.object "java/util/function/BiFunction"), accessFlags := 25, slot := 0, constantValue := 0 }, { name := "AIOOBE_FORMATTER", type := (.object "java/util/function/BiFunction"), accessFlags := 25, slot := 1, constantValue := 0 }, { name := "IOOBE_FORMATTER", type := (.object "java/util/function/BiFunction"), accessFlags := 25, slot := 2, constantValue := 0 }]
  methods := #[k11m0]
  instanceTypes := #[]
  staticTypes := #[(.object "java/util/function/BiFunction"), (.object "java/util/function/BiFunction"), (.object "java/util/function/BiFunction")]
  resolved := Array.replicate 194 none
  statics := some 2 }

def pool12 : Array CpInfo := pool [(9, u "<init>"), (6, .class_ 18), (1, u "java/lang/Object"), (0, u "()V"), (1, .class_ 23), (1, u "jdk/internal/util/ArraysSupport"), (0, u "LOG2_ARRAY_LONG_INDEX_SCALE"), (0, u "I"), (2, u "U"), (0, u "Ljdk/internal/misc/Unsafe;"), (8, u "BIG_ENDIAN"), (0, u "Z"), (8, u "LOG2_BYTE_BIT_SIZE"), (4, u "LOG2_ARRAY_INT_INDEX_SCALE"), (54, u "JLA"), (0, u "Ljdk/internal/access/JavaLangAccess;"), (11, u "LOG2_ARRAY_BOOLEAN_INDEX_SCALE"), (9, u "LOG2_ARRAY_BYTE_INDEX_SCALE"), (5, u "LOG2_ARRAY_CHAR_INDEX_SCALE"), (5, u "LOG2_ARRAY_SHORT_INDEX_SCALE"), (18, u "LOG2_ARRAY_FLOAT_INDEX_SCALE"), (24, u "LOG2_ARRAY_DOUBLE_INDEX_SCALE"), (89, u "T_BOOLEAN"), (2, u "T_CHAR"), (1, u "T_FLOAT"), (1, u "T_DOUBLE"), (1, u "T_BYTE"), (1, u "T_SHORT"), (1, u "T_INT"), (1, u "T_LONG"), (1, u "SOFT_MAX_ARRAY_LENGTH")] 83

def k12m0 : Method := { name := "<init>", desc := "()V", sig := { parameters := [], returnType := none }, accessFlags := 2, code := none }
/-- jdk/internal/util/ArraysSupport -/
def k12 : Class := { plain "jdk/internal/util/ArraysSupport" (some 0) with
  accessFlags := 33
  interfaces := #[]
  cf := some (fileOf pool12 21 #[] #[{ accessFlags := 2, nameIndex := 9, descriptorIndex := 19, attributes := #[] }] 33 16 #[] #[{ accessFlags := 24, nameIndex := 28, descriptorIndex := 29, attributes := #[] }, { accessFlags := 26, nameIndex := 38, descriptorIndex := 39, attributes := #[] }, { accessFlags := 25, nameIndex := 121, descriptorIndex := 25, attributes := #[] }, { accessFlags := 25, nameIndex := 131, descriptorIndex := 25, attributes := #[] }, { accessFlags := 25, nameIndex := 137, descriptorIndex := 25, attributes := #[] }, { accessFlags := 25, nameIndex := 143, descriptorIndex := 25, attributes := #[] }, { accessFlags := 25, nameIndex := 53, descriptorIndex := 25, attributes := #[] }, { accessFlags := 25, nameIndex := 24, descriptorIndex := 25, attributes := #[] }, { accessFlags := 25, nameIndex := 162, descriptorIndex := 25, attributes := #[] }, { accessFlags := 25, nameIndex := 187, descriptorIndex := 25, attributes := #[] }, { accessFlags := 26, nameIndex := 48, descriptorIndex := 25, attributes := #[] }, { accessFlags := 25, nameIndex := 277, descriptorIndex := 25, attributes := #[] }, { accessFlags := 25, nameIndex := 280, descriptorIndex := 25, attributes := #[] }, { accessFlags := 25, nameIndex := 282, descriptorIndex := 25, attributes := #[] }, { accessFlags := 25, nameIndex := 284, descriptorIndex := 25, attributes := #[] }, { accessFlags := 25, nameIndex := 286, descriptorIndex := 25, attributes := #[] }, { accessFlags := 25, nameIndex := 288, descriptorIndex := 25, attributes := #[] }, { accessFlags := 25, nameIndex := 290, descriptorIndex := 25, attributes := #[] }, { accessFlags := 25, nameIndex := 292, descriptorIndex := 25, attributes := #[] }, { accessFlags := 26, nameIndex := 108, descriptorIndex := 109, attributes := #[] }, { accessFlags := 25, nameIndex := 294, descriptorIndex := 25, attributes := #[] }])
  fields := #[{ name := "U", type := (.object "jdk/internal/misc/Unsafe"), accessFlags := 24, slot := 0, constantValue := 0 }, { name := "BIG_ENDIAN", type := .boolean, accessFlags := 26, slot := 1, constantValue := 0 }, { name := "LOG2_ARRAY_BOOLEAN_INDEX_SCALE", type := .int, accessFlags := 25, slot := 2, constantValue := 0 }, { name := "LOG2_ARRAY_BYTE_INDEX_SCALE", type := .int, accessFlags := 25, slot := 3, constantValue := 0 }, { name := "LOG2_ARRAY_CHAR_INDEX_SCALE", type := .int, accessFlags := 25, slot := 4, constantValue := 0 }, { name := "LOG2_ARRAY_SHORT_INDEX_SCALE", type := .int, accessFlags := 25, slot := 5, constantValue := 0 }, { name := "LOG2_ARRAY_INT_INDEX_SCALE", type := .int, accessFlags := 25, slot := 6, constantValue := 0 }, { name := "LOG2_ARRAY_LONG_INDEX_SCALE", type := .int, accessFlags := 25, slot := 7, constantValue := 0 }, { name := "LOG2_ARRAY_FLOAT_INDEX_SCALE", type := .int, accessFlags := 25, slot := 8, constantValue := 0 }, { name := "LOG2_ARRAY_DOUBLE_INDEX_SCALE", type := .int, accessFlags := 25, slot := 9, constantValue := 0 }, { name := "LOG2_BYTE_BIT_SIZE", type := .int, accessFlags := 26, slot := 10, constantValue := 0 }, { name := "T_BOOLEAN", type := .int, accessFlags := 25, slot := 11, constantValue := 0 }, { name := "T_CHAR", type := .int, accessFlags := 25, slot := 12, constantValue := 0 }, { name := "T_FLOAT", type := .int, accessFlags := 25, slot := 13, constantValue := 0 }, { name := "T_DOUBLE", type := .int, accessFlags := 25, slot := 14, constantValue := 0 }, { name := "T_BYTE", type := .int, accessFlags := 25, slot := 15, constantValue := 0 }, { name := "T_SHORT", type := .int, accessFlags := 25, slot := 16, constantValue := 0 }, { name := "T_INT", type := .int, accessFlags := 25, slot := 17, constantValue := 0 }, { name := "T_LONG", type := .int, accessFlags := 25, slot := 18, constantValue := 0 }, { name := "JLA", type := (.object "jdk/internal/access/JavaLangAccess"), accessFlags := 26, slot := 19, constantValue := 0 }, { name := "SOFT_MAX_ARRAY_LENGTH", type := .int, accessFlags := 25, slot := 20, constantValue := 0 }]
  methods := #[k12m0]
  instanceTypes := #[]
  staticTypes := #[(.object "jdk/internal/misc/Unsafe"), .boolean, .int, .int, .int, .int, .int, .int, .int, .int, .int, .int, .int, .int, .int, .int, .int, .int, .int, (.object "jdk/internal/access/JavaLangAccess"), .int]
  resolved := Array.replicate 378 none
  statics := none }

def pool13 : Array CpInfo := pool [(1, u "java/lang/Cloneable"), (0, .class_ 1), (0, u "java/lang/Object"), (0, .class_ 3)] 3

/-- java/lang/Cloneable -/
def k13 : Class := { plain "java/lang/Cloneable" (some 0) with
  accessFlags := 1537
  interfaces := #[]
  cf := some (fileOf pool13 2 #[] #[] 1537 4 #[] #[])
  fields := #[]
  methods := #[]
  instanceTypes := #[]
  staticTypes := #[]
  resolved := Array.replicate 8 none
  statics := none }

/-- the primitive byte -/
def k14 : Class := { plain "byte" none with kind := .primitive 'B', accessFlags := 0x411 }
/-- [B -/
def k15 : Class := { plain "[B" (some 0) with kind := .array 14 .byte, interfaces := #[13, 4], accessFlags := 1041 }

/-- the primitive int -/
def k16 : Class := { plain "int" none with kind := .primitive 'I', accessFlags := 0x411 }
/-- [I -/
def k17 : Class := { plain "[I" (some 0) with kind := .array 16 .int, interfaces := #[13, 4], accessFlags := 1041 }

def heap : Heap := #[{ cls := 6, slots := #[.ref 7, .ref 8, .ref 9, .ref 10, .null], vm := .statics 6 },
  { cls := 9, slots := #[.long 0, .int 1, .null, .int 0, .null, .int 0, .int 0], vm := .statics 9 },
  { cls := 11, slots := #[.null, .null, .null], vm := .statics 11 },
  { cls := 15, slots := #[.int 46, .int 32], vm := .none },
  { cls := 15, slots := #[.int 32, .int 58, .int 32], vm := .none },
  { cls := 9, slots := #[.ref 3, .int 0, .int 0, .int 0], vm := .none },
  { cls := 9, slots := #[.ref 4, .int 0, .int 0, .int 0], vm := .none },
  { cls := 6, slots := #[.null, .int 0, .int 0, .ref 5], vm := .none },
  { cls := 6, slots := #[.null, .int 1, .int 0, .ref 6], vm := .none },
  { cls := 6, slots := #[.null, .int 2, .int 0, .ref 5], vm := .none },
  { cls := 6, slots := #[.null, .int 3, .int 0, .ref 5], vm := .none }]
def classes : Array Class := #[k0, k1, k2, k3, k4, k5, k6, k7, k8, k9, k10, k11, k12, k13, k14, k15, k16, k17]
def interned : List (Array UInt16 × Addr) := []
def slotsUsed : Nat := 44
def theMethod : MethodId := ⟨1, 2⟩
def args0 : Array Value := #[.int 5, .int 6]
def aboutOver (below : List Frame) : State where
  vm := { classes := classes, interned := interned.toArray }
  heap := heap
  slotsUsed := slotsUsed
  threads := #[{ frames := .invoking theMethod args0 :: below }]
def below0 : List Frame := [.native { method := ⟨0, 0⟩, args := #[] }]
def about1 : State := aboutOver below0
def p0 : Program := .bare "" "" ""
def e0 : Env := launch0.env 0 0 0
theorem w_frames : about1.frames = Frame.invoking theMethod args0 :: below0 := rfl
set_option maxRecDepth 65536 in
theorem w_args : argsFit about1.vm theMethod args0 = true := by decide +kernel
set_option maxRecDepth 65536 in
theorem w_heap : heapFits about1 = true := by decide +kernel
set_option maxRecDepth 65536 in
theorem w_runnable : about1.curStatus? = some .runnable := by decide +kernel
set_option maxRecDepth 65536 in
theorem w_alone : about1.alone = true := by decide +kernel
set_option maxRecDepth 65536 in
theorem w_named : about1.methodNamed? x = some theMethod := by decide +kernel
set_option maxRecDepth 65536 in
theorem w_hears : about1.hears theMethod below0 = true := by decide +kernel
set_option maxRecDepth 65536 in
theorem w_ripe : about1.ripe theMethod args0 below0 = true := by decide +kernel
theorem w_running : about1.status = .running := rfl
set_option maxRecDepth 65536 in
theorem w_room : about1.hasRoom e0.platform room_1 = true :=
  launch0.hasRoom_least _ room_1 (by decide +kernel) (by decide +kernel) (by decide +kernel) (by decide +kernel) (by decide +kernel) (by decide +kernel)
theorem allAtoms_all (ts : List Jvm.Cond) (a : Array Jvm.Value) (st : Jvm.State) : (allAtoms ts).before a st = ts.all (fun c => c.before a st) := by
  induction ts with
  | nil => rfl
  | cons c t ih =>
    show (Jvm.Cond.and c (allAtoms t)).before a st = _
    rw [Jvm.Cond.before_and, ih, List.all_cons]
def words1 : List Jvm.Cond := Jvm.Cond.code x code maxLocals ret :: tables_1
/-- a 'code' word, met by the world's own term for the bytes: nothing is compared byte by byte -/
theorem code_word {y : MethodName} {bytes : ByteArray} {mx : Nat} {rt : Option FieldType} {a : Array Value} {s : State} {m : MethodId} {meth : Method} {c : Code} (h1 : s.methodNamed? y = some m) (h2 : s.vm.method? m = some meth) (h3 : meth.code = some c) (h4 : c.code = bytes)
    (h5 : (c.maxLocals == mx && c.exceptionTable.isEmpty && decide (c.maxStack ≤ mostOperands) && decide (meth.sig.returnType = rt) && !meth.locks && decide (parseMethodDescriptor y.desc = some meth.sig)) = true) : (Jvm.Cond.code y bytes mx rt).before a s = true := by
  simp only [Bool.and_eq_true, beq_iff_eq, Bool.not_eq_true', decide_eq_true_eq] at h5
  obtain ⟨⟨⟨⟨⟨g1, g2⟩, g3⟩, g4⟩, g5⟩, g6⟩ := h5
  simp [Cond.before, Cond.holds, Cond.value, h1, h2, h3, h4, g1, g2, g3, g4, g5, g6]
def isCode : Jvm.Cond → Bool
  | .code _ _ _ _ => true
  | _ => false
theorem all_split {L : List Jvm.Cond} {P : Jvm.Cond → Bool} (h1 : L.all (fun c => isCode c || P c) = true) (h2 : ∀ c ∈ L.filter isCode, P c = true) : L.all P = true := by
  refine List.all_eq_true.mpr fun c hc => ?_
  have h := List.all_eq_true.mp h1 c hc
  rcases Bool.eq_false_or_eq_true (isCode c) with hi | hi
  · exact h2 c (List.mem_filter.mpr ⟨hc, hi⟩)
  · simpa [hi] using h
set_option maxRecDepth 65536 in
theorem w_c0 : (Jvm.Cond.code x code maxLocals ret).before args0 about1 = true := code_word (m := ⟨1, 2⟩) (meth := k1m2) (c := k1c2) (by decide +kernel) rfl rfl rfl (by decide +kernel)
set_option maxRecDepth 65536 in
theorem w_c1 : (Jvm.Cond.code ({ cls := "com/example/paratitle/paratitle/titles/HeadingElementSeparatorAfterPinLaw", name := "pick", desc := "(I)Lcom/example/paratitle/paratitle/titles/HeadingElement;" } : Jvm.MethodName) method_2_code (1 : Nat) (Option.some (Jvm.ClassFile.FieldType.object "com/example/paratitle/paratitle/titles/HeadingElement"))).before args0 about1 = true := code_word (m := ⟨1, 1⟩) (meth := k1m1) (c := k1c1) (by decide +kernel) rfl rfl rfl (by decide +kernel)
set_option maxRecDepth 65536 in
theorem w_c2 : (Jvm.Cond.code ({ cls := "com/example/paratitle/paratitle/titles/HeadingElement", name := "separatorAfter", desc := "(Lcom/example/paratitle/paratitle/titles/HeadingElement;)Ljava/lang/String;" } : Jvm.MethodName) prog_26_method_4_code (2 : Nat) (Option.some (Jvm.ClassFile.FieldType.object "java/lang/String"))).before args0 about1 = true := code_word (m := ⟨6, 0⟩) (meth := k6m0) (c := k6c0) (by decide +kernel) rfl rfl rfl (by decide +kernel)
set_option maxRecDepth 65536 in
theorem w_c3 : (Jvm.Cond.code ({ cls := "java/lang/String", name := "equals", desc := "(Ljava/lang/Object;)Z" } : Jvm.MethodName) jdk_42_method_66_code (3 : Nat) (Option.some Jvm.ClassFile.FieldType.boolean)).before args0 about1 = true := code_word (m := ⟨9, 1⟩) (meth := k9m1) (c := k9c1) (by decide +kernel) rfl rfl rfl (by decide +kernel)
set_option maxRecDepth 65536 in
theorem w_c4 : (Jvm.Cond.code ({ cls := "java/lang/StringLatin1", name := "equals", desc := "([B[B)Z" } : Jvm.MethodName) jdk_43_method_13_code (3 : Nat) (Option.some Jvm.ClassFile.FieldType.boolean)).before args0 about1 = true := code_word (m := ⟨10, 1⟩) (meth := k10m1) (c := k10c1) (by decide +kernel) rfl rfl rfl (by decide +kernel)
def codes1 : List Jvm.Cond := [Jvm.Cond.code x code maxLocals ret, Jvm.Cond.code ({ cls := "com/example/paratitle/paratitle/titles/HeadingElementSeparatorAfterPinLaw", name := "pick", desc := "(I)Lcom/example/paratitle/paratitle/titles/HeadingElement;" } : Jvm.MethodName) method_2_code (1 : Nat) (Option.some (Jvm.ClassFile.FieldType.object "com/example/paratitle/paratitle/titles/HeadingElement")), Jvm.Cond.code ({ cls := "com/example/paratitle/paratitle/titles/HeadingElement", name := "separatorAfter", desc := "(Lcom/example/paratitle/paratitle/titles/HeadingElement;)Ljava/lang/String;" } : Jvm.MethodName) prog_26_method_4_code (2 : Nat) (Option.some (Jvm.ClassFile.FieldType.object "java/lang/String")), Jvm.Cond.code ({ cls := "java/lang/String", name := "equals", desc := "(Ljava/lang/Object;)Z" } : Jvm.MethodName) jdk_42_method_66_code (3 : Nat) (Option.some Jvm.ClassFile.FieldType.boolean), Jvm.Cond.code ({ cls := "java/lang/StringLatin1", name := "equals", desc := "([B[B)Z" } : Jvm.MethodName) jdk_43_method_13_code (3 : Nat) (Option.some Jvm.ClassFile.FieldType.boolean)]
set_option maxRecDepth 65536 in
theorem codes_eq : words1.filter isCode = codes1 := rfl
theorem w_codes : ∀ c ∈ words1.filter isCode, c.before args0 about1 = true := by
  rw [codes_eq]
  intro c hc
  simp only [codes1, List.mem_cons, List.not_mem_nil, or_false] at hc
  rcases hc with rfl | rfl | rfl | rfl | rfl
  · exact w_c0
  · exact w_c1
  · exact w_c2
  · exact w_c3
  · exact w_c4
set_option maxRecDepth 65536 in
theorem w_t1 : (words1.take 24).all (fun c => isCode c || c.before args0 about1) = true := by decide +kernel
set_option maxRecDepth 65536 in
theorem w_t2 : (words1.drop 24).all (fun c => isCode c || c.before args0 about1) = true := by decide +kernel
theorem w_tables : (allAtoms (Jvm.Cond.code x code maxLocals ret :: tables_1)).before args0 about1 = true := by
  rw [allAtoms_all]
  show words1.all (fun c => c.before args0 about1) = true
  refine all_split ?_ w_codes
  rw [← List.take_append_drop 24 words1, List.all_append, w_t1, w_t2]
  rfl
set_option maxRecDepth 65536 in
theorem w_rest : rest_1_c.before args0 about1 = true := by decide +kernel
set_option maxRecDepth 65536 in
theorem w_case : (Jvm.Cond.and given_1 narrow_1).before args0 about1 = true := by decide +kernel
set_option maxRecDepth 65536 in
theorem w_consts : constsHeld consts_1 about1 := Jvm.Lit.constsHeldB_iff.mp (by decide +kernel)
theorem w_applies : (headSpec (Jvm.Cond.code x code maxLocals ret :: tables_1) room_1).applies x e0.platform about1 = true :=
  (Spec.applies_iff w_frames).mpr ⟨w_running, w_runnable, w_alone, w_named, w_hears, w_ripe, w_room, w_tables⟩
theorem atStart : AtStart classFile x code maxLocals ret World_1 tables_1 room_1 Calls_1 rest_1 Pre_1 launch0 p0 e0 about1 theMethod args0 below0 :=
  ⟨lists_1, trivial, launch0.admits_env _ _ _, launch0.least_env, fairChoices_fair.cas, fairChoices_fair.clock, w_frames, w_args, w_heap, w_applies, ⟨w_consts, trivial⟩, w_rest, w_case⟩
end start1
theorem witness_1 : WitnessClaimed_1 := ⟨start1.p0, start1.e0, start1.about1, start1.theMethod, start1.args0, start1.below0, start1.atStart⟩
end Jvm.Pilot.@@N@@
