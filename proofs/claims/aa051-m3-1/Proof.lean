import JvmDerived
import JvmDerived.Pilot.@@N@@Statement
import JvmDerived.Pilot.@@N@@Code
set_option linter.unusedVariables false
set_option linter.unusedSimpArgs false
set_option maxRecDepth 65536
set_option maxHeartbeats 40000000
namespace Jvm.Pilot.@@N@@
open Jvm Jvm.ClassFile Sem Op Lib Jvm.Free Jvm.Stand Jvm.LawKit Jvm.RoadKit Bundle Jvm.Pilot.@@N@@.Jvm.D
/-- from T the run comes to an end of which P speaks -/
def Go (p : Program) (e : Env) (below : List Frame) (P : Outcome → State → Prop) (T : State) : Prop := ∃ s₂ o, Steps p.tables e below T s₂ ∧ s₂.status = .running ∧ Ended s₂ below o ∧ P o s₂
theorem Go.via {p : Program} {e : Env} {below : List Frame} {P : Outcome → State → Prop} {T T' : State} (h : ∀ t, Steps p.tables e below T' t → Steps p.tables e below T t) (g : Go p e below P T') : Go p e below P T := by
  obtain ⟨s₂, o, a, b⟩ := g
  exact ⟨s₂, o, h _ a, b⟩
theorem Go.into {p : Program} {e : Env} {below : List Frame} {P : Outcome → State → Prop} {T : State} {g g' : JFrame} (q : g = g') (h : Go p e below P (T.setTop g')) : ∃ s₂ o, Steps p.tables e below (T.setTop g) s₂ ∧ s₂.status = .running ∧ Ended s₂ below o ∧ P o s₂ := by
  subst q; exact h
abbrev HW (a0 : Array Value) (Z : State) : Prop := ∀ d ∈ tables_1, d.before a0 Z = true
theorem Vi {p : Program} {e : Env} {below : List Frame} {P : Outcome → State → Prop} {T : State} (T' : State) (h : ∀ t, Steps p.tables e below T' t → Steps p.tables e below T t) (g : Go p e below P T') : Go p e below P T := Go.via h g
section Ret
variable {p : Program} {l : Launch} {e : Env} {R : Room} {s : State} {m : MethodId} {args : Array Value} {below : List Frame} {meth : Method} {c : Code} {T : State} {locs : List Loc} {cells slots K N : Nat}
theorem Go.fin (X : Stand p l e R s m args below meth c T locs cells slots) (hlk : meth.locks = false) {v : Option Value} (hv : meth.sig.returnType = none → v = none) {Q : Option Value → Heap → List Loc → Prop} {g : JFrame}
    (st : ∀ fs, (∀ (f : JFrame) (acts : List Action), f.method = m → f.locked = none → f.entered = [] → (doReturn e (T.setTop f) acts v).1 = T.setFrames fs) → Steps p.tables e below (T.setTop g) (T.setFrames fs))
    (hk : cells ≤ K) (hn : slots ≤ N) (hq : Q v T.heap locs) : Go p e below (fun o u => ∃ v L, o = .returned v ∧ Q v u.heap L ∧ FrameEnd s o u L K N) (T.setTop g) := by
  obtain ⟨fs, hr, hrun, hended, hW, hsame⟩ := X.leave (v := v) hv
  exact ⟨_, _, st fs hr, hrun, hended, _, _, rfl, hq, ⟨_, rfl⟩, hW, hsame.mono hk hn⟩
theorem Go.retI (X : Stand p l e R s m args below meth c T locs cells slots) (hx : p.tables.exec = Jvm.exec) (hlk : meth.locks = false) {Q : Option Value → Heap → List Loc → Prop} {pc : Nat} {Ls : Array Slot} {z : Int32} {rest : List Value} (hret : meth.sig.returnType = some .int) (hd : decode c.code pc = .ok (.ireturn, 1))
    (hk : cells ≤ K) (hn : slots ≤ N) (hq : Q (some (.int z)) T.heap locs) : Go p e below (fun o u => ∃ v L, o = .returned v ∧ Q v u.heap L ∧ FrameEnd s o u L K N) (T.setTop (mkF m pc Ls (.int z :: rest))) :=
  Go.fin X hlk (v := some (.int z)) (fun h => by rw [hret] at h; cases h) (fun fs hr => retOut X hx hret rfl (Or.inl ⟨rfl, Or.inl rfl, _, rfl⟩) hd hr) hk hn hq
theorem Go.retN (X : Stand p l e R s m args below meth c T locs cells slots) (hx : p.tables.exec = Jvm.exec) (hlk : meth.locks = false) {Q : Option Value → Heap → List Loc → Prop} {pc : Nat} {Ls : Array Slot} {z : Int32} {rest : List Value} {t : FieldType} (hret : meth.sig.returnType = some t) (ht : t = .boolean ∨ t = .byte ∨ t = .char ∨ t = .short) (hd : decode c.code pc = .ok (.ireturn, 1))
    (hk : cells ≤ K) (hn : slots ≤ N) (hq : Q (some (.int (nar t z))) T.heap locs) : Go p e below (fun o u => ∃ v L, o = .returned v ∧ Q v u.heap L ∧ FrameEnd s o u L K N) (T.setTop (mkF m pc Ls (.int z :: rest))) :=
  Go.fin X hlk (v := some (.int (nar t z))) (fun h => by rw [hret] at h; cases h) (fun fs hr => Jvm.RoadKit.retN X hx hret ht hd hr) hk hn hq
theorem Go.retJ (X : Stand p l e R s m args below meth c T locs cells slots) (hx : p.tables.exec = Jvm.exec) (hlk : meth.locks = false) {Q : Option Value → Heap → List Loc → Prop} {pc : Nat} {Ls : Array Slot} {z : Int64} {rest : List Value} (hret : meth.sig.returnType = some .long) (hd : decode c.code pc = .ok (.lreturn, 1))
    (hk : cells ≤ K) (hn : slots ≤ N) (hq : Q (some (.long z)) T.heap locs) : Go p e below (fun o u => ∃ v L, o = .returned v ∧ Q v u.heap L ∧ FrameEnd s o u L K N) (T.setTop (mkF m pc Ls (.long z :: rest))) :=
  Go.fin X hlk (v := some (.long z)) (fun h => by rw [hret] at h; cases h) (fun fs hr => retOut X hx hret rfl (Or.inr (Or.inl ⟨rfl, rfl, _, rfl⟩)) hd hr) hk hn hq
theorem Go.retR (X : Stand p l e R s m args below meth c T locs cells slots) (hx : p.tables.exec = Jvm.exec) (hlk : meth.locks = false) {Q : Option Value → Heap → List Loc → Prop} {pc : Nat} {Ls : Array Slot} {w : Value} {rest : List Value} {t : FieldType} (hret : meth.sig.returnType = some t) (ht : t.isReference = true) (hw : w.isRef = true) (hd : decode c.code pc = .ok (.areturn, 1))
    (hk : cells ≤ K) (hn : slots ≤ N) (hq : Q (some w) T.heap locs) : Go p e below (fun o u => ∃ v L, o = .returned v ∧ Q v u.heap L ∧ FrameEnd s o u L K N) (T.setTop (mkF m pc Ls (w :: rest))) :=
  Go.fin X hlk (v := some w) (fun h => by rw [hret] at h; cases h) (fun fs hr => retOut X hx hret (by rcases ref_cases hw with rfl | ⟨z, rfl⟩ <;> cases t <;> rfl) (Or.inr (Or.inr (Or.inr (Or.inr ⟨rfl, ht, hw⟩)))) hd hr) hk hn hq
theorem Go.retV (X : Stand p l e R s m args below meth c T locs cells slots) (hx : p.tables.exec = Jvm.exec) (hlk : meth.locks = false) {Q : Option Value → Heap → List Loc → Prop} {pc : Nat} {Ls : Array Slot} (hret : meth.sig.returnType = none) (hd : decode c.code pc = .ok (.return_, 1))
    (hk : cells ≤ K) (hn : slots ≤ N) (hq : Q none T.heap locs) : Go p e below (fun o u => ∃ v L, o = .returned v ∧ Q v u.heap L ∧ FrameEnd s o u L K N) (T.setTop (mkF m pc Ls [])) :=
  Go.fin X hlk (v := none) (fun _ => rfl) (fun fs hr => X.returnOut hx hret hd hr) hk hn hq
theorem Go.retNW {vm₁ : Vm} (X : Stand p l e R (s.setVm vm₁) m args below meth c T locs cells slots) (hx : p.tables.exec = Jvm.exec) {n : Nat} (hS : s.Since vm₁ n) (hnn : n ≤ T.heap.size) (hlk : meth.locks = false) {Q : Option Value → Heap → List Loc → Prop} {pc : Nat} {Ls : Array Slot} {z : Int32} {rest : List Value} {t : FieldType} (hret : meth.sig.returnType = some t) (ht : t = .boolean ∨ t = .byte ∨ t = .char ∨ t = .short) (hd : decode c.code pc = .ok (.ireturn, 1))
    (hk : cells ≤ K) (hn : slots ≤ N) (hq : Q (some (.int (nar t z))) T.heap locs) : Go p e below (fun o u => ∃ v L, o = .returned v ∧ Q v u.heap L ∧ ReturnedEndW s o u L K N) (T.setTop (mkF m pc Ls (.int z :: rest))) := by
  obtain ⟨fs, hr, hrun, hended, h1, h2, h3, h4⟩ := X.leaveW hS hnn (v := some (.int (nar t z))) (fun h => by rw [hret] at h; cases h) hlk
  exact ⟨_, _, Jvm.RoadKit.retN X hx hret ht hd hr, hrun, hended, _, _, rfl, hq, h1, h2, h3, h4.mono hk hn⟩
end Ret
theorem leW {a b : Nat} (h : a = b) : a ≤ b := Nat.le_of_eq h
abbrev sI (x : Int32) : Slot := .val (.int x)
abbrev sR (a : Addr) : Slot := .val (.ref a)
abbrev y1 : MethodName := ⟨"com/example/whittle/whittle/engine/Domains", "<init>", "([I)V"⟩
abbrev B1 := prog_22_method_1_code
abbrev y2 : MethodName := ⟨"java/lang/Object", "<init>", "()V"⟩
abbrev B2 := object_method_1_code
abbrev y3 : MethodName := ⟨"com/example/whittle/whittle/engine/Domains", "reset", "()V"⟩
abbrev B3 := prog_22_method_2_code
abbrev y4 : MethodName := ⟨"java/util/Arrays", "fill", "([JJ)V"⟩
abbrev B4 := jdk_65_method_101_code
abbrev y5 : MethodName := ⟨"com/example/whittle/whittle/engine/Domains", "clearChanged", "()V"⟩
abbrev B5 := prog_22_method_18_code
abbrev y6 : MethodName := ⟨"com/example/whittle/whittle/engine/Domains", "keepWithin", "(III)Z"⟩
abbrev B6 := prog_22_method_12_code
abbrev y7 : MethodName := ⟨"com/example/whittle/whittle/engine/Domains", "next", "(II)I"⟩
abbrev B7 := prog_22_method_6_code
abbrev y8 : MethodName := ⟨"java/lang/Math", "max", "(II)I"⟩
abbrev B8 := jdk_29_method_65_code
abbrev y9 : MethodName := ⟨"com/example/whittle/whittle/engine/Domains", "previous", "(II)I"⟩
abbrev B9 := prog_22_method_8_code
abbrev y10 : MethodName := ⟨"java/lang/Math", "min", "(II)I"⟩
abbrev B10 := jdk_29_method_69_code
abbrev y11 : MethodName := ⟨"com/example/whittle/whittle/engine/Domains", "bound", "(IIII)V"⟩
abbrev B11 := prog_22_method_23_code
abbrev y12 : MethodName := ⟨"com/example/whittle/whittle/engine/Domains", "save", "(IIJ)V"⟩
abbrev B12 := prog_22_method_24_code
abbrev y13 : MethodName := ⟨"com/example/whittle/whittle/engine/Domains", "noteChanged", "(I)V"⟩
abbrev B13 := prog_22_method_19_code
abbrev y14 : MethodName := ⟨"com/example/whittle/whittle/engine/Domains", "remove", "(II)Z"⟩
abbrev B14 := prog_22_method_11_code
abbrev y15 : MethodName := ⟨"com/example/whittle/whittle/engine/Domains", "contains", "(II)Z"⟩
abbrev B15 := prog_22_method_5_code
abbrev y16 : MethodName := ⟨"java/lang/Long", "numberOfLeadingZeros", "(J)I"⟩
abbrev B16 := jdk_35_method_48_code
abbrev y17 : MethodName := ⟨"java/lang/Integer", "numberOfLeadingZeros", "(I)I"⟩
abbrev B17 := jdk_33_method_47_code
abbrev y18 : MethodName := ⟨"java/lang/Long", "numberOfTrailingZeros", "(J)I"⟩
abbrev B18 := jdk_35_method_49_code
abbrev y19 : MethodName := ⟨"java/lang/Integer", "numberOfTrailingZeros", "(I)I"⟩
abbrev B19 := jdk_33_method_48_code
abbrev y20 : MethodName := ⟨"com/example/whittle/whittle/engine/Domains", "countWithin", "(III)I"⟩
abbrev B20 := prog_22_method_20_code
theorem wq {a0 : Array Value} {Z : State} (hw : HW a0 Z) (i : Nat) {d : Jvm.Cond} (h : tables_1[i]? = some d) : d.before a0 Z = true := hw d (List.mem_of_getElem? h)
theorem wz {args a0 : Array Value} {Z s : State} {d : Cond} (hZ : Z.Warmed39 s.vm) (hw : HW a0 Z) (i : Nat) (h : tables_1[i]? = some d) (hd : (d.onTables && d.keepsFace) = true := by first | rfl | simp [Cond.onTables, Cond.keepsFace, Cond.keeps, Cond.steady]) : d.before args s = true := mvT hZ (wq hw i h) hd
theorem own_eqi {t : Term} {n : Int32} {args : Array Value} {s : State} (h : (Cond.eq t (.int n)).value args s none s [] = some true) : t.eval args s none [] s = some (.int n) := by
  obtain ⟨x, y, h1, h2, k, -⟩ := cmp_v (Or.inl h)
  cases (show some y = some (Value.int n) from h2.symm)
  cases x with
  | int z => rw [h1]; congr 2; have q := h; simp [Cond.value, h1, Term.eval] at q; exact q
  | _ => simp [Kin, Value.isRef] at k
theorem own_ns1 {h : Heap} {a : Addr} {ws : List Addr} (q : ∀ cell : Cell, h[a]? = some cell → cell.vm.isStatics = false) (r : ∀ (x : Addr) (c : Cell), h[x]? = some c → c.vm.isStatics = true → x ∉ ws) : ∀ (x : Addr) (c : Cell), h[x]? = some c → c.vm.isStatics = true → x ∉ a :: ws := fun x c hx hc => ninS (fun e => by subst e; rw [q c hx] at hc; cases hc) (r x c hx hc)
theorem own_sk {Z : State} {h h' : Heap} {C n d : String} {v : Value} {ws : List Addr} (F : Sta Z h C n d v) (K : Keep h h' ws) (q : ∀ (x : Addr) (c : Cell), h[x]? = some c → c.vm.isStatics = true → x ∉ ws) : Sta Z h' C n d v := by
  obtain ⟨cf, i, k, f, st, cell, h1, h2, h3, h4, h5, h6, h7⟩ := F
  exact ⟨cf, i, k, f, st, cell, h1, h2, h3, h4, K.2.1 _ _ h5 (q _ _ h5 h6), h6, h7⟩

/-- an array of n places; place k holds g k -/
def AV (Z : State) (h : Heap) (a : Addr) (ty : FieldType) (n : Nat) (g : Nat → Value) : Prop := n < 2 ^ 31 ∧ ∃ c : Cell, Arr Z h a c ty ∧ c.slots.size = n ∧ ∀ k, k < n → c.slots[k]? = some (g k)
def up {α : Type} (f : Nat → α) (i : Nat) (v : α) : Nat → α := fun k => if k = i then v else f k
section AVs
variable {p : Program} {l : Launch} {e : Env} {R : Room} {s : State} {m : MethodId} {args : Array Value} {below : List Frame} {meth : Method} {c : Code} {T : State} {locs : List Loc} {cells slots : Nat}
variable {Z : State} {h h' : Heap} {a b : Addr} {ty : FieldType} {n : Nat} {g g' : Nat → Value} {sl : Nat} {v : Value} {ws : List Addr} {j : Int32}
theorem AV.lt (F : AV Z h a ty n g) : a < h.size := by obtain ⟨_, c, A, -⟩ := F; exact A.lt
theorem AV.ext (F : AV Z h a ty n g) (E : Ext h h') : AV Z h' a ty n g := by obtain ⟨q, c, A, r⟩ := F; exact ⟨q, c, A.ext E, r⟩
theorem AV.other (F : AV Z h b ty n g) (W : Wr h h' a sl v) (q : b ≠ a) : AV Z h' b ty n g := by obtain ⟨q', c, A, r⟩ := F; exact ⟨q', c, A.other W q, r⟩
theorem AV.keep (F : AV Z h a ty n g) (K : Keep h h' ws) (q : a ∉ ws) : AV Z h' a ty n g := by obtain ⟨q', c, A, r⟩ := F; exact ⟨q', c, ⟨K.2.1 a c A.1 q, A.2⟩, r⟩
theorem AV.congr (F : AV Z h a ty n g) (q : ∀ k, k < n → g k = g' k) : AV Z h a ty n g' := by obtain ⟨q', c, A, r1, r2⟩ := F; exact ⟨q', c, A, r1, fun k hk => by rw [← q k hk]; exact r2 k hk⟩
theorem AV.set (F : AV Z h a ty n g) (W : Wr h h' a sl v) : AV Z h' a ty n (up g sl v) := by
  obtain ⟨q', c, A, r1, r2⟩ := F
  refine ⟨q', _, A.same W, by rw [sz_set]; exact r1, fun k hk => ?_⟩
  by_cases u : k = sl
  · subst u; simp [Cell.setSlot, up, r1, hk]
  · simp only [Cell.setSlot, up, if_neg u]; rw [Array.getElem?_setIfInBounds_ne (Ne.symm u)]; exact r2 k hk
theorem AV.new {k : ClassId} {z : Int32} (A : Arr Z h a (newA k ty z) ty) : AV Z h a ty z.toNatClampNeg (fun _ => defaultValue ty) := by
  refine ⟨by have := Int32.toInt_lt z; simp only [Int32.toNatClampNeg]; omega, _, A, sz_new _ _ _, fun i hi => by simp [newA, hi]⟩
theorem AV.inb {cl : Cell} (hs : cl.slots.size = n) (hj : ¬ j < 0 ∧ j.toNatClampNeg < n) : ¬ (j < 0 ∨ cl.slots.size ≤ j.toNatClampNeg) := fun q => q.elim hj.1 fun q => by rw [hs] at q; exact absurd hj.2 (Nat.not_lt.mpr q)
theorem AV.len (F : AV Z h a ty n g) (X : Stand p l e R s m args below meth c T locs cells slots) (hx : p.tables.exec = Jvm.exec) (hZ : Z.Warmed39 s.vm) (eT : T.heap = h) {pc : Nat} {Ls : Array Slot} {rest : List Value} (hd : decode c.code pc = .ok (.arraylength, 1)) {t : State}
    (k : Steps p.tables e below (T.setTop (mkF m (pc + 1) Ls (.int (Int32.ofNat n) :: rest))) t) : Steps p.tables e below (T.setTop (mkF m pc Ls (.ref a :: rest))) t := by
  obtain ⟨q', cl, A, r1, r2⟩ := F
  subst r1
  exact X.arraylength hx (by rw [eT]; exact A.1) (State.isArrayOf_alike hZ.alike A.2.1) (g := mkF m pc Ls (.ref a :: rest)) rfl rfl hd _ k
theorem AV.iaload {f : Nat → Int32} (F : AV Z h a .int n (fun k => .int (f k))) (X : Stand p l e R s m args below meth c T locs cells slots) (hx : p.tables.exec = Jvm.exec) (hZ : Z.Warmed39 s.vm) (eT : T.heap = h) (hj : ¬ j < 0 ∧ j.toNatClampNeg < n) {pc : Nat} {Ls : Array Slot} {rest : List Value} (hd : decode c.code pc = .ok (.iaload, 1)) {t : State}
    (k : Steps p.tables e below (T.setTop (mkF m (pc + 1) Ls (.int (f j.toNatClampNeg) :: rest))) t) : Steps p.tables e below (T.setTop (mkF m pc Ls (.int j :: .ref a :: rest))) t := by
  obtain ⟨q', cl, A, r1, r2⟩ := F
  exact X.iaload hx (j := j) (v := .int (f j.toNatClampNeg)) (by rw [eT]; exact A.1) (State.isArrayOf_alike hZ.alike A.2.1) A.2.2 (AV.inb r1 hj) (r2 _ hj.2) (g := mkF m pc Ls (.int j :: .ref a :: rest)) rfl rfl hd _ k
theorem AV.laload {f : Nat → Int64} (F : AV Z h a .long n (fun k => .long (f k))) (X : Stand p l e R s m args below meth c T locs cells slots) (hx : p.tables.exec = Jvm.exec) (hZ : Z.Warmed39 s.vm) (eT : T.heap = h) (hj : ¬ j < 0 ∧ j.toNatClampNeg < n) {pc : Nat} {Ls : Array Slot} {rest : List Value} (hd : decode c.code pc = .ok (.laload, 1)) {t : State}
    (k : Steps p.tables e below (T.setTop (mkF m (pc + 1) Ls (.long (f j.toNatClampNeg) :: rest))) t) : Steps p.tables e below (T.setTop (mkF m pc Ls (.int j :: .ref a :: rest))) t := by
  obtain ⟨q', cl, A, r1, r2⟩ := F
  exact X.laload hx (j := j) (v := .long (f j.toNatClampNeg)) (by rw [eT]; exact A.1) (State.isArrayOf_alike hZ.alike A.2.1) A.2.2 (AV.inb r1 hj) (r2 _ hj.2) (g := mkF m pc Ls (.int j :: .ref a :: rest)) rfl rfl hd _ k
theorem AV.aaload (F : AV Z h a ty n g) (hty : ty.isReference = true) (X : Stand p l e R s m args below meth c T locs cells slots) (hx : p.tables.exec = Jvm.exec) (hZ : Z.Warmed39 s.vm) (eT : T.heap = h) (hj : ¬ j < 0 ∧ j.toNatClampNeg < n) {pc : Nat} {Ls : Array Slot} {rest : List Value} (hd : decode c.code pc = .ok (.aaload, 1)) {t : State}
    (k : Steps p.tables e below (T.setTop (mkF m (pc + 1) Ls (g j.toNatClampNeg :: rest))) t) : Steps p.tables e below (T.setTop (mkF m pc Ls (.int j :: .ref a :: rest))) t := by
  obtain ⟨q', cl, A, r1, r2⟩ := F
  exact X.aaload hx (j := j) (v := g j.toNatClampNeg) (by rw [eT]; exact A.1) (State.isArrayOf_alike hZ.alike A.2.1) hty A.2.2 (AV.inb r1 hj) (r2 _ hj.2) (g := mkF m pc Ls (.int j :: .ref a :: rest)) rfl rfl hd _ k
theorem AV.iastore {f : Nat → Int32} {x : Int32} (F : AV Z h a .int n (fun k => .int (f k))) (X : Stand p l e R s m args below meth c T locs cells slots) (hx : p.tables.exec = Jvm.exec) (hZ : Z.Warmed39 s.vm) (eT : T.heap = h) (hj : ¬ j < 0 ∧ j.toNatClampNeg < n) {pc : Nat} {Ls : Array Slot} {rest : List Value} (hd : decode c.code pc = .ok (.iastore, 1)) :
    ∃ T' h', Stand p l e R s m args below meth c T' (locs ++ [⟨a, j.toNatClampNeg⟩]) cells slots ∧ T'.heap = h' ∧ Wr h h' a j.toNatClampNeg (.int x) ∧ AV Z h' a .int n (fun k => .int (up f j.toNatClampNeg x k)) ∧
      ∀ t, Steps p.tables e below (T'.setTop (mkF m (pc + 1) Ls rest)) t → Steps p.tables e below (T.setTop (mkF m pc Ls (.int x :: .int j :: .ref a :: rest))) t := by
  have F0 := F
  obtain ⟨q', cl, A, r1, r2⟩ := F
  obtain ⟨T', h', X', e', W, st⟩ := stI X hx hZ eT A (j := j) (AV.inb r1 hj) (g := mkF m pc Ls (.int x :: .int j :: .ref a :: rest)) rfl rfl hd
  exact ⟨T', h', X', e', W, (F0.set W).congr (fun k _ => by unfold up; split <;> rfl), st⟩
theorem AV.lastore {f : Nat → Int64} {x : Int64} (F : AV Z h a .long n (fun k => .long (f k))) (X : Stand p l e R s m args below meth c T locs cells slots) (hx : p.tables.exec = Jvm.exec) (hZ : Z.Warmed39 s.vm) (eT : T.heap = h) (hj : ¬ j < 0 ∧ j.toNatClampNeg < n) {pc : Nat} {Ls : Array Slot} {rest : List Value} (hd : decode c.code pc = .ok (.lastore, 1)) :
    ∃ T' h', Stand p l e R s m args below meth c T' (locs ++ [⟨a, j.toNatClampNeg⟩]) cells slots ∧ T'.heap = h' ∧ Wr h h' a j.toNatClampNeg (.long x) ∧ AV Z h' a .long n (fun k => .long (up f j.toNatClampNeg x k)) ∧
      ∀ t, Steps p.tables e below (T'.setTop (mkF m (pc + 1) Ls rest)) t → Steps p.tables e below (T.setTop (mkF m pc Ls (.long x :: .int j :: .ref a :: rest))) t := by
  have F0 := F
  obtain ⟨q', cl, A, r1, r2⟩ := F
  obtain ⟨T', h', X', e', W, st⟩ := stJ X hx hZ eT A (j := j) (AV.inb r1 hj) (g := mkF m pc Ls (.long x :: .int j :: .ref a :: rest)) rfl rfl hd
  exact ⟨T', h', X', e', W, (F0.set W).congr (fun k _ => by unfold up; split <;> rfl), st⟩
theorem AV.bastoreZ {f : Nat → Int32} {x : Int32} (F : AV Z h a .boolean n (fun k => .int (f k))) (X : Stand p l e R s m args below meth c T locs cells slots) (hx : p.tables.exec = Jvm.exec) (hZ : Z.Warmed39 s.vm) (eT : T.heap = h) (hj : ¬ j < 0 ∧ j.toNatClampNeg < n) {pc : Nat} {Ls : Array Slot} {rest : List Value} (hd : decode c.code pc = .ok (.bastore, 1)) :
    ∃ T' h', Stand p l e R s m args below meth c T' (locs ++ [⟨a, j.toNatClampNeg⟩]) cells slots ∧ T'.heap = h' ∧ Wr h h' a j.toNatClampNeg (.int (nar .boolean x)) ∧ AV Z h' a .boolean n (fun k => .int (up f j.toNatClampNeg (nar .boolean x) k)) ∧
      ∀ t, Steps p.tables e below (T'.setTop (mkF m (pc + 1) Ls rest)) t → Steps p.tables e below (T.setTop (mkF m pc Ls (.int x :: .int j :: .ref a :: rest))) t := by
  have F0 := F
  obtain ⟨q', cl, A, r1, r2⟩ := F
  obtain ⟨T', h', X', e', W, st⟩ := stZ X hx hZ eT A (j := j) (AV.inb r1 hj) (g := mkF m pc Ls (.int x :: .int j :: .ref a :: rest)) rfl rfl hd
  exact ⟨T', h', X', e', W, (F0.set W).congr (fun k _ => by unfold up; split <;> rfl), st⟩
theorem AV.aastore (F : AV Z h a ty n g) (hty : ty.isReference = true) (S : Sto Z h a v) (X : Stand p l e R s m args below meth c T locs cells slots) (hx : p.tables.exec = Jvm.exec) (hZ : Z.Warmed39 s.vm) (eT : T.heap = h) (hj : ¬ j < 0 ∧ j.toNatClampNeg < n) {pc : Nat} {Ls : Array Slot} {rest : List Value} (hd : decode c.code pc = .ok (.aastore, 1)) :
    ∃ T' h', Stand p l e R s m args below meth c T' (locs ++ [⟨a, j.toNatClampNeg⟩]) cells slots ∧ T'.heap = h' ∧ Wr h h' a j.toNatClampNeg v ∧ AV Z h' a ty n (up g j.toNatClampNeg v) ∧
      ∀ t, Steps p.tables e below (T'.setTop (mkF m (pc + 1) Ls rest)) t → Steps p.tables e below (T.setTop (mkF m pc Ls (v :: .int j :: .ref a :: rest))) t := by
  have F0 := F
  obtain ⟨q', cl, A, r1, r2⟩ := F
  obtain ⟨T', h', X', e', W, st⟩ := stR X hx hZ eT A (j := j) (AV.inb r1 hj) hty S (g := mkF m pc Ls (v :: .int j :: .ref a :: rest)) rfl rfl hd
  exact ⟨T', h', X', e', W, F0.set W, st⟩
end AVs
/-- what may lie in an array of arrays -/
def OV (Z : State) (h : Heap) (a : Addr) (ty : FieldType) (C : String) : Prop := ∃ cl : Cell, h[a]? = some cl ∧ OvrA Z cl.cls ty C
section OVs
variable {Z : State} {h h' : Heap} {a b : Addr} {ty t0 : FieldType} {C : String} {n : Nat} {g : Nat → Value} {sl : Nat} {v : Value} {ws : List Addr}
theorem OV.ext (F : OV Z h a ty C) (E : Ext h h') : OV Z h' a ty C := by obtain ⟨cl, q, O⟩ := F; exact ⟨cl, E.2 _ _ q, O⟩
theorem OV.wr (F : OV Z h a ty C) (W : Wr h h' b sl v) : OV Z h' a ty C := by
  obtain ⟨cl, q, O⟩ := F; obtain ⟨c', e1, e2, -⟩ := wr_at W q; exact ⟨c', e1, by rw [e2]; exact O⟩
theorem OV.keep (F : OV Z h a ty C) (K : Keep h h' ws) : OV Z h' a ty C := by
  obtain ⟨cl, q, O⟩ := F; obtain ⟨c', e1, e2, -⟩ := K.2.2 _ _ q; exact ⟨c', e1, by rw [e2]; exact O⟩
theorem OV.sto (F : OV Z h a ty C) (A : AV Z h a t0 n g) (I : Ins Z h b C true) : Sto Z h a (.ref b) := by
  obtain ⟨cl, q, O⟩ := F; obtain ⟨-, c, A', -⟩ := A; cases q.symm.trans A'.1; exact Sto.ofVA A' rfl O I
end OVs
section AVc
variable {p : Program} {l : Launch} {e : Env} {R : Room} {s : State} {m : MethodId} {args : Array Value} {below : List Frame} {meth : Method} {c : Code} {T : State} {locs : List Loc} {cells slots : Nat}
variable {Z : State} {h : Heap} {a : Addr} {ty : FieldType} {n : Nat} {g0 : Nat → Value} {a0 : Array Value}
theorem AV.clone (F : AV Z h a ty n g0) (ht : ∀ k, k < n → fits ty (g0 k) = true) (X : Stand p l e R s m args below meth c T locs cells slots) (hx : p.tables.exec = Jvm.exec) (hZ : Z.Warmed39 s.vm) {own ad : String} {index : Nat} (hown : s.vm.findClass own = some m.cls)
    (w1 : (Cond.methodLink own index ⟨ad, "clone", "()Ljava/lang/Object;"⟩).before a0 Z = true) (w2 : (Cond.sameMethod ad "java/lang/Object" "clone" "()Ljava/lang/Object;").before a0 Z = true) (w3 : (Cond.native ⟨"java/lang/Object", "clone", "()Ljava/lang/Object;"⟩).before a0 Z = true)
    (w4 : (Cond.instanceMethod ⟨"java/lang/Object", "clone", "()Ljava/lang/Object;"⟩).before a0 Z = true) (w5 : (Cond.selects ad ⟨ad, "clone", "()Ljava/lang/Object;"⟩ ⟨"java/lang/Object", "clone", "()Ljava/lang/Object;"⟩).before a0 Z = true) (w6 : (Cond.castable ad "java/lang/Cloneable").before a0 Z = true)
    (eT : T.heap = h) (E : Exa Z h a ad) {g : JFrame} (hg : g.method = m) (hsize : g.locals.size = c.maxLocals) {rest : List Value} (hst : g.stack = .ref a :: rest) (hd : decode c.code g.pc = .ok (.invokevirtual index, 3))
    (hf : 1 ≤ R.frames) {W cap : Nat} (hW : 2 * g.monitorRoom + (rest.map fun v => v.category).sum ≤ W) (hl : W + 14 ≤ R.locals) (hcap : n ≤ cap) (hc : cells + 1 ≤ R.cells) (hsl : slots + cap ≤ R.slots) :
    ∃ T' h', Stand p l e R s m args below meth c T' locs (cells + 1) (slots + cap) ∧ T'.heap = h' ∧ Ext h h' ∧ AV Z h' h.size ty n g0 ∧ Exa Z h' h.size ad ∧
      ∀ target, Steps p.tables e below (T'.setTop { g with pc := g.pc + 3, stack := .ref h.size :: rest }) target → Steps p.tables e below (T.setTop g) target := by
  obtain ⟨q0, cl, A, S, H⟩ := F
  have FC : FitC Z cl := fitC_of A fun i hi v hv => by
    rw [S] at hi; rw [H i hi] at hv; cases hv; exact ht i hi
  obtain ⟨T', h', X', e', ex, A', E', st⟩ := cloneA X hx hZ hown w1 w2 w3 w4 w5 w6 eT A E FC hg hsize hst hd hf hW hl (by rw [S]; exact hcap) hc hsl
  exact ⟨T', h', X', e', ex, ⟨q0, cloneOf cl, A', S, H⟩, E', st⟩
end AVc

/-- a private method of a class that can be made is chosen for itself -/
theorem own_selp {Z : State} {a0 : Array Value} {y : MethodName} {n : Nat} (w1 : (Cond.instanceMethod y).before a0 Z = true) (w2 : (Cond.privateMethod y).before a0 Z = true) (w3 : (Cond.instantiable y.cls n).before a0 Z = true) (hy : y.cls ≠ "java/lang/invoke/MethodHandle" ∧ y.cls ≠ "java/lang/invoke/VarHandle") : (Cond.selects y.cls y y).before a0 Z = true := by
  obtain ⟨mk, methM, hn, hm, -, -⟩ := Cond.instanceMethod_spec w1
  obtain ⟨t, kt, g1, g2, g3, g4, -⟩ := Cond.instantiable_spec w3
  have hf := findClass_of_methodNamed hn
  cases hf.symm.trans g1
  have g5 : kt.isInterface = false := by cases q : kt.isInterface <;> simp [q] at g4 ⊢
  have hs : selectMethod {} Z.vm mk.cls mk = .method mk := selectMethod_private hm (Cond.privateMethod_at w2 mk methM hn hm)
  simp [Cond.before, Cond.holds, Cond.value, hf, State.methodFound?_of_named hn hy, hn, hs, g2, g5]

section AVz
variable {p : Program} {l : Launch} {e : Env} {R : Room} {s : State} {m : MethodId} {args : Array Value} {below : List Frame} {meth : Method} {c : Code} {T : State} {locs : List Loc} {cells slots : Nat}
variable {Z : State} {h : Heap} {a : Addr} {n : Nat} {j : Int32}
theorem AV.baload {f : Nat → Int32} (F : AV Z h a .boolean n (fun k => .int (f k))) (X : Stand p l e R s m args below meth c T locs cells slots) (hx : p.tables.exec = Jvm.exec) (hZ : Z.Warmed39 s.vm) (eT : T.heap = h) (hj : ¬ j < 0 ∧ j.toNatClampNeg < n) {pc : Nat} {Ls : Array Slot} {rest : List Value} (hd : decode c.code pc = .ok (.baload, 1)) {t : State}
    (k : Steps p.tables e below (T.setTop (mkF m (pc + 1) Ls (.int (f j.toNatClampNeg) :: rest))) t) : Steps p.tables e below (T.setTop (mkF m pc Ls (.int j :: .ref a :: rest))) t := by
  obtain ⟨q', cl, A, r1, r2⟩ := F
  exact X.baloadBooleans hx (j := j) (v := .int (f j.toNatClampNeg)) (by rw [eT]; exact A.1) (State.isArrayOf_alike hZ.alike A.2.1) A.2.2 (AV.inb r1 hj) (r2 _ hj.2) (g := mkF m pc Ls (.int j :: .ref a :: rest)) rfl rfl hd _ k
end AVz

theorem d19_0 : decode B19 0 = .ok (.iload_n 0, 1) := by decide +kernel
theorem d19_1 : decode B19 1 = .ok (.iconst (-1), 1) := by decide +kernel
theorem d19_2 : decode B19 2 = .ok (.ixor, 1) := by decide +kernel
theorem d19_3 : decode B19 3 = .ok (.iload_n 0, 1) := by decide +kernel
theorem d19_4 : decode B19 4 = .ok (.iconst 1, 1) := by decide +kernel
theorem d19_5 : decode B19 5 = .ok (.isub, 1) := by decide +kernel
theorem d19_6 : decode B19 6 = .ok (.iand, 1) := by decide +kernel
theorem d19_7 : decode B19 7 = .ok (.istore_n 0, 1) := by decide +kernel
theorem d19_8 : decode B19 8 = .ok (.iload_n 0, 1) := by decide +kernel
theorem d19_9 : decode B19 9 = .ok (.ifCond .gt 8, 3) := by decide +kernel
theorem d19_17 : decode B19 17 = .ok (.iconst 1, 1) := by decide +kernel
theorem d19_18 : decode B19 18 = .ok (.istore_n 1, 1) := by decide +kernel
theorem d19_19 : decode B19 19 = .ok (.iload_n 0, 1) := by decide +kernel
theorem d19_20 : decode B19 20 = .ok (.ldc_w 264, 3) := by decide +kernel
theorem d19_23 : decode B19 23 = .ok (.if_icmp .le 11, 3) := by decide +kernel
theorem d19_26 : decode B19 26 = .ok (.iinc 1 16, 3) := by decide +kernel
theorem d19_29 : decode B19 29 = .ok (.iload_n 0, 1) := by decide +kernel
theorem d19_30 : decode B19 30 = .ok (.bipush 16, 2) := by decide +kernel
theorem d19_32 : decode B19 32 = .ok (.iushr, 1) := by decide +kernel
def w19_0 (p0 : Int32) : Int32 := ((((p0 ^^^ (-1 : Int32)) &&& (p0 - (1 : Int32))).toUInt32 >>> ((16 : Int32) &&& 31).toUInt32).toInt32)
theorem d19_33 : decode B19 33 = .ok (.istore_n 0, 1) := by decide +kernel
def w19_1 (p0 : Int32) : Int32 := (if (65536 : Int32) < ((p0 ^^^ (-1 : Int32)) &&& (p0 - (1 : Int32))) then (w19_0 p0) else ((p0 ^^^ (-1 : Int32)) &&& (p0 - (1 : Int32))))
def w19_2 (p0 : Int32) : Int32 := (if (65536 : Int32) < ((p0 ^^^ (-1 : Int32)) &&& (p0 - (1 : Int32))) then (17 : Int32) else (1 : Int32))
theorem d19_34 : decode B19 34 = .ok (.iload_n 0, 1) := by decide +kernel
theorem d19_35 : decode B19 35 = .ok (.sipush 256, 3) := by decide +kernel
theorem d19_38 : decode B19 38 = .ok (.if_icmp .le 11, 3) := by decide +kernel
theorem d19_41 : decode B19 41 = .ok (.iinc 1 8, 3) := by decide +kernel
theorem d19_44 : decode B19 44 = .ok (.iload_n 0, 1) := by decide +kernel
theorem d19_45 : decode B19 45 = .ok (.bipush 8, 2) := by decide +kernel
theorem d19_47 : decode B19 47 = .ok (.iushr, 1) := by decide +kernel
theorem d19_48 : decode B19 48 = .ok (.istore_n 0, 1) := by decide +kernel
def w19_3 (p0 : Int32) : Int32 := (if (256 : Int32) < (w19_1 p0) then (((w19_1 p0).toUInt32 >>> ((8 : Int32) &&& 31).toUInt32).toInt32) else (w19_1 p0))
def w19_4 (p0 : Int32) : Int32 := (if (256 : Int32) < (w19_1 p0) then ((w19_2 p0) + (8 : Int32)) else (w19_2 p0))
theorem d19_49 : decode B19 49 = .ok (.iload_n 0, 1) := by decide +kernel
theorem d19_50 : decode B19 50 = .ok (.bipush 16, 2) := by decide +kernel
theorem d19_52 : decode B19 52 = .ok (.if_icmp .le 10, 3) := by decide +kernel
theorem d19_55 : decode B19 55 = .ok (.iinc 1 4, 3) := by decide +kernel
theorem d19_58 : decode B19 58 = .ok (.iload_n 0, 1) := by decide +kernel
theorem d19_59 : decode B19 59 = .ok (.iconst 4, 1) := by decide +kernel
theorem d19_60 : decode B19 60 = .ok (.iushr, 1) := by decide +kernel
theorem d19_61 : decode B19 61 = .ok (.istore_n 0, 1) := by decide +kernel
def w19_5 (p0 : Int32) : Int32 := (if (16 : Int32) < (w19_3 p0) then (((w19_3 p0).toUInt32 >>> ((4 : Int32) &&& 31).toUInt32).toInt32) else (w19_3 p0))
def w19_6 (p0 : Int32) : Int32 := (if (16 : Int32) < (w19_3 p0) then ((w19_4 p0) + (4 : Int32)) else (w19_4 p0))
theorem d19_62 : decode B19 62 = .ok (.iload_n 0, 1) := by decide +kernel
theorem d19_63 : decode B19 63 = .ok (.iconst 4, 1) := by decide +kernel
theorem d19_64 : decode B19 64 = .ok (.if_icmp .le 10, 3) := by decide +kernel
theorem d19_67 : decode B19 67 = .ok (.iinc 1 2, 3) := by decide +kernel
theorem d19_70 : decode B19 70 = .ok (.iload_n 0, 1) := by decide +kernel
theorem d19_71 : decode B19 71 = .ok (.iconst 2, 1) := by decide +kernel
theorem d19_72 : decode B19 72 = .ok (.iushr, 1) := by decide +kernel
theorem d19_73 : decode B19 73 = .ok (.istore_n 0, 1) := by decide +kernel
def w19_7 (p0 : Int32) : Int32 := (if (4 : Int32) < (w19_5 p0) then (((w19_5 p0).toUInt32 >>> ((2 : Int32) &&& 31).toUInt32).toInt32) else (w19_5 p0))
def w19_8 (p0 : Int32) : Int32 := (if (4 : Int32) < (w19_5 p0) then ((w19_6 p0) + (2 : Int32)) else (w19_6 p0))
theorem d19_74 : decode B19 74 = .ok (.iload_n 1, 1) := by decide +kernel
theorem d19_75 : decode B19 75 = .ok (.iload_n 0, 1) := by decide +kernel
theorem d19_76 : decode B19 76 = .ok (.iconst 1, 1) := by decide +kernel
theorem d19_77 : decode B19 77 = .ok (.iushr, 1) := by decide +kernel
theorem d19_78 : decode B19 78 = .ok (.iadd, 1) := by decide +kernel
theorem d19_79 : decode B19 79 = .ok (.ireturn, 1) := by decide +kernel
theorem d19_12 : decode B19 12 = .ok (.iload_n 0, 1) := by decide +kernel
theorem d19_13 : decode B19 13 = .ok (.bipush 32, 2) := by decide +kernel
theorem d19_15 : decode B19 15 = .ok (.iand, 1) := by decide +kernel
theorem d19_16 : decode B19 16 = .ok (.ireturn, 1) := by decide +kernel
def f19 (p0 : Int32) : Int32 := (if (0 : Int32) < ((p0 ^^^ (-1 : Int32)) &&& (p0 - (1 : Int32))) then ((w19_8 p0) + (((w19_7 p0).toUInt32 >>> ((1 : Int32) &&& 31).toUInt32).toInt32)) else (((p0 ^^^ (-1 : Int32)) &&& (p0 - (1 : Int32))) &&& (32 : Int32)))
def Q19 (p0 : Int32) (h0 : Heap) (n0 : Nat) (v : Option Value) (h : Heap) (L : List Loc) : Prop := v = some (.int (f19 p0)) ∧ Fr n0 L ∧ h = h0
abbrev RM_0_0_0_0 : Room := { frames := 0, cells := 0, slots := 0, locals := 0 }
theorem pn_0 : plainName "java/lang/Integer" = true := by first | (simp [plainName, overriddenIn]; done) | decide +kernel
theorem ef_19_a (m : MethodId) (x0 : Int32) : entryFrame m #[(.int x0)] 2 = mkF m 0 #[.val (.int x0), .unset] [] := by first | (simp [entryFrame, mkF, argsToLocals, Value.category]; done) | rfl
theorem rm19 (l : Launch) (Z : State) (a0 : Array Value) (hw : HW a0 Z) (ws : List Jvm.Cond) (p0 : Int32) (h0 : Heap) (n0 : Nat) (Z0 : n0 ≤ h0.size) :
    MetFree l y19 (head1 (Jvm.Cond.code y19 jdk_33_method_48_code 2 (some .int) :: ws) RM_0_0_0_0) (fun a U => a = #[(.int p0)] ∧ Z.Warmed39 U.vm ∧ U.heap = h0) (fun _ _ _ _ _ => True) (fun _ U o U' => ∃ v L, o = .returned v ∧ Q19 p0 h0 n0 v U'.heap L ∧ FrameEnd U o U' L RM_0_0_0_0.cells RM_0_0_0_0.slots) := by
  refine MetFree.of_bodySF (plainFor_of_name pn_0) hisR ?_
  intro p e s m args below meth c s₁ Bd hml0 hP hK
  obtain ⟨rfl, hZ, hh⟩ := hP
  have hx := Bd.exec
  have hby := Bd.bytes
  have hml : c.maxLocals = 2 := hml0
  have hown : s.vm.findClass "java/lang/Integer" = some m.cls := findClass_of_methodNamed Bd.named
  have X0 : Stand p l e RM_0_0_0_0 s m _ below meth c s₁ [] 0 0 := Stand.of_body Bd
  have e0 : s₁.heap = h0 := by rw [← hh, Bd.state]; rfl
  have N0 := Fr.nil n0
  refine Go.into (P := fun oo uu => ∃ v L, oo = .returned v ∧ Q19 p0 h0 n0 v uu.heap L ∧ FrameEnd s oo uu L RM_0_0_0_0.cells RM_0_0_0_0.slots) (ef_19_a m p0) ?_
  show Go p e below _ (s₁.setTop (mkF m 0 #[sI p0, .unset] []))
  refine Vi (s₁.setTop (mkF m 9 #[sI ((p0 ^^^ (-1 : Int32)) &&& (p0 - (1 : Int32))), .unset] [(.int ((p0 ^^^ (-1 : Int32)) &&& (p0 - (1 : Int32))))])) (fun tZ kZ => ?_) ?_
  · refine XS.iloadN X0.here hx rfl (hb hby d19_0) rfl ?_
    refine XS.iconst X0.here hx rfl (hb hby d19_1) ?_
    refine XS.ixor X0.here hx rfl (hb hby d19_2) rfl ?_
    refine XS.iloadN X0.here hx rfl (hb hby d19_3) rfl ?_
    refine XS.iconst X0.here hx rfl (hb hby d19_4) ?_
    refine XS.isub X0.here hx rfl (hb hby d19_5) rfl ?_
    refine XS.iand X0.here hx rfl (hb hby d19_6) rfl ?_
    refine XS.istoreN X0.here hx rfl (hb hby d19_7) rfl (l' := #[sI ((p0 ^^^ (-1 : Int32)) &&& (p0 - (1 : Int32))), .unset]) rfl ?_
    refine XS.iloadN X0.here hx rfl (hb hby d19_8) rfl ?_
    exact kZ
  by_cases hc9 : (0 : Int32) < ((p0 ^^^ (-1 : Int32)) &&& (p0 - (1 : Int32)))
  · refine Vi (s₁.setTop (mkF m 17 #[sI ((p0 ^^^ (-1 : Int32)) &&& (p0 - (1 : Int32))), .unset] [])) (fun tZ kZ => ?_) ?_
    · show Steps p.tables e below (s₁.setTop (mkF m 9 #[sI ((p0 ^^^ (-1 : Int32)) &&& (p0 - (1 : Int32))), .unset] [(.int ((p0 ^^^ (-1 : Int32)) &&& (p0 - (1 : Int32))))])) _
      refine XS.ifYes X0.here hx rfl (pc0 := 9) (pc' := 17) rfl (hb hby d19_9) rfl ((if0 _ _).trans (tlt hc9).2.2.1) (by decide) (by decide) ?_
      exact kZ
    refine Vi (s₁.setTop (mkF m 79 #[sI (w19_7 p0), sI (w19_8 p0)] [(.int ((w19_8 p0) + (((w19_7 p0).toUInt32 >>> ((1 : Int32) &&& 31).toUInt32).toInt32)))])) (fun tZ kZ => ?_) ?_
    · refine XS.iconst X0.here hx rfl (hb hby d19_17) ?_
      refine XS.istoreN X0.here hx rfl (hb hby d19_18) rfl (l' := #[sI ((p0 ^^^ (-1 : Int32)) &&& (p0 - (1 : Int32))), sI 1]) rfl ?_
      refine XS.iloadN X0.here hx rfl (hb hby d19_19) rfl ?_
      refine X0.ldcwInt hx hown (wz hZ hw 121 rfl) (g := (mkF m 20 #[sI ((p0 ^^^ (-1 : Int32)) &&& (p0 - (1 : Int32))), sI 1] [(.int ((p0 ^^^ (-1 : Int32)) &&& (p0 - (1 : Int32))))])) rfl (hb hby d19_20) _ ?_
      have sg23 : Steps p.tables e below (s₁.setTop (mkF m 34 #[sI (if (65536 : Int32) < ((p0 ^^^ (-1 : Int32)) &&& (p0 - (1 : Int32))) then (w19_0 p0) else ((p0 ^^^ (-1 : Int32)) &&& (p0 - (1 : Int32)))), sI (if (65536 : Int32) < ((p0 ^^^ (-1 : Int32)) &&& (p0 - (1 : Int32))) then (17 : Int32) else (1 : Int32))] [])) tZ → Steps p.tables e below (s₁.setTop (mkF m 23 #[sI ((p0 ^^^ (-1 : Int32)) &&& (p0 - (1 : Int32))), sI 1] [(.int 65536), (.int ((p0 ^^^ (-1 : Int32)) &&& (p0 - (1 : Int32))))])) tZ := by
        intro kj
        by_cases hc23 : (65536 : Int32) < ((p0 ^^^ (-1 : Int32)) &&& (p0 - (1 : Int32)))
        · try simp only [if_pos hc23] at kj
          refine XS.icmpNo X0.here hx rfl (hb hby d19_23) rfl (tlt hc23).2.2.2 ?_
          refine XS.iinc X0.here hx rfl (hb hby d19_26) rfl (l' := #[sI ((p0 ^^^ (-1 : Int32)) &&& (p0 - (1 : Int32))), sI 17]) rfl ?_
          refine XS.iloadN X0.here hx rfl (hb hby d19_29) rfl ?_
          refine XS.bipush X0.here hx rfl (hb hby d19_30) ?_
          refine XS.iushr X0.here hx rfl (hb hby d19_32) rfl ?_
          refine XS.istoreN X0.here hx rfl (hb hby d19_33) rfl (l' := #[sI (w19_0 p0), sI 17]) rfl ?_
          exact kj
        · try simp only [if_neg hc23] at kj
          refine XS.icmpYes X0.here hx rfl (pc0 := 23) (pc' := 34) rfl (hb hby d19_23) rfl (flt hc23).2.2.2 (by decide) (by decide) ?_
          exact kj
      refine sg23 ?_
      show Steps p.tables e below (s₁.setTop (mkF m 34 #[sI (w19_1 p0), sI (w19_2 p0)] [])) _
      refine XS.iloadN X0.here hx rfl (hb hby d19_34) rfl ?_
      refine XS.sipush X0.here hx rfl (hb hby d19_35) ?_
      have sg38 : Steps p.tables e below (s₁.setTop (mkF m 49 #[sI (if (256 : Int32) < (w19_1 p0) then (((w19_1 p0).toUInt32 >>> ((8 : Int32) &&& 31).toUInt32).toInt32) else (w19_1 p0)), sI (if (256 : Int32) < (w19_1 p0) then ((w19_2 p0) + (8 : Int32)) else (w19_2 p0))] [])) tZ → Steps p.tables e below (s₁.setTop (mkF m 38 #[sI (w19_1 p0), sI (w19_2 p0)] [(.int 256), (.int (w19_1 p0))])) tZ := by
        intro kj
        by_cases hc38 : (256 : Int32) < (w19_1 p0)
        · try simp only [if_pos hc38] at kj
          refine XS.icmpNo X0.here hx rfl (hb hby d19_38) rfl (tlt hc38).2.2.2 ?_
          refine XS.iinc X0.here hx rfl (hb hby d19_41) rfl (l' := #[sI (w19_1 p0), sI ((w19_2 p0) + (8 : Int32))]) rfl ?_
          refine XS.iloadN X0.here hx rfl (hb hby d19_44) rfl ?_
          refine XS.bipush X0.here hx rfl (hb hby d19_45) ?_
          refine XS.iushr X0.here hx rfl (hb hby d19_47) rfl ?_
          refine XS.istoreN X0.here hx rfl (hb hby d19_48) rfl (l' := #[sI (((w19_1 p0).toUInt32 >>> ((8 : Int32) &&& 31).toUInt32).toInt32), sI ((w19_2 p0) + (8 : Int32))]) rfl ?_
          exact kj
        · try simp only [if_neg hc38] at kj
          refine XS.icmpYes X0.here hx rfl (pc0 := 38) (pc' := 49) rfl (hb hby d19_38) rfl (flt hc38).2.2.2 (by decide) (by decide) ?_
          exact kj
      refine sg38 ?_
      show Steps p.tables e below (s₁.setTop (mkF m 49 #[sI (w19_3 p0), sI (w19_4 p0)] [])) _
      refine XS.iloadN X0.here hx rfl (hb hby d19_49) rfl ?_
      refine XS.bipush X0.here hx rfl (hb hby d19_50) ?_
      have sg52 : Steps p.tables e below (s₁.setTop (mkF m 62 #[sI (if (16 : Int32) < (w19_3 p0) then (((w19_3 p0).toUInt32 >>> ((4 : Int32) &&& 31).toUInt32).toInt32) else (w19_3 p0)), sI (if (16 : Int32) < (w19_3 p0) then ((w19_4 p0) + (4 : Int32)) else (w19_4 p0))] [])) tZ → Steps p.tables e below (s₁.setTop (mkF m 52 #[sI (w19_3 p0), sI (w19_4 p0)] [(.int 16), (.int (w19_3 p0))])) tZ := by
        intro kj
        by_cases hc52 : (16 : Int32) < (w19_3 p0)
        · try simp only [if_pos hc52] at kj
          refine XS.icmpNo X0.here hx rfl (hb hby d19_52) rfl (tlt hc52).2.2.2 ?_
          refine XS.iinc X0.here hx rfl (hb hby d19_55) rfl (l' := #[sI (w19_3 p0), sI ((w19_4 p0) + (4 : Int32))]) rfl ?_
          refine XS.iloadN X0.here hx rfl (hb hby d19_58) rfl ?_
          refine XS.iconst X0.here hx rfl (hb hby d19_59) ?_
          refine XS.iushr X0.here hx rfl (hb hby d19_60) rfl ?_
          refine XS.istoreN X0.here hx rfl (hb hby d19_61) rfl (l' := #[sI (((w19_3 p0).toUInt32 >>> ((4 : Int32) &&& 31).toUInt32).toInt32), sI ((w19_4 p0) + (4 : Int32))]) rfl ?_
          exact kj
        · try simp only [if_neg hc52] at kj
          refine XS.icmpYes X0.here hx rfl (pc0 := 52) (pc' := 62) rfl (hb hby d19_52) rfl (flt hc52).2.2.2 (by decide) (by decide) ?_
          exact kj
      refine sg52 ?_
      show Steps p.tables e below (s₁.setTop (mkF m 62 #[sI (w19_5 p0), sI (w19_6 p0)] [])) _
      refine XS.iloadN X0.here hx rfl (hb hby d19_62) rfl ?_
      refine XS.iconst X0.here hx rfl (hb hby d19_63) ?_
      have sg64 : Steps p.tables e below (s₁.setTop (mkF m 74 #[sI (if (4 : Int32) < (w19_5 p0) then (((w19_5 p0).toUInt32 >>> ((2 : Int32) &&& 31).toUInt32).toInt32) else (w19_5 p0)), sI (if (4 : Int32) < (w19_5 p0) then ((w19_6 p0) + (2 : Int32)) else (w19_6 p0))] [])) tZ → Steps p.tables e below (s₁.setTop (mkF m 64 #[sI (w19_5 p0), sI (w19_6 p0)] [(.int 4), (.int (w19_5 p0))])) tZ := by
        intro kj
        by_cases hc64 : (4 : Int32) < (w19_5 p0)
        · try simp only [if_pos hc64] at kj
          refine XS.icmpNo X0.here hx rfl (hb hby d19_64) rfl (tlt hc64).2.2.2 ?_
          refine XS.iinc X0.here hx rfl (hb hby d19_67) rfl (l' := #[sI (w19_5 p0), sI ((w19_6 p0) + (2 : Int32))]) rfl ?_
          refine XS.iloadN X0.here hx rfl (hb hby d19_70) rfl ?_
          refine XS.iconst X0.here hx rfl (hb hby d19_71) ?_
          refine XS.iushr X0.here hx rfl (hb hby d19_72) rfl ?_
          refine XS.istoreN X0.here hx rfl (hb hby d19_73) rfl (l' := #[sI (((w19_5 p0).toUInt32 >>> ((2 : Int32) &&& 31).toUInt32).toInt32), sI ((w19_6 p0) + (2 : Int32))]) rfl ?_
          exact kj
        · try simp only [if_neg hc64] at kj
          refine XS.icmpYes X0.here hx rfl (pc0 := 64) (pc' := 74) rfl (hb hby d19_64) rfl (flt hc64).2.2.2 (by decide) (by decide) ?_
          exact kj
      refine sg64 ?_
      show Steps p.tables e below (s₁.setTop (mkF m 74 #[sI (w19_7 p0), sI (w19_8 p0)] [])) _
      refine XS.iloadN X0.here hx rfl (hb hby d19_74) rfl ?_
      refine XS.iloadN X0.here hx rfl (hb hby d19_75) rfl ?_
      refine XS.iconst X0.here hx rfl (hb hby d19_76) ?_
      refine XS.iushr X0.here hx rfl (hb hby d19_77) rfl ?_
      refine XS.iadd X0.here hx rfl (hb hby d19_78) rfl ?_
      exact kZ
    refine Go.retI X0 hx Bd.notSynchronized Bd.returns (hb hby d19_79) (by decide) (by decide) ?_
    refine ⟨?_, N0, e0⟩
    show some ((.int ((w19_8 p0) + (((w19_7 p0).toUInt32 >>> ((1 : Int32) &&& 31).toUInt32).toInt32))) : Value) = some (.int (f19 p0))
    unfold f19; rw [if_pos hc9] <;> rfl
  · refine Vi (s₁.setTop (mkF m 12 #[sI ((p0 ^^^ (-1 : Int32)) &&& (p0 - (1 : Int32))), .unset] [])) (fun tZ kZ => ?_) ?_
    · show Steps p.tables e below (s₁.setTop (mkF m 9 #[sI ((p0 ^^^ (-1 : Int32)) &&& (p0 - (1 : Int32))), .unset] [(.int ((p0 ^^^ (-1 : Int32)) &&& (p0 - (1 : Int32))))])) _
      refine XS.ifNo X0.here hx rfl (hb hby d19_9) rfl ((if0 _ _).trans (flt hc9).2.2.1) ?_
      exact kZ
    refine Vi (s₁.setTop (mkF m 16 #[sI ((p0 ^^^ (-1 : Int32)) &&& (p0 - (1 : Int32))), .unset] [(.int (((p0 ^^^ (-1 : Int32)) &&& (p0 - (1 : Int32))) &&& (32 : Int32)))])) (fun tZ kZ => ?_) ?_
    · refine XS.iloadN X0.here hx rfl (hb hby d19_12) rfl ?_
      refine XS.bipush X0.here hx rfl (hb hby d19_13) ?_
      refine XS.iand X0.here hx rfl (hb hby d19_15) rfl ?_
      exact kZ
    refine Go.retI X0 hx Bd.notSynchronized Bd.returns (hb hby d19_16) (by decide) (by decide) ?_
    refine ⟨?_, N0, e0⟩
    show some ((.int (((p0 ^^^ (-1 : Int32)) &&& (p0 - (1 : Int32))) &&& (32 : Int32))) : Value) = some (.int (f19 p0))
    unfold f19; rw [if_neg hc9] <;> rfl
theorem d17_0 : decode B17 0 = .ok (.iload_n 0, 1) := by decide +kernel
theorem d17_1 : decode B17 1 = .ok (.ifCond .gt 14, 3) := by decide +kernel
theorem d17_15 : decode B17 15 = .ok (.bipush 31, 2) := by decide +kernel
theorem d17_17 : decode B17 17 = .ok (.istore_n 1, 1) := by decide +kernel
theorem d17_18 : decode B17 18 = .ok (.iload_n 0, 1) := by decide +kernel
theorem d17_19 : decode B17 19 = .ok (.ldc_w 264, 3) := by decide +kernel
theorem d17_22 : decode B17 22 = .ok (.if_icmp .lt 11, 3) := by decide +kernel
theorem d17_25 : decode B17 25 = .ok (.iinc 1 (-16), 3) := by decide +kernel
theorem d17_28 : decode B17 28 = .ok (.iload_n 0, 1) := by decide +kernel
theorem d17_29 : decode B17 29 = .ok (.bipush 16, 2) := by decide +kernel
theorem d17_31 : decode B17 31 = .ok (.iushr, 1) := by decide +kernel
theorem d17_32 : decode B17 32 = .ok (.istore_n 0, 1) := by decide +kernel
def w17_0 (p0 : Int32) : Int32 := (if p0 < (65536 : Int32) then p0 else ((p0.toUInt32 >>> ((16 : Int32) &&& 31).toUInt32).toInt32))
theorem d17_33 : decode B17 33 = .ok (.iload_n 0, 1) := by decide +kernel
theorem d17_34 : decode B17 34 = .ok (.sipush 256, 3) := by decide +kernel
theorem d17_37 : decode B17 37 = .ok (.if_icmp .lt 11, 3) := by decide +kernel
def w17_1 (p0 : Int32) : Int32 := ((if p0 < (65536 : Int32) then (31 : Int32) else (15 : Int32)) + (-8 : Int32))
theorem d17_40 : decode B17 40 = .ok (.iinc 1 (-8), 3) := by decide +kernel
theorem d17_43 : decode B17 43 = .ok (.iload_n 0, 1) := by decide +kernel
theorem d17_44 : decode B17 44 = .ok (.bipush 8, 2) := by decide +kernel
theorem d17_46 : decode B17 46 = .ok (.iushr, 1) := by decide +kernel
theorem d17_47 : decode B17 47 = .ok (.istore_n 0, 1) := by decide +kernel
def w17_2 (p0 : Int32) : Int32 := (if (w17_0 p0) < (256 : Int32) then (w17_0 p0) else (((w17_0 p0).toUInt32 >>> ((8 : Int32) &&& 31).toUInt32).toInt32))
def w17_3 (p0 : Int32) : Int32 := (if (w17_0 p0) < (256 : Int32) then (if p0 < (65536 : Int32) then (31 : Int32) else (15 : Int32)) else (w17_1 p0))
theorem d17_48 : decode B17 48 = .ok (.iload_n 0, 1) := by decide +kernel
theorem d17_49 : decode B17 49 = .ok (.bipush 16, 2) := by decide +kernel
theorem d17_51 : decode B17 51 = .ok (.if_icmp .lt 10, 3) := by decide +kernel
theorem d17_54 : decode B17 54 = .ok (.iinc 1 (-4), 3) := by decide +kernel
theorem d17_57 : decode B17 57 = .ok (.iload_n 0, 1) := by decide +kernel
theorem d17_58 : decode B17 58 = .ok (.iconst 4, 1) := by decide +kernel
theorem d17_59 : decode B17 59 = .ok (.iushr, 1) := by decide +kernel
theorem d17_60 : decode B17 60 = .ok (.istore_n 0, 1) := by decide +kernel
def w17_4 (p0 : Int32) : Int32 := (if (w17_2 p0) < (16 : Int32) then (w17_2 p0) else (((w17_2 p0).toUInt32 >>> ((4 : Int32) &&& 31).toUInt32).toInt32))
def w17_5 (p0 : Int32) : Int32 := (if (w17_2 p0) < (16 : Int32) then (w17_3 p0) else ((w17_3 p0) + (-4 : Int32)))
theorem d17_61 : decode B17 61 = .ok (.iload_n 0, 1) := by decide +kernel
theorem d17_62 : decode B17 62 = .ok (.iconst 4, 1) := by decide +kernel
theorem d17_63 : decode B17 63 = .ok (.if_icmp .lt 10, 3) := by decide +kernel
theorem d17_66 : decode B17 66 = .ok (.iinc 1 (-2), 3) := by decide +kernel
theorem d17_69 : decode B17 69 = .ok (.iload_n 0, 1) := by decide +kernel
theorem d17_70 : decode B17 70 = .ok (.iconst 2, 1) := by decide +kernel
theorem d17_71 : decode B17 71 = .ok (.iushr, 1) := by decide +kernel
theorem d17_72 : decode B17 72 = .ok (.istore_n 0, 1) := by decide +kernel
def w17_6 (p0 : Int32) : Int32 := (if (w17_4 p0) < (4 : Int32) then (w17_4 p0) else (((w17_4 p0).toUInt32 >>> ((2 : Int32) &&& 31).toUInt32).toInt32))
def w17_7 (p0 : Int32) : Int32 := (if (w17_4 p0) < (4 : Int32) then (w17_5 p0) else ((w17_5 p0) + (-2 : Int32)))
theorem d17_73 : decode B17 73 = .ok (.iload_n 1, 1) := by decide +kernel
theorem d17_74 : decode B17 74 = .ok (.iload_n 0, 1) := by decide +kernel
theorem d17_75 : decode B17 75 = .ok (.iconst 1, 1) := by decide +kernel
theorem d17_76 : decode B17 76 = .ok (.iushr, 1) := by decide +kernel
theorem d17_77 : decode B17 77 = .ok (.isub, 1) := by decide +kernel
theorem d17_78 : decode B17 78 = .ok (.ireturn, 1) := by decide +kernel
theorem d17_4 : decode B17 4 = .ok (.iload_n 0, 1) := by decide +kernel
theorem d17_5 : decode B17 5 = .ok (.ifCond .ne 8, 3) := by decide +kernel
theorem d17_8 : decode B17 8 = .ok (.bipush 32, 2) := by decide +kernel
theorem d17_10 : decode B17 10 = .ok (.goto 4, 3) := by decide +kernel
theorem d17_13 : decode B17 13 = .ok (.iconst 0, 1) := by decide +kernel
theorem d17_14 : decode B17 14 = .ok (.ireturn, 1) := by decide +kernel
def f17 (p0 : Int32) : Int32 := (if (0 : Int32) < p0 then ((w17_7 p0) - (((w17_6 p0).toUInt32 >>> ((1 : Int32) &&& 31).toUInt32).toInt32)) else (if p0 = (0 : Int32) then (32 : Int32) else (0 : Int32)))
def Q17 (p0 : Int32) (h0 : Heap) (n0 : Nat) (v : Option Value) (h : Heap) (L : List Loc) : Prop := v = some (.int (f17 p0)) ∧ Fr n0 L ∧ h = h0
theorem ef_17_a (m : MethodId) (x0 : Int32) : entryFrame m #[(.int x0)] 2 = mkF m 0 #[.val (.int x0), .unset] [] := by first | (simp [entryFrame, mkF, argsToLocals, Value.category]; done) | rfl
theorem rm17 (l : Launch) (Z : State) (a0 : Array Value) (hw : HW a0 Z) (ws : List Jvm.Cond) (p0 : Int32) (h0 : Heap) (n0 : Nat) (Z0 : n0 ≤ h0.size) :
    MetFree l y17 (head1 (Jvm.Cond.code y17 jdk_33_method_47_code 2 (some .int) :: ws) RM_0_0_0_0) (fun a U => a = #[(.int p0)] ∧ Z.Warmed39 U.vm ∧ U.heap = h0) (fun _ _ _ _ _ => True) (fun _ U o U' => ∃ v L, o = .returned v ∧ Q17 p0 h0 n0 v U'.heap L ∧ FrameEnd U o U' L RM_0_0_0_0.cells RM_0_0_0_0.slots) := by
  refine MetFree.of_bodySF (plainFor_of_name pn_0) hisR ?_
  intro p e s m args below meth c s₁ Bd hml0 hP hK
  obtain ⟨rfl, hZ, hh⟩ := hP
  have hx := Bd.exec
  have hby := Bd.bytes
  have hml : c.maxLocals = 2 := hml0
  have hown : s.vm.findClass "java/lang/Integer" = some m.cls := findClass_of_methodNamed Bd.named
  have X0 : Stand p l e RM_0_0_0_0 s m _ below meth c s₁ [] 0 0 := Stand.of_body Bd
  have e0 : s₁.heap = h0 := by rw [← hh, Bd.state]; rfl
  have N0 := Fr.nil n0
  refine Go.into (P := fun oo uu => ∃ v L, oo = .returned v ∧ Q17 p0 h0 n0 v uu.heap L ∧ FrameEnd s oo uu L RM_0_0_0_0.cells RM_0_0_0_0.slots) (ef_17_a m p0) ?_
  show Go p e below _ (s₁.setTop (mkF m 0 #[sI p0, .unset] []))
  refine Vi (s₁.setTop (mkF m 1 #[sI p0, .unset] [(.int p0)])) (fun tZ kZ => ?_) ?_
  · refine XS.iloadN X0.here hx rfl (hb hby d17_0) rfl ?_
    exact kZ
  by_cases hc1 : (0 : Int32) < p0
  · refine Vi (s₁.setTop (mkF m 15 #[sI p0, .unset] [])) (fun tZ kZ => ?_) ?_
    · show Steps p.tables e below (s₁.setTop (mkF m 1 #[sI p0, .unset] [(.int p0)])) _
      refine XS.ifYes X0.here hx rfl (pc0 := 1) (pc' := 15) rfl (hb hby d17_1) rfl ((if0 _ _).trans (tlt hc1).2.2.1) (by decide) (by decide) ?_
      exact kZ
    refine Vi (s₁.setTop (mkF m 78 #[sI (w17_6 p0), sI (w17_7 p0)] [(.int ((w17_7 p0) - (((w17_6 p0).toUInt32 >>> ((1 : Int32) &&& 31).toUInt32).toInt32)))])) (fun tZ kZ => ?_) ?_
    · refine XS.bipush X0.here hx rfl (hb hby d17_15) ?_
      refine XS.istoreN X0.here hx rfl (hb hby d17_17) rfl (l' := #[sI p0, sI 31]) rfl ?_
      refine XS.iloadN X0.here hx rfl (hb hby d17_18) rfl ?_
      refine X0.ldcwInt hx hown (wz hZ hw 121 rfl) (g := (mkF m 19 #[sI p0, sI 31] [(.int p0)])) rfl (hb hby d17_19) _ ?_
      have sg22 : Steps p.tables e below (s₁.setTop (mkF m 33 #[sI (if p0 < (65536 : Int32) then p0 else ((p0.toUInt32 >>> ((16 : Int32) &&& 31).toUInt32).toInt32)), sI (if p0 < (65536 : Int32) then (31 : Int32) else (15 : Int32))] [])) tZ → Steps p.tables e below (s₁.setTop (mkF m 22 #[sI p0, sI 31] [(.int 65536), (.int p0)])) tZ := by
        intro kj
        by_cases hc22 : p0 < (65536 : Int32)
        · try simp only [if_pos hc22] at kj
          refine XS.icmpYes X0.here hx rfl (pc0 := 22) (pc' := 33) rfl (hb hby d17_22) rfl (tlt hc22).1 (by decide) (by decide) ?_
          exact kj
        · try simp only [if_neg hc22] at kj
          refine XS.icmpNo X0.here hx rfl (hb hby d17_22) rfl (flt hc22).1 ?_
          refine XS.iinc X0.here hx rfl (hb hby d17_25) rfl (l' := #[sI p0, sI 15]) rfl ?_
          refine XS.iloadN X0.here hx rfl (hb hby d17_28) rfl ?_
          refine XS.bipush X0.here hx rfl (hb hby d17_29) ?_
          refine XS.iushr X0.here hx rfl (hb hby d17_31) rfl ?_
          refine XS.istoreN X0.here hx rfl (hb hby d17_32) rfl (l' := #[sI ((p0.toUInt32 >>> ((16 : Int32) &&& 31).toUInt32).toInt32), sI 15]) rfl ?_
          exact kj
      refine sg22 ?_
      show Steps p.tables e below (s₁.setTop (mkF m 33 #[sI (w17_0 p0), sI (if p0 < (65536 : Int32) then (31 : Int32) else (15 : Int32))] [])) _
      refine XS.iloadN X0.here hx rfl (hb hby d17_33) rfl ?_
      refine XS.sipush X0.here hx rfl (hb hby d17_34) ?_
      have sg37 : Steps p.tables e below (s₁.setTop (mkF m 48 #[sI (if (w17_0 p0) < (256 : Int32) then (w17_0 p0) else (((w17_0 p0).toUInt32 >>> ((8 : Int32) &&& 31).toUInt32).toInt32)), sI (if (w17_0 p0) < (256 : Int32) then (if p0 < (65536 : Int32) then (31 : Int32) else (15 : Int32)) else (w17_1 p0))] [])) tZ → Steps p.tables e below (s₁.setTop (mkF m 37 #[sI (w17_0 p0), sI (if p0 < (65536 : Int32) then (31 : Int32) else (15 : Int32))] [(.int 256), (.int (w17_0 p0))])) tZ := by
        intro kj
        by_cases hc37 : (w17_0 p0) < (256 : Int32)
        · try simp only [if_pos hc37] at kj
          refine XS.icmpYes X0.here hx rfl (pc0 := 37) (pc' := 48) rfl (hb hby d17_37) rfl (tlt hc37).1 (by decide) (by decide) ?_
          exact kj
        · try simp only [if_neg hc37] at kj
          refine XS.icmpNo X0.here hx rfl (hb hby d17_37) rfl (flt hc37).1 ?_
          refine XS.iinc X0.here hx rfl (hb hby d17_40) rfl (l' := #[sI (w17_0 p0), sI (w17_1 p0)]) rfl ?_
          refine XS.iloadN X0.here hx rfl (hb hby d17_43) rfl ?_
          refine XS.bipush X0.here hx rfl (hb hby d17_44) ?_
          refine XS.iushr X0.here hx rfl (hb hby d17_46) rfl ?_
          refine XS.istoreN X0.here hx rfl (hb hby d17_47) rfl (l' := #[sI (((w17_0 p0).toUInt32 >>> ((8 : Int32) &&& 31).toUInt32).toInt32), sI (w17_1 p0)]) rfl ?_
          exact kj
      refine sg37 ?_
      show Steps p.tables e below (s₁.setTop (mkF m 48 #[sI (w17_2 p0), sI (w17_3 p0)] [])) _
      refine XS.iloadN X0.here hx rfl (hb hby d17_48) rfl ?_
      refine XS.bipush X0.here hx rfl (hb hby d17_49) ?_
      have sg51 : Steps p.tables e below (s₁.setTop (mkF m 61 #[sI (if (w17_2 p0) < (16 : Int32) then (w17_2 p0) else (((w17_2 p0).toUInt32 >>> ((4 : Int32) &&& 31).toUInt32).toInt32)), sI (if (w17_2 p0) < (16 : Int32) then (w17_3 p0) else ((w17_3 p0) + (-4 : Int32)))] [])) tZ → Steps p.tables e below (s₁.setTop (mkF m 51 #[sI (w17_2 p0), sI (w17_3 p0)] [(.int 16), (.int (w17_2 p0))])) tZ := by
        intro kj
        by_cases hc51 : (w17_2 p0) < (16 : Int32)
        · try simp only [if_pos hc51] at kj
          refine XS.icmpYes X0.here hx rfl (pc0 := 51) (pc' := 61) rfl (hb hby d17_51) rfl (tlt hc51).1 (by decide) (by decide) ?_
          exact kj
        · try simp only [if_neg hc51] at kj
          refine XS.icmpNo X0.here hx rfl (hb hby d17_51) rfl (flt hc51).1 ?_
          refine XS.iinc X0.here hx rfl (hb hby d17_54) rfl (l' := #[sI (w17_2 p0), sI ((w17_3 p0) + (-4 : Int32))]) rfl ?_
          refine XS.iloadN X0.here hx rfl (hb hby d17_57) rfl ?_
          refine XS.iconst X0.here hx rfl (hb hby d17_58) ?_
          refine XS.iushr X0.here hx rfl (hb hby d17_59) rfl ?_
          refine XS.istoreN X0.here hx rfl (hb hby d17_60) rfl (l' := #[sI (((w17_2 p0).toUInt32 >>> ((4 : Int32) &&& 31).toUInt32).toInt32), sI ((w17_3 p0) + (-4 : Int32))]) rfl ?_
          exact kj
      refine sg51 ?_
      show Steps p.tables e below (s₁.setTop (mkF m 61 #[sI (w17_4 p0), sI (w17_5 p0)] [])) _
      refine XS.iloadN X0.here hx rfl (hb hby d17_61) rfl ?_
      refine XS.iconst X0.here hx rfl (hb hby d17_62) ?_
      have sg63 : Steps p.tables e below (s₁.setTop (mkF m 73 #[sI (if (w17_4 p0) < (4 : Int32) then (w17_4 p0) else (((w17_4 p0).toUInt32 >>> ((2 : Int32) &&& 31).toUInt32).toInt32)), sI (if (w17_4 p0) < (4 : Int32) then (w17_5 p0) else ((w17_5 p0) + (-2 : Int32)))] [])) tZ → Steps p.tables e below (s₁.setTop (mkF m 63 #[sI (w17_4 p0), sI (w17_5 p0)] [(.int 4), (.int (w17_4 p0))])) tZ := by
        intro kj
        by_cases hc63 : (w17_4 p0) < (4 : Int32)
        · try simp only [if_pos hc63] at kj
          refine XS.icmpYes X0.here hx rfl (pc0 := 63) (pc' := 73) rfl (hb hby d17_63) rfl (tlt hc63).1 (by decide) (by decide) ?_
          exact kj
        · try simp only [if_neg hc63] at kj
          refine XS.icmpNo X0.here hx rfl (hb hby d17_63) rfl (flt hc63).1 ?_
          refine XS.iinc X0.here hx rfl (hb hby d17_66) rfl (l' := #[sI (w17_4 p0), sI ((w17_5 p0) + (-2 : Int32))]) rfl ?_
          refine XS.iloadN X0.here hx rfl (hb hby d17_69) rfl ?_
          refine XS.iconst X0.here hx rfl (hb hby d17_70) ?_
          refine XS.iushr X0.here hx rfl (hb hby d17_71) rfl ?_
          refine XS.istoreN X0.here hx rfl (hb hby d17_72) rfl (l' := #[sI (((w17_4 p0).toUInt32 >>> ((2 : Int32) &&& 31).toUInt32).toInt32), sI ((w17_5 p0) + (-2 : Int32))]) rfl ?_
          exact kj
      refine sg63 ?_
      show Steps p.tables e below (s₁.setTop (mkF m 73 #[sI (w17_6 p0), sI (w17_7 p0)] [])) _
      refine XS.iloadN X0.here hx rfl (hb hby d17_73) rfl ?_
      refine XS.iloadN X0.here hx rfl (hb hby d17_74) rfl ?_
      refine XS.iconst X0.here hx rfl (hb hby d17_75) ?_
      refine XS.iushr X0.here hx rfl (hb hby d17_76) rfl ?_
      refine XS.isub X0.here hx rfl (hb hby d17_77) rfl ?_
      exact kZ
    refine Go.retI X0 hx Bd.notSynchronized Bd.returns (hb hby d17_78) (by decide) (by decide) ?_
    refine ⟨?_, N0, e0⟩
    show some ((.int ((w17_7 p0) - (((w17_6 p0).toUInt32 >>> ((1 : Int32) &&& 31).toUInt32).toInt32))) : Value) = some (.int (f17 p0))
    unfold f17; rw [if_pos hc1] <;> rfl
  · refine Vi (s₁.setTop (mkF m 4 #[sI p0, .unset] [])) (fun tZ kZ => ?_) ?_
    · show Steps p.tables e below (s₁.setTop (mkF m 1 #[sI p0, .unset] [(.int p0)])) _
      refine XS.ifNo X0.here hx rfl (hb hby d17_1) rfl ((if0 _ _).trans (flt hc1).2.2.1) ?_
      exact kZ
    refine Vi (s₁.setTop (mkF m 14 #[sI p0, .unset] [(.int (if p0 = (0 : Int32) then (32 : Int32) else (0 : Int32)))])) (fun tZ kZ => ?_) ?_
    · refine XS.iloadN X0.here hx rfl (hb hby d17_4) rfl ?_
      have sg5 : Steps p.tables e below (s₁.setTop (mkF m 14 #[sI p0, .unset] [(.int (if p0 = (0 : Int32) then (32 : Int32) else (0 : Int32)))])) tZ → Steps p.tables e below (s₁.setTop (mkF m 5 #[sI p0, .unset] [(.int p0)])) tZ := by
        intro kj
        by_cases hc5 : p0 = (0 : Int32)
        · try simp only [if_pos hc5] at kj
          refine XS.ifNo X0.here hx rfl (hb hby d17_5) rfl ((if0 _ _).trans (teq hc5).2) ?_
          refine XS.bipush X0.here hx rfl (hb hby d17_8) ?_
          refine XS.goto X0.here hx rfl (pc0 := 10) (pc' := 14) rfl (hb hby d17_10) (by decide) (by decide) ?_
          exact kj
        · try simp only [if_neg hc5] at kj
          refine XS.ifYes X0.here hx rfl (pc0 := 5) (pc' := 13) rfl (hb hby d17_5) rfl ((if0 _ _).trans (feq hc5).2) (by decide) (by decide) ?_
          refine XS.iconst X0.here hx rfl (hb hby d17_13) ?_
          exact kj
      refine sg5 ?_
      show Steps p.tables e below (s₁.setTop (mkF m 14 #[sI p0, .unset] [(.int (if p0 = (0 : Int32) then (32 : Int32) else (0 : Int32)))])) _
      exact kZ
    refine Go.retI X0 hx Bd.notSynchronized Bd.returns (hb hby d17_14) (by decide) (by decide) ?_
    refine ⟨?_, N0, e0⟩
    show some ((.int (if p0 = (0 : Int32) then (32 : Int32) else (0 : Int32))) : Value) = some (.int (f17 p0))
    unfold f17; rw [if_neg hc1] <;> rfl
theorem d18_0 : decode B18 0 = .ok (.lload_n 0, 1) := by decide +kernel
theorem d18_1 : decode B18 1 = .ok (.l2i, 1) := by decide +kernel
theorem d18_2 : decode B18 2 = .ok (.istore_n 2, 1) := by decide +kernel
theorem d18_3 : decode B18 3 = .ok (.iload_n 2, 1) := by decide +kernel
theorem d18_4 : decode B18 4 = .ok (.ifCond .ne 17, 3) := by decide +kernel
theorem d18_7 : decode B18 7 = .ok (.bipush 32, 2) := by decide +kernel
theorem d18_9 : decode B18 9 = .ok (.lload_n 0, 1) := by decide +kernel
theorem d18_10 : decode B18 10 = .ok (.bipush 32, 2) := by decide +kernel
theorem d18_12 : decode B18 12 = .ok (.lushr, 1) := by decide +kernel
theorem d18_13 : decode B18 13 = .ok (.l2i, 1) := by decide +kernel
theorem pd_11 : parseMethodDescriptor "(I)I" = some ⟨[.int], some .int⟩ := by decide +kernel
theorem d18_14 : decode B18 14 = .ok (.invokestatic 311, 3) := by decide +kernel
theorem d18_17 : decode B18 17 = .ok (.iadd, 1) := by decide +kernel
theorem d18_18 : decode B18 18 = .ok (.goto 7, 3) := by decide +kernel
theorem d18_25 : decode B18 25 = .ok (.ireturn, 1) := by decide +kernel
theorem d18_21 : decode B18 21 = .ok (.iload_n 2, 1) := by decide +kernel
theorem d18_22 : decode B18 22 = .ok (.invokestatic 311, 3) := by decide +kernel
def f18 (q0 : Int64) : Int32 := (if (q0.toInt32) = (0 : Int32) then ((32 : Int32) + (f19 (((q0.toUInt64 >>> ((32 : Int32) &&& 0x3f).toInt64.toUInt64).toInt64).toInt32))) else (f19 (q0.toInt32)))
def Q18 (q0 : Int64) (h0 : Heap) (n0 : Nat) (v : Option Value) (h : Heap) (L : List Loc) : Prop := v = some (.int (f18 q0)) ∧ Fr n0 L ∧ h = h0
abbrev RM_1_0_0_14 : Room := { frames := 1, cells := 0, slots := 0, locals := 14 }
theorem pn_1 : plainName "java/lang/Long" = true := by first | (simp [plainName, overriddenIn]; done) | decide +kernel
theorem ef_18_a (m : MethodId) (x0 : Int64) : entryFrame m #[(.long x0)] 3 = mkF m 0 #[.val (.long x0), .second, .unset] [] := by first | (simp [entryFrame, mkF, argsToLocals, Value.category]; done) | rfl
theorem rm18 (l : Launch) (Z : State) (a0 : Array Value) (hw : HW a0 Z) (ws : List Jvm.Cond) (q0 : Int64) (h0 : Heap) (n0 : Nat) (Z0 : n0 ≤ h0.size) :
    MetFree l y18 (head1 (Jvm.Cond.code y18 jdk_35_method_49_code 3 (some .int) :: ws) RM_1_0_0_14) (fun a U => a = #[(.long q0)] ∧ Z.Warmed39 U.vm ∧ U.heap = h0) (fun _ _ _ _ _ => True) (fun _ U o U' => ∃ v L, o = .returned v ∧ Q18 q0 h0 n0 v U'.heap L ∧ FrameEnd U o U' L RM_1_0_0_14.cells RM_1_0_0_14.slots) := by
  refine MetFree.of_bodySF (plainFor_of_name pn_1) hisR ?_
  intro p e s m args below meth c s₁ Bd hml0 hP hK
  obtain ⟨rfl, hZ, hh⟩ := hP
  have hx := Bd.exec
  have hby := Bd.bytes
  have hml : c.maxLocals = 3 := hml0
  have hown : s.vm.findClass "java/lang/Long" = some m.cls := findClass_of_methodNamed Bd.named
  have X0 : Stand p l e RM_1_0_0_14 s m _ below meth c s₁ [] 0 0 := Stand.of_body Bd
  have e0 : s₁.heap = h0 := by rw [← hh, Bd.state]; rfl
  have N0 := Fr.nil n0
  refine Go.into (P := fun oo uu => ∃ v L, oo = .returned v ∧ Q18 q0 h0 n0 v uu.heap L ∧ FrameEnd s oo uu L RM_1_0_0_14.cells RM_1_0_0_14.slots) (ef_18_a m q0) ?_
  show Go p e below _ (s₁.setTop (mkF m 0 #[.val (.long q0), .second, .unset] []))
  refine Vi (s₁.setTop (mkF m 4 #[.val (.long q0), .second, sI (q0.toInt32)] [(.int (q0.toInt32))])) (fun tZ kZ => ?_) ?_
  · refine XS.lloadN X0.here hx rfl (hb hby d18_0) rfl ?_
    refine XS.l2i X0.here hx rfl (hb hby d18_1) rfl ?_
    refine XS.istoreN X0.here hx rfl (hb hby d18_2) rfl (l' := #[.val (.long q0), .second, sI (q0.toInt32)]) rfl ?_
    refine XS.iloadN X0.here hx rfl (hb hby d18_3) rfl ?_
    exact kZ
  by_cases hc4 : (q0.toInt32) = (0 : Int32)
  · refine Vi (s₁.setTop (mkF m 7 #[.val (.long q0), .second, sI (q0.toInt32)] [])) (fun tZ kZ => ?_) ?_
    · show Steps p.tables e below (s₁.setTop (mkF m 4 #[.val (.long q0), .second, sI (q0.toInt32)] [(.int (q0.toInt32))])) _
      refine XS.ifNo X0.here hx rfl (hb hby d18_4) rfl ((if0 _ _).trans (teq hc4).2) ?_
      exact kZ
    refine Vi (s₁.setTop (mkF m 14 #[.val (.long q0), .second, sI (q0.toInt32)] [(.int (((q0.toUInt64 >>> ((32 : Int32) &&& 0x3f).toInt64.toUInt64).toInt64).toInt32)), (.int 32)])) (fun tZ kZ => ?_) ?_
    · refine XS.bipush X0.here hx rfl (hb hby d18_7) ?_
      refine XS.lloadN X0.here hx rfl (hb hby d18_9) rfl ?_
      refine XS.bipush X0.here hx rfl (hb hby d18_10) ?_
      refine XS.lushr X0.here hx rfl (hb hby d18_12) rfl ?_
      refine XS.l2i X0.here hx rfl (hb hby d18_13) rfl ?_
      exact kZ
    obtain ⟨_, _, ⟨T1, L1, k1, n1⟩, -, X1, ⟨Lc1, hQ1, l1, y1, z1⟩, st1⟩ := Jvm.LawKit.callS X0 hx (y := y19) hown (wz hZ hw 125 rfl) (wz hZ hw 126 rfl) (wz hZ hw 119 rfl) (wz hZ hw 127 rfl) (by decide) (backOf (W := 1) (rm19 l Z a0 hw [] (((q0.toUInt64 >>> ((32 : Int32) &&& 0x3f).toInt64.toUInt64).toInt64).toInt32) h0 n0 Z0 ) hZ (wq hw 127 rfl) (wq hw 119 rfl) (by decide) (by decide)) (g := (mkF m 14 #[.val (.long q0), .second, sI (q0.toInt32)] [(.int (((q0.toUInt64 >>> ((32 : Int32) &&& 0x3f).toInt64.toUInt64).toInt64).toInt32)), (.int 32)])) rfl (by rw [hml]; rfl) (argsL := [(.int (((q0.toUInt64 >>> ((32 : Int32) &&& 0x3f).toInt64.toUInt64).toInt64).toInt32))]) (rest := [(.int 32)]) (lenOf pd_11 rfl) rfl (leW rfl) (hb hby d18_14) (fun _ _ => ⟨rfl, e0, (by decide : 0 + 0 ≤ _), (by decide : 0 + 0 ≤ _)⟩)
    dsimp only [Pt.U, Pt.locs, Pt.cells, Pt.slots] at X1 l1 y1 z1 st1 hQ1
    subst l1 y1 z1
    obtain ⟨rfl, N1q, e1⟩ := hQ1
    have N1 := Fr.app N0 N1q
    refine Go.via st1 ?_
    refine Vi (T1.setTop (mkF m 25 #[.val (.long q0), .second, sI (q0.toInt32)] [(.int ((32 : Int32) + (f19 (((q0.toUInt64 >>> ((32 : Int32) &&& 0x3f).toInt64.toUInt64).toInt64).toInt32))))])) (fun tZ kZ => ?_) ?_
    · refine XS.iadd X1.here hx rfl (hb hby d18_17) rfl ?_
      refine XS.goto X1.here hx rfl (pc0 := 18) (pc' := 25) rfl (hb hby d18_18) (by decide) (by decide) ?_
      exact kZ
    refine Go.retI X1 hx Bd.notSynchronized Bd.returns (hb hby d18_25) (by decide) (by decide) ?_
    refine ⟨?_, N1, e1⟩
    show some ((.int ((32 : Int32) + (f19 (((q0.toUInt64 >>> ((32 : Int32) &&& 0x3f).toInt64.toUInt64).toInt64).toInt32)))) : Value) = some (.int (f18 q0))
    unfold f18; rw [if_pos hc4] <;> rfl
  · refine Vi (s₁.setTop (mkF m 21 #[.val (.long q0), .second, sI (q0.toInt32)] [])) (fun tZ kZ => ?_) ?_
    · show Steps p.tables e below (s₁.setTop (mkF m 4 #[.val (.long q0), .second, sI (q0.toInt32)] [(.int (q0.toInt32))])) _
      refine XS.ifYes X0.here hx rfl (pc0 := 4) (pc' := 21) rfl (hb hby d18_4) rfl ((if0 _ _).trans (feq hc4).2) (by decide) (by decide) ?_
      exact kZ
    refine Vi (s₁.setTop (mkF m 22 #[.val (.long q0), .second, sI (q0.toInt32)] [(.int (q0.toInt32))])) (fun tZ kZ => ?_) ?_
    · refine XS.iloadN X0.here hx rfl (hb hby d18_21) rfl ?_
      exact kZ
    obtain ⟨_, _, ⟨T2, L2, k2, n2⟩, -, X2, ⟨Lc2, hQ2, l2, y2, z2⟩, st2⟩ := Jvm.LawKit.callS X0 hx (y := y19) hown (wz hZ hw 125 rfl) (wz hZ hw 126 rfl) (wz hZ hw 119 rfl) (wz hZ hw 127 rfl) (by decide) (backOf (W := 0) (rm19 l Z a0 hw [] (q0.toInt32) h0 n0 Z0 ) hZ (wq hw 127 rfl) (wq hw 119 rfl) (by decide) (by decide)) (g := (mkF m 22 #[.val (.long q0), .second, sI (q0.toInt32)] [(.int (q0.toInt32))])) rfl (by rw [hml]; rfl) (argsL := [(.int (q0.toInt32))]) (rest := []) (lenOf pd_11 rfl) rfl (leW rfl) (hb hby d18_22) (fun _ _ => ⟨rfl, e0, (by decide : 0 + 0 ≤ _), (by decide : 0 + 0 ≤ _)⟩)
    dsimp only [Pt.U, Pt.locs, Pt.cells, Pt.slots] at X2 l2 y2 z2 st2 hQ2
    subst l2 y2 z2
    obtain ⟨rfl, N2q, e2⟩ := hQ2
    have N2 := Fr.app N0 N2q
    refine Go.via st2 ?_
    refine Go.retI X2 hx Bd.notSynchronized Bd.returns (hb hby d18_25) (by decide) (by decide) ?_
    refine ⟨?_, N2, e2⟩
    show some ((.int (f19 (q0.toInt32))) : Value) = some (.int (f18 q0))
    unfold f18; rw [if_neg hc4] <;> rfl
theorem d16_0 : decode B16 0 = .ok (.lload_n 0, 1) := by decide +kernel
theorem d16_1 : decode B16 1 = .ok (.bipush 32, 2) := by decide +kernel
theorem d16_3 : decode B16 3 = .ok (.lushr, 1) := by decide +kernel
theorem d16_4 : decode B16 4 = .ok (.l2i, 1) := by decide +kernel
def w16_0 (q0 : Int64) : Int32 := (((q0.toUInt64 >>> ((32 : Int32) &&& 0x3f).toInt64.toUInt64).toInt64).toInt32)
theorem d16_5 : decode B16 5 = .ok (.istore_n 2, 1) := by decide +kernel
theorem d16_6 : decode B16 6 = .ok (.iload_n 2, 1) := by decide +kernel
theorem d16_7 : decode B16 7 = .ok (.ifCond .ne 14, 3) := by decide +kernel
theorem d16_10 : decode B16 10 = .ok (.bipush 32, 2) := by decide +kernel
theorem d16_12 : decode B16 12 = .ok (.lload_n 0, 1) := by decide +kernel
theorem d16_13 : decode B16 13 = .ok (.l2i, 1) := by decide +kernel
theorem d16_14 : decode B16 14 = .ok (.invokestatic 308, 3) := by decide +kernel
theorem d16_17 : decode B16 17 = .ok (.iadd, 1) := by decide +kernel
theorem d16_18 : decode B16 18 = .ok (.goto 7, 3) := by decide +kernel
theorem d16_25 : decode B16 25 = .ok (.ireturn, 1) := by decide +kernel
theorem d16_21 : decode B16 21 = .ok (.iload_n 2, 1) := by decide +kernel
theorem d16_22 : decode B16 22 = .ok (.invokestatic 308, 3) := by decide +kernel
def f16 (q0 : Int64) : Int32 := (if (w16_0 q0) = (0 : Int32) then ((32 : Int32) + (f17 (q0.toInt32))) else (f17 (w16_0 q0)))
def Q16 (q0 : Int64) (h0 : Heap) (n0 : Nat) (v : Option Value) (h : Heap) (L : List Loc) : Prop := v = some (.int (f16 q0)) ∧ Fr n0 L ∧ h = h0
theorem ef_16_a (m : MethodId) (x0 : Int64) : entryFrame m #[(.long x0)] 3 = mkF m 0 #[.val (.long x0), .second, .unset] [] := by first | (simp [entryFrame, mkF, argsToLocals, Value.category]; done) | rfl
theorem rm16 (l : Launch) (Z : State) (a0 : Array Value) (hw : HW a0 Z) (ws : List Jvm.Cond) (q0 : Int64) (h0 : Heap) (n0 : Nat) (Z0 : n0 ≤ h0.size) :
    MetFree l y16 (head1 (Jvm.Cond.code y16 jdk_35_method_48_code 3 (some .int) :: ws) RM_1_0_0_14) (fun a U => a = #[(.long q0)] ∧ Z.Warmed39 U.vm ∧ U.heap = h0) (fun _ _ _ _ _ => True) (fun _ U o U' => ∃ v L, o = .returned v ∧ Q16 q0 h0 n0 v U'.heap L ∧ FrameEnd U o U' L RM_1_0_0_14.cells RM_1_0_0_14.slots) := by
  refine MetFree.of_bodySF (plainFor_of_name pn_1) hisR ?_
  intro p e s m args below meth c s₁ Bd hml0 hP hK
  obtain ⟨rfl, hZ, hh⟩ := hP
  have hx := Bd.exec
  have hby := Bd.bytes
  have hml : c.maxLocals = 3 := hml0
  have hown : s.vm.findClass "java/lang/Long" = some m.cls := findClass_of_methodNamed Bd.named
  have X0 : Stand p l e RM_1_0_0_14 s m _ below meth c s₁ [] 0 0 := Stand.of_body Bd
  have e0 : s₁.heap = h0 := by rw [← hh, Bd.state]; rfl
  have N0 := Fr.nil n0
  refine Go.into (P := fun oo uu => ∃ v L, oo = .returned v ∧ Q16 q0 h0 n0 v uu.heap L ∧ FrameEnd s oo uu L RM_1_0_0_14.cells RM_1_0_0_14.slots) (ef_16_a m q0) ?_
  show Go p e below _ (s₁.setTop (mkF m 0 #[.val (.long q0), .second, .unset] []))
  refine Vi (s₁.setTop (mkF m 7 #[.val (.long q0), .second, sI (w16_0 q0)] [(.int (w16_0 q0))])) (fun tZ kZ => ?_) ?_
  · refine XS.lloadN X0.here hx rfl (hb hby d16_0) rfl ?_
    refine XS.bipush X0.here hx rfl (hb hby d16_1) ?_
    refine XS.lushr X0.here hx rfl (hb hby d16_3) rfl ?_
    refine XS.l2i X0.here hx rfl (hb hby d16_4) rfl ?_
    refine XS.istoreN X0.here hx rfl (hb hby d16_5) rfl (l' := #[.val (.long q0), .second, sI (w16_0 q0)]) rfl ?_
    refine XS.iloadN X0.here hx rfl (hb hby d16_6) rfl ?_
    exact kZ
  by_cases hc7 : (w16_0 q0) = (0 : Int32)
  · refine Vi (s₁.setTop (mkF m 10 #[.val (.long q0), .second, sI (w16_0 q0)] [])) (fun tZ kZ => ?_) ?_
    · show Steps p.tables e below (s₁.setTop (mkF m 7 #[.val (.long q0), .second, sI (w16_0 q0)] [(.int (w16_0 q0))])) _
      refine XS.ifNo X0.here hx rfl (hb hby d16_7) rfl ((if0 _ _).trans (teq hc7).2) ?_
      exact kZ
    refine Vi (s₁.setTop (mkF m 14 #[.val (.long q0), .second, sI (w16_0 q0)] [(.int (q0.toInt32)), (.int 32)])) (fun tZ kZ => ?_) ?_
    · refine XS.bipush X0.here hx rfl (hb hby d16_10) ?_
      refine XS.lloadN X0.here hx rfl (hb hby d16_12) rfl ?_
      refine XS.l2i X0.here hx rfl (hb hby d16_13) rfl ?_
      exact kZ
    obtain ⟨_, _, ⟨T1, L1, k1, n1⟩, -, X1, ⟨Lc1, hQ1, l1, y1, z1⟩, st1⟩ := Jvm.LawKit.callS X0 hx (y := y17) hown (wz hZ hw 117 rfl) (wz hZ hw 118 rfl) (wz hZ hw 119 rfl) (wz hZ hw 120 rfl) (by decide) (backOf (W := 1) (rm17 l Z a0 hw [] (q0.toInt32) h0 n0 Z0 ) hZ (wq hw 120 rfl) (wq hw 119 rfl) (by decide) (by decide)) (g := (mkF m 14 #[.val (.long q0), .second, sI (w16_0 q0)] [(.int (q0.toInt32)), (.int 32)])) rfl (by rw [hml]; rfl) (argsL := [(.int (q0.toInt32))]) (rest := [(.int 32)]) (lenOf pd_11 rfl) rfl (leW rfl) (hb hby d16_14) (fun _ _ => ⟨rfl, e0, (by decide : 0 + 0 ≤ _), (by decide : 0 + 0 ≤ _)⟩)
    dsimp only [Pt.U, Pt.locs, Pt.cells, Pt.slots] at X1 l1 y1 z1 st1 hQ1
    subst l1 y1 z1
    obtain ⟨rfl, N1q, e1⟩ := hQ1
    have N1 := Fr.app N0 N1q
    refine Go.via st1 ?_
    refine Vi (T1.setTop (mkF m 25 #[.val (.long q0), .second, sI (w16_0 q0)] [(.int ((32 : Int32) + (f17 (q0.toInt32))))])) (fun tZ kZ => ?_) ?_
    · refine XS.iadd X1.here hx rfl (hb hby d16_17) rfl ?_
      refine XS.goto X1.here hx rfl (pc0 := 18) (pc' := 25) rfl (hb hby d16_18) (by decide) (by decide) ?_
      exact kZ
    refine Go.retI X1 hx Bd.notSynchronized Bd.returns (hb hby d16_25) (by decide) (by decide) ?_
    refine ⟨?_, N1, e1⟩
    show some ((.int ((32 : Int32) + (f17 (q0.toInt32)))) : Value) = some (.int (f16 q0))
    unfold f16; rw [if_pos hc7] <;> rfl
  · refine Vi (s₁.setTop (mkF m 21 #[.val (.long q0), .second, sI (w16_0 q0)] [])) (fun tZ kZ => ?_) ?_
    · show Steps p.tables e below (s₁.setTop (mkF m 7 #[.val (.long q0), .second, sI (w16_0 q0)] [(.int (w16_0 q0))])) _
      refine XS.ifYes X0.here hx rfl (pc0 := 7) (pc' := 21) rfl (hb hby d16_7) rfl ((if0 _ _).trans (feq hc7).2) (by decide) (by decide) ?_
      exact kZ
    refine Vi (s₁.setTop (mkF m 22 #[.val (.long q0), .second, sI (w16_0 q0)] [(.int (w16_0 q0))])) (fun tZ kZ => ?_) ?_
    · refine XS.iloadN X0.here hx rfl (hb hby d16_21) rfl ?_
      exact kZ
    obtain ⟨_, _, ⟨T2, L2, k2, n2⟩, -, X2, ⟨Lc2, hQ2, l2, y2, z2⟩, st2⟩ := Jvm.LawKit.callS X0 hx (y := y17) hown (wz hZ hw 117 rfl) (wz hZ hw 118 rfl) (wz hZ hw 119 rfl) (wz hZ hw 120 rfl) (by decide) (backOf (W := 0) (rm17 l Z a0 hw [] (w16_0 q0) h0 n0 Z0 ) hZ (wq hw 120 rfl) (wq hw 119 rfl) (by decide) (by decide)) (g := (mkF m 22 #[.val (.long q0), .second, sI (w16_0 q0)] [(.int (w16_0 q0))])) rfl (by rw [hml]; rfl) (argsL := [(.int (w16_0 q0))]) (rest := []) (lenOf pd_11 rfl) rfl (leW rfl) (hb hby d16_22) (fun _ _ => ⟨rfl, e0, (by decide : 0 + 0 ≤ _), (by decide : 0 + 0 ≤ _)⟩)
    dsimp only [Pt.U, Pt.locs, Pt.cells, Pt.slots] at X2 l2 y2 z2 st2 hQ2
    subst l2 y2 z2
    obtain ⟨rfl, N2q, e2⟩ := hQ2
    have N2 := Fr.app N0 N2q
    refine Go.via st2 ?_
    refine Go.retI X2 hx Bd.notSynchronized Bd.returns (hb hby d16_25) (by decide) (by decide) ?_
    refine ⟨?_, N2, e2⟩
    show some ((.int (f17 (w16_0 q0))) : Value) = some (.int (f16 q0))
    unfold f16; rw [if_neg hc7] <;> rfl
theorem d8_0 : decode B8 0 = .ok (.iload_n 0, 1) := by decide +kernel
theorem d8_1 : decode B8 1 = .ok (.iload_n 1, 1) := by decide +kernel
theorem d8_2 : decode B8 2 = .ok (.if_icmp .lt 7, 3) := by decide +kernel
theorem d8_9 : decode B8 9 = .ok (.iload_n 1, 1) := by decide +kernel
theorem d8_5 : decode B8 5 = .ok (.iload_n 0, 1) := by decide +kernel
theorem d8_6 : decode B8 6 = .ok (.goto 4, 3) := by decide +kernel
theorem d8_10 : decode B8 10 = .ok (.ireturn, 1) := by decide +kernel
def f8 (p0 : Int32) (p1 : Int32) : Int32 := (if p0 < p1 then p1 else p0)
def Q8 (p0 : Int32) (p1 : Int32) (h0 : Heap) (n0 : Nat) (v : Option Value) (h : Heap) (L : List Loc) : Prop := v = some (.int (f8 p0 p1)) ∧ Fr n0 L ∧ h = h0
theorem ef_8_aa (m : MethodId) (x0 : Int32) (x1 : Int32) : entryFrame m #[(.int x0), (.int x1)] 2 = mkF m 0 #[.val (.int x0), .val (.int x1)] [] := by first | (simp [entryFrame, mkF, argsToLocals, Value.category]; done) | rfl
theorem rm8 (l : Launch) (Z : State) (a0 : Array Value) (hw : HW a0 Z) (ws : List Jvm.Cond) (p0 : Int32) (p1 : Int32) (h0 : Heap) (n0 : Nat) (Z0 : n0 ≤ h0.size) :
    MetFree l y8 (head1 (Jvm.Cond.code y8 jdk_29_method_65_code 2 (some .int) :: ws) RM_0_0_0_0) (fun a U => a = #[(.int p0), (.int p1)] ∧ Z.Warmed39 U.vm ∧ U.heap = h0) (fun _ _ _ _ _ => True) (fun _ U o U' => ∃ v L, o = .returned v ∧ Q8 p0 p1 h0 n0 v U'.heap L ∧ FrameEnd U o U' L RM_0_0_0_0.cells RM_0_0_0_0.slots) := by
  refine MetFree.of_bodySF (Jvm.Free.JP.mathPlain rfl (by decide +kernel)) hisR ?_
  intro p e s m args below meth c s₁ Bd hml0 hP hK
  obtain ⟨rfl, hZ, hh⟩ := hP
  have hx := Bd.exec
  have hby := Bd.bytes
  have hml : c.maxLocals = 2 := hml0
  have hown : s.vm.findClass "java/lang/Math" = some m.cls := findClass_of_methodNamed Bd.named
  have X0 : Stand p l e RM_0_0_0_0 s m _ below meth c s₁ [] 0 0 := Stand.of_body Bd
  have e0 : s₁.heap = h0 := by rw [← hh, Bd.state]; rfl
  have N0 := Fr.nil n0
  refine Go.into (P := fun oo uu => ∃ v L, oo = .returned v ∧ Q8 p0 p1 h0 n0 v uu.heap L ∧ FrameEnd s oo uu L RM_0_0_0_0.cells RM_0_0_0_0.slots) (ef_8_aa m p0 p1) ?_
  show Go p e below _ (s₁.setTop (mkF m 0 #[sI p0, sI p1] []))
  refine Vi (s₁.setTop (mkF m 10 #[sI p0, sI p1] [(.int (if p0 < p1 then p1 else p0))])) (fun tZ kZ => ?_) ?_
  · refine XS.iloadN X0.here hx rfl (hb hby d8_0) rfl ?_
    refine XS.iloadN X0.here hx rfl (hb hby d8_1) rfl ?_
    have sg2 : Steps p.tables e below (s₁.setTop (mkF m 10 #[sI p0, sI p1] [(.int (if p0 < p1 then p1 else p0))])) tZ → Steps p.tables e below (s₁.setTop (mkF m 2 #[sI p0, sI p1] [(.int p1), (.int p0)])) tZ := by
      intro kj
      by_cases hc2 : p0 < p1
      · try simp only [if_pos hc2] at kj
        refine XS.icmpYes X0.here hx rfl (pc0 := 2) (pc' := 9) rfl (hb hby d8_2) rfl (tlt hc2).1 (by decide) (by decide) ?_
        refine XS.iloadN X0.here hx rfl (hb hby d8_9) rfl ?_
        exact kj
      · try simp only [if_neg hc2] at kj
        refine XS.icmpNo X0.here hx rfl (hb hby d8_2) rfl (flt hc2).1 ?_
        refine XS.iloadN X0.here hx rfl (hb hby d8_5) rfl ?_
        refine XS.goto X0.here hx rfl (pc0 := 6) (pc' := 10) rfl (hb hby d8_6) (by decide) (by decide) ?_
        exact kj
    refine sg2 ?_
    show Steps p.tables e below (s₁.setTop (mkF m 10 #[sI p0, sI p1] [(.int (if p0 < p1 then p1 else p0))])) _
    exact kZ
  refine Go.retI X0 hx Bd.notSynchronized Bd.returns (hb hby d8_10) (by decide) (by decide) ?_
  refine ⟨?_, N0, e0⟩
  show some ((.int (if p0 < p1 then p1 else p0)) : Value) = some (.int (f8 p0 p1))
  rfl
theorem d10_0 : decode B10 0 = .ok (.iload_n 0, 1) := by decide +kernel
theorem d10_1 : decode B10 1 = .ok (.iload_n 1, 1) := by decide +kernel
theorem d10_2 : decode B10 2 = .ok (.if_icmp .gt 7, 3) := by decide +kernel
theorem d10_9 : decode B10 9 = .ok (.iload_n 1, 1) := by decide +kernel
theorem d10_5 : decode B10 5 = .ok (.iload_n 0, 1) := by decide +kernel
theorem d10_6 : decode B10 6 = .ok (.goto 4, 3) := by decide +kernel
theorem d10_10 : decode B10 10 = .ok (.ireturn, 1) := by decide +kernel
def f10 (p0 : Int32) (p1 : Int32) : Int32 := (if p1 < p0 then p1 else p0)
def Q10 (p0 : Int32) (p1 : Int32) (h0 : Heap) (n0 : Nat) (v : Option Value) (h : Heap) (L : List Loc) : Prop := v = some (.int (f10 p0 p1)) ∧ Fr n0 L ∧ h = h0
theorem ef_10_aa (m : MethodId) (x0 : Int32) (x1 : Int32) : entryFrame m #[(.int x0), (.int x1)] 2 = mkF m 0 #[.val (.int x0), .val (.int x1)] [] := by first | (simp [entryFrame, mkF, argsToLocals, Value.category]; done) | rfl
theorem rm10 (l : Launch) (Z : State) (a0 : Array Value) (hw : HW a0 Z) (ws : List Jvm.Cond) (p0 : Int32) (p1 : Int32) (h0 : Heap) (n0 : Nat) (Z0 : n0 ≤ h0.size) :
    MetFree l y10 (head1 (Jvm.Cond.code y10 jdk_29_method_69_code 2 (some .int) :: ws) RM_0_0_0_0) (fun a U => a = #[(.int p0), (.int p1)] ∧ Z.Warmed39 U.vm ∧ U.heap = h0) (fun _ _ _ _ _ => True) (fun _ U o U' => ∃ v L, o = .returned v ∧ Q10 p0 p1 h0 n0 v U'.heap L ∧ FrameEnd U o U' L RM_0_0_0_0.cells RM_0_0_0_0.slots) := by
  refine MetFree.of_bodySF (Jvm.Free.JP.mathPlain rfl (by decide +kernel)) hisR ?_
  intro p e s m args below meth c s₁ Bd hml0 hP hK
  obtain ⟨rfl, hZ, hh⟩ := hP
  have hx := Bd.exec
  have hby := Bd.bytes
  have hml : c.maxLocals = 2 := hml0
  have hown : s.vm.findClass "java/lang/Math" = some m.cls := findClass_of_methodNamed Bd.named
  have X0 : Stand p l e RM_0_0_0_0 s m _ below meth c s₁ [] 0 0 := Stand.of_body Bd
  have e0 : s₁.heap = h0 := by rw [← hh, Bd.state]; rfl
  have N0 := Fr.nil n0
  refine Go.into (P := fun oo uu => ∃ v L, oo = .returned v ∧ Q10 p0 p1 h0 n0 v uu.heap L ∧ FrameEnd s oo uu L RM_0_0_0_0.cells RM_0_0_0_0.slots) (ef_10_aa m p0 p1) ?_
  show Go p e below _ (s₁.setTop (mkF m 0 #[sI p0, sI p1] []))
  refine Vi (s₁.setTop (mkF m 10 #[sI p0, sI p1] [(.int (if p1 < p0 then p1 else p0))])) (fun tZ kZ => ?_) ?_
  · refine XS.iloadN X0.here hx rfl (hb hby d10_0) rfl ?_
    refine XS.iloadN X0.here hx rfl (hb hby d10_1) rfl ?_
    have sg2 : Steps p.tables e below (s₁.setTop (mkF m 10 #[sI p0, sI p1] [(.int (if p1 < p0 then p1 else p0))])) tZ → Steps p.tables e below (s₁.setTop (mkF m 2 #[sI p0, sI p1] [(.int p1), (.int p0)])) tZ := by
      intro kj
      by_cases hc2 : p1 < p0
      · try simp only [if_pos hc2] at kj
        refine XS.icmpYes X0.here hx rfl (pc0 := 2) (pc' := 9) rfl (hb hby d10_2) rfl (tlt hc2).2.2.1 (by decide) (by decide) ?_
        refine XS.iloadN X0.here hx rfl (hb hby d10_9) rfl ?_
        exact kj
      · try simp only [if_neg hc2] at kj
        refine XS.icmpNo X0.here hx rfl (hb hby d10_2) rfl (flt hc2).2.2.1 ?_
        refine XS.iloadN X0.here hx rfl (hb hby d10_5) rfl ?_
        refine XS.goto X0.here hx rfl (pc0 := 6) (pc' := 10) rfl (hb hby d10_6) (by decide) (by decide) ?_
        exact kj
    refine sg2 ?_
    show Steps p.tables e below (s₁.setTop (mkF m 10 #[sI p0, sI p1] [(.int (if p1 < p0 then p1 else p0))])) _
    exact kZ
  refine Go.retI X0 hx Bd.notSynchronized Bd.returns (hb hby d10_10) (by decide) (by decide) ?_
  refine ⟨?_, N0, e0⟩
  show some ((.int (if p1 < p0 then p1 else p0)) : Value) = some (.int (f10 p0 p1))
  rfl
theorem d15_0 : decode B15 0 = .ok (.iload_n 2, 1) := by decide +kernel
theorem d15_1 : decode B15 1 = .ok (.aload_n 0, 1) := by decide +kernel
theorem d15_2 : decode B15 2 = .ok (.getfield 39, 3) := by decide +kernel
theorem d15_5 : decode B15 5 = .ok (.iload_n 1, 1) := by decide +kernel
theorem d15_6 : decode B15 6 = .ok (.iaload, 1) := by decide +kernel
theorem d15_7 : decode B15 7 = .ok (.if_icmp .lt 37, 3) := by decide +kernel
theorem d15_44 : decode B15 44 = .ok (.iconst 0, 1) := by decide +kernel
theorem d15_45 : decode B15 45 = .ok (.ireturn, 1) := by decide +kernel
theorem d15_10 : decode B15 10 = .ok (.iload_n 2, 1) := by decide +kernel
theorem d15_11 : decode B15 11 = .ok (.aload_n 0, 1) := by decide +kernel
theorem d15_12 : decode B15 12 = .ok (.getfield 42, 3) := by decide +kernel
theorem d15_15 : decode B15 15 = .ok (.iload_n 1, 1) := by decide +kernel
theorem d15_16 : decode B15 16 = .ok (.iaload, 1) := by decide +kernel
theorem d15_17 : decode B15 17 = .ok (.if_icmp .gt 27, 3) := by decide +kernel
theorem d15_20 : decode B15 20 = .ok (.aload_n 0, 1) := by decide +kernel
theorem d15_21 : decode B15 21 = .ok (.getfield 32, 3) := by decide +kernel
theorem d15_24 : decode B15 24 = .ok (.iload_n 1, 1) := by decide +kernel
theorem d15_25 : decode B15 25 = .ok (.aaload, 1) := by decide +kernel
theorem d15_26 : decode B15 26 = .ok (.iload_n 2, 1) := by decide +kernel
theorem d15_27 : decode B15 27 = .ok (.bipush 6, 2) := by decide +kernel
theorem d15_29 : decode B15 29 = .ok (.iushr, 1) := by decide +kernel
theorem d15_30 : decode B15 30 = .ok (.laload, 1) := by decide +kernel
theorem d15_31 : decode B15 31 = .ok (.lconst 1, 1) := by decide +kernel
theorem d15_32 : decode B15 32 = .ok (.iload_n 2, 1) := by decide +kernel
theorem d15_33 : decode B15 33 = .ok (.lshl, 1) := by decide +kernel
theorem d15_34 : decode B15 34 = .ok (.land, 1) := by decide +kernel
theorem d15_35 : decode B15 35 = .ok (.lconst 0, 1) := by decide +kernel
theorem d15_36 : decode B15 36 = .ok (.lcmp, 1) := by decide +kernel
theorem d15_37 : decode B15 37 = .ok (.ifCond .eq 7, 3) := by decide +kernel
theorem d15_40 : decode B15 40 = .ok (.iconst 1, 1) := by decide +kernel
theorem d15_41 : decode B15 41 = .ok (.goto 4, 3) := by decide +kernel
def f15 (o0 : Addr) (p2 : Int32) (lA : Addr) (lF : Nat → Int32) (hA : Addr) (hF : Nat → Int32) (bA : Addr) (wA : Addr) (nW : Nat) (wF : Nat → Int64) : Int32 := (if p2 < (lF (0 : Int32).toNatClampNeg) then (0 : Int32) else (if (hF (0 : Int32).toNatClampNeg) < p2 then (0 : Int32) else (if ((wF ((p2.toUInt32 >>> ((6 : Int32) &&& 31).toUInt32).toInt32).toNatClampNeg) &&& ((1 : Int64) <<< (p2 &&& 0x3f).toInt64)) = (0 : Int64) then (0 : Int32) else (1 : Int32))))
def Q15 (o0 : Addr) (p2 : Int32) (lA : Addr) (lF : Nat → Int32) (hA : Addr) (hF : Nat → Int32) (bA : Addr) (wA : Addr) (nW : Nat) (wF : Nat → Int64) (h0 : Heap) (n0 : Nat) (v : Option Value) (h : Heap) (L : List Loc) : Prop := v = some (.int (f15 o0 p2 lA lF hA hF bA wA nW wF)) ∧ Fr n0 L ∧ h = h0
theorem pn_2 : plainName "com/example/whittle/whittle/engine/Domains" = true := by first | (simp [plainName, overriddenIn]; done) | decide +kernel
theorem ef_15_aaa (m : MethodId) (x0 : Addr) (x1 : Int32) (x2 : Int32) : entryFrame m #[(.ref x0), (.int x1), (.int x2)] 3 = mkF m 0 #[.val (.ref x0), .val (.int x1), .val (.int x2)] [] := by first | (simp [entryFrame, mkF, argsToLocals, Value.category]; done) | rfl
theorem rm15 (l : Launch) (Z : State) (a0 : Array Value) (hw : HW a0 Z) (ws : List Jvm.Cond) (o0 : Addr) (p2 : Int32) (lA : Addr) (lF : Nat → Int32) (hA : Addr) (hF : Nat → Int32) (bA : Addr) (wA : Addr) (nW : Nat) (wF : Nat → Int64) (h0 : Heap) (n0 : Nat) (Z0 : n0 ≤ h0.size) (ha0 : Exa Z h0 o0 "com/example/whittle/whittle/engine/Domains") (ha1 : Fld Z h0 o0 "com/example/whittle/whittle/engine/Domains" "low" "[I" (.ref lA)) (ha2 : AV Z h0 lA .int 1 (fun k => .int (lF k))) (ha3 : Fld Z h0 o0 "com/example/whittle/whittle/engine/Domains" "high" "[I" (.ref hA)) (ha4 : AV Z h0 hA .int 1 (fun k => .int (hF k))) (ha5 : Fld Z h0 o0 "com/example/whittle/whittle/engine/Domains" "bits" "[[J" (.ref bA)) (ha6 : AV Z h0 bA (.array .long) 1 (fun _ => Value.ref wA)) (ha7 : AV Z h0 wA .long nW (fun k => .long (wF k))) (hB : ¬ p2 < (lF (0 : Int32).toNatClampNeg) → ¬ (hF (0 : Int32).toNatClampNeg) < p2 → ¬ ((p2.toUInt32 >>> ((6 : Int32) &&& 31).toUInt32).toInt32) < 0 ∧ ((p2.toUInt32 >>> ((6 : Int32) &&& 31).toUInt32).toInt32).toNatClampNeg < nW) :
    MetFree l y15 (head1 (Jvm.Cond.code y15 prog_22_method_5_code 3 (some .boolean) :: ws) RM_0_0_0_0) (fun a U => a = #[(.ref o0), (.int 0), (.int p2)] ∧ Z.Warmed39 U.vm ∧ U.heap = h0) (fun _ _ _ _ _ => True) (fun _ U o U' => ∃ v L, o = .returned v ∧ Q15 o0 p2 lA lF hA hF bA wA nW wF h0 n0 v U'.heap L ∧ FrameEnd U o U' L RM_0_0_0_0.cells RM_0_0_0_0.slots) := by
  refine MetFree.of_bodySF (plainFor_of_name pn_2) hisR ?_
  intro p e s m args below meth c s₁ Bd hml0 hP hK
  obtain ⟨rfl, hZ, hh⟩ := hP
  have hx := Bd.exec
  have hby := Bd.bytes
  have hml : c.maxLocals = 3 := hml0
  have hown : s.vm.findClass "com/example/whittle/whittle/engine/Domains" = some m.cls := findClass_of_methodNamed Bd.named
  have X0 : Stand p l e RM_0_0_0_0 s m _ below meth c s₁ [] 0 0 := Stand.of_body Bd
  have e0 : s₁.heap = h0 := by rw [← hh, Bd.state]; rfl
  have N0 := Fr.nil n0
  refine Go.into (P := fun oo uu => ∃ v L, oo = .returned v ∧ Q15 o0 p2 lA lF hA hF bA wA nW wF h0 n0 v uu.heap L ∧ FrameEnd s oo uu L RM_0_0_0_0.cells RM_0_0_0_0.slots) (ef_15_aaa m o0 (0 : Int32) p2) ?_
  show Go p e below _ (s₁.setTop (mkF m 0 #[sR o0, sI 0, sI p2] []))
  refine Vi (s₁.setTop (mkF m 2 #[sR o0, sI 0, sI p2] [(.ref o0), (.int p2)])) (fun tZ kZ => ?_) ?_
  · refine XS.iloadN X0.here hx rfl (hb hby d15_0) rfl ?_
    refine XS.aloadN X0.here hx rfl (hb hby d15_1) rfl rfl ?_
    exact kZ
  obtain ⟨T1, X1, e1, st1⟩ := getF X0 hx hZ hown (host := "") (Or.inl (wq hw 36 rfl)) Via.refl e0 ha1 (g := (mkF m 2 #[sR o0, sI 0, sI p2] [(.ref o0), (.int p2)])) rfl rfl (hb hby d15_2)
  refine Go.via st1 ?_
  refine Vi (T1.setTop (mkF m 7 #[sR o0, sI 0, sI p2] [(.int (lF (0 : Int32).toNatClampNeg)), (.int p2)])) (fun tZ kZ => ?_) ?_
  · refine XS.iloadN X1.here hx rfl (hb hby d15_5) rfl ?_
    refine AV.iaload ha2 X1 hx hZ e1 (j := (0 : Int32)) (by decide) (hb hby d15_6) ?_
    exact kZ
  by_cases hc7 : p2 < (lF (0 : Int32).toNatClampNeg)
  · refine Vi (T1.setTop (mkF m 44 #[sR o0, sI 0, sI p2] [])) (fun tZ kZ => ?_) ?_
    · show Steps p.tables e below (T1.setTop (mkF m 7 #[sR o0, sI 0, sI p2] [(.int (lF (0 : Int32).toNatClampNeg)), (.int p2)])) _
      refine XS.icmpYes X1.here hx rfl (pc0 := 7) (pc' := 44) rfl (hb hby d15_7) rfl (tlt hc7).1 (by decide) (by decide) ?_
      exact kZ
    refine Vi (T1.setTop (mkF m 45 #[sR o0, sI 0, sI p2] [(.int 0)])) (fun tZ kZ => ?_) ?_
    · refine XS.iconst X1.here hx rfl (hb hby d15_44) ?_
      exact kZ
    refine Go.retN X1 hx Bd.notSynchronized (t := .boolean) Bd.returns (by simp) (hb hby d15_45) (by decide) (by decide) ?_
    refine ⟨?_, N0, e1⟩
    show some ((Value.int (nar .boolean (0 : Int32))) : Value) = some (.int (f15 o0 p2 lA lF hA hF bA wA nW wF))
    unfold f15; rw [if_pos hc7] <;> rfl
  · refine Vi (T1.setTop (mkF m 10 #[sR o0, sI 0, sI p2] [])) (fun tZ kZ => ?_) ?_
    · show Steps p.tables e below (T1.setTop (mkF m 7 #[sR o0, sI 0, sI p2] [(.int (lF (0 : Int32).toNatClampNeg)), (.int p2)])) _
      refine XS.icmpNo X1.here hx rfl (hb hby d15_7) rfl (flt hc7).1 ?_
      exact kZ
    refine Vi (T1.setTop (mkF m 12 #[sR o0, sI 0, sI p2] [(.ref o0), (.int p2)])) (fun tZ kZ => ?_) ?_
    · refine XS.iloadN X1.here hx rfl (hb hby d15_10) rfl ?_
      refine XS.aloadN X1.here hx rfl (hb hby d15_11) rfl rfl ?_
      exact kZ
    obtain ⟨T2, X2, e2, st2⟩ := getF X1 hx hZ hown (host := "") (Or.inl (wq hw 38 rfl)) Via.refl e1 ha3 (g := (mkF m 12 #[sR o0, sI 0, sI p2] [(.ref o0), (.int p2)])) rfl rfl (hb hby d15_12)
    refine Go.via st2 ?_
    refine Vi (T2.setTop (mkF m 17 #[sR o0, sI 0, sI p2] [(.int (hF (0 : Int32).toNatClampNeg)), (.int p2)])) (fun tZ kZ => ?_) ?_
    · refine XS.iloadN X2.here hx rfl (hb hby d15_15) rfl ?_
      refine AV.iaload ha4 X2 hx hZ e2 (j := (0 : Int32)) (by decide) (hb hby d15_16) ?_
      exact kZ
    by_cases hc17 : (hF (0 : Int32).toNatClampNeg) < p2
    · refine Vi (T2.setTop (mkF m 44 #[sR o0, sI 0, sI p2] [])) (fun tZ kZ => ?_) ?_
      · show Steps p.tables e below (T2.setTop (mkF m 17 #[sR o0, sI 0, sI p2] [(.int (hF (0 : Int32).toNatClampNeg)), (.int p2)])) _
        refine XS.icmpYes X2.here hx rfl (pc0 := 17) (pc' := 44) rfl (hb hby d15_17) rfl (tlt hc17).2.2.1 (by decide) (by decide) ?_
        exact kZ
      refine Vi (T2.setTop (mkF m 45 #[sR o0, sI 0, sI p2] [(.int 0)])) (fun tZ kZ => ?_) ?_
      · refine XS.iconst X2.here hx rfl (hb hby d15_44) ?_
        exact kZ
      refine Go.retN X2 hx Bd.notSynchronized (t := .boolean) Bd.returns (by simp) (hb hby d15_45) (by decide) (by decide) ?_
      refine ⟨?_, N0, e2⟩
      show some ((Value.int (nar .boolean (0 : Int32))) : Value) = some (.int (f15 o0 p2 lA lF hA hF bA wA nW wF))
      unfold f15; rw [if_neg hc7, if_pos hc17] <;> rfl
    · refine Vi (T2.setTop (mkF m 20 #[sR o0, sI 0, sI p2] [])) (fun tZ kZ => ?_) ?_
      · show Steps p.tables e below (T2.setTop (mkF m 17 #[sR o0, sI 0, sI p2] [(.int (hF (0 : Int32).toNatClampNeg)), (.int p2)])) _
        refine XS.icmpNo X2.here hx rfl (hb hby d15_17) rfl (flt hc17).2.2.1 ?_
        exact kZ
      refine Vi (T2.setTop (mkF m 21 #[sR o0, sI 0, sI p2] [(.ref o0)])) (fun tZ kZ => ?_) ?_
      · refine XS.aloadN X2.here hx rfl (hb hby d15_20) rfl rfl ?_
        exact kZ
      obtain ⟨T3, X3, e3, st3⟩ := getF X2 hx hZ hown (host := "") (Or.inl (wq hw 32 rfl)) Via.refl e2 ha5 (g := (mkF m 21 #[sR o0, sI 0, sI p2] [(.ref o0)])) rfl rfl (hb hby d15_21)
      refine Go.via st3 ?_
      refine Vi (T3.setTop (mkF m 37 #[sR o0, sI 0, sI p2] [(.int (lcmpW ((wF ((p2.toUInt32 >>> ((6 : Int32) &&& 31).toUInt32).toInt32).toNatClampNeg) &&& ((1 : Int64) <<< (p2 &&& 0x3f).toInt64)) (0 : Int64)))])) (fun tZ kZ => ?_) ?_
      · refine XS.iloadN X3.here hx rfl (hb hby d15_24) rfl ?_
        refine AV.aaload ha6 rfl X3 hx hZ e3 (j := (0 : Int32)) (by decide) (hb hby d15_25) ?_
        refine XS.iloadN X3.here hx rfl (hb hby d15_26) rfl ?_
        refine XS.bipush X3.here hx rfl (hb hby d15_27) ?_
        refine XS.iushr X3.here hx rfl (hb hby d15_29) rfl ?_
        refine AV.laload ha7 X3 hx hZ e3 (j := ((p2.toUInt32 >>> ((6 : Int32) &&& 31).toUInt32).toInt32)) (hB hc7 hc17) (hb hby d15_30) ?_
        refine XS.lconst X3.here hx rfl (hb hby d15_31) ?_
        refine XS.iloadN X3.here hx rfl (hb hby d15_32) rfl ?_
        refine XS.lshl X3.here hx rfl (hb hby d15_33) rfl ?_
        refine XS.land X3.here hx rfl (hb hby d15_34) rfl ?_
        refine XS.lconst X3.here hx rfl (hb hby d15_35) ?_
        refine XS.lcmp X3.here hx rfl (hb hby d15_36) rfl ?_
        exact kZ
      by_cases hc37 : ((wF ((p2.toUInt32 >>> ((6 : Int32) &&& 31).toUInt32).toInt32).toNatClampNeg) &&& ((1 : Int64) <<< (p2 &&& 0x3f).toInt64)) = (0 : Int64)
      · refine Vi (T3.setTop (mkF m 44 #[sR o0, sI 0, sI p2] [])) (fun tZ kZ => ?_) ?_
        · show Steps p.tables e below (T3.setTop (mkF m 37 #[sR o0, sI 0, sI p2] [(.int (lcmpW ((wF ((p2.toUInt32 >>> ((6 : Int32) &&& 31).toUInt32).toInt32).toNatClampNeg) &&& ((1 : Int64) <<< (p2 &&& 0x3f).toInt64)) (0 : Int64)))])) _
          refine XS.ifYes X3.here hx rfl (pc0 := 37) (pc' := 44) rfl (hb hby d15_37) rfl ((if0 _ _).trans (teq ((lw_eq _ _).mpr hc37)).1) (by decide) (by decide) ?_
          exact kZ
        refine Vi (T3.setTop (mkF m 45 #[sR o0, sI 0, sI p2] [(.int 0)])) (fun tZ kZ => ?_) ?_
        · refine XS.iconst X3.here hx rfl (hb hby d15_44) ?_
          exact kZ
        refine Go.retN X3 hx Bd.notSynchronized (t := .boolean) Bd.returns (by simp) (hb hby d15_45) (by decide) (by decide) ?_
        refine ⟨?_, N0, e3⟩
        show some ((Value.int (nar .boolean (0 : Int32))) : Value) = some (.int (f15 o0 p2 lA lF hA hF bA wA nW wF))
        unfold f15; rw [if_neg hc7, if_neg hc17, if_pos hc37] <;> rfl
      · refine Vi (T3.setTop (mkF m 40 #[sR o0, sI 0, sI p2] [])) (fun tZ kZ => ?_) ?_
        · show Steps p.tables e below (T3.setTop (mkF m 37 #[sR o0, sI 0, sI p2] [(.int (lcmpW ((wF ((p2.toUInt32 >>> ((6 : Int32) &&& 31).toUInt32).toInt32).toNatClampNeg) &&& ((1 : Int64) <<< (p2 &&& 0x3f).toInt64)) (0 : Int64)))])) _
          refine XS.ifNo X3.here hx rfl (hb hby d15_37) rfl ((if0 _ _).trans (feq (fun q => absurd ((lw_eq _ _).mp q) hc37)).1) ?_
          exact kZ
        refine Vi (T3.setTop (mkF m 45 #[sR o0, sI 0, sI p2] [(.int 1)])) (fun tZ kZ => ?_) ?_
        · refine XS.iconst X3.here hx rfl (hb hby d15_40) ?_
          refine XS.goto X3.here hx rfl (pc0 := 41) (pc' := 45) rfl (hb hby d15_41) (by decide) (by decide) ?_
          exact kZ
        refine Go.retN X3 hx Bd.notSynchronized (t := .boolean) Bd.returns (by simp) (hb hby d15_45) (by decide) (by decide) ?_
        refine ⟨?_, N0, e3⟩
        show some ((Value.int (nar .boolean (1 : Int32))) : Value) = some (.int (f15 o0 p2 lA lF hA hF bA wA nW wF))
        unfold f15; rw [if_neg hc7, if_neg hc17, if_neg hc37] <;> rfl
theorem d7_0 : decode B7 0 = .ok (.iload_n 2, 1) := by decide +kernel
theorem d7_1 : decode B7 1 = .ok (.aload_n 0, 1) := by decide +kernel
theorem d7_2 : decode B7 2 = .ok (.getfield 39, 3) := by decide +kernel
theorem d7_5 : decode B7 5 = .ok (.iload_n 1, 1) := by decide +kernel
theorem d7_6 : decode B7 6 = .ok (.iaload, 1) := by decide +kernel
theorem pd_5 : parseMethodDescriptor "(II)I" = some ⟨[.int, .int], some .int⟩ := by decide +kernel
theorem d7_7 : decode B7 7 = .ok (.invokestatic 71, 3) := by decide +kernel
theorem d7_10 : decode B7 10 = .ok (.istore_n 3, 1) := by decide +kernel
theorem d7_11 : decode B7 11 = .ok (.iload_n 3, 1) := by decide +kernel
theorem d7_12 : decode B7 12 = .ok (.aload_n 0, 1) := by decide +kernel
theorem d7_13 : decode B7 13 = .ok (.getfield 42, 3) := by decide +kernel
theorem d7_16 : decode B7 16 = .ok (.iload_n 1, 1) := by decide +kernel
theorem d7_17 : decode B7 17 = .ok (.iaload, 1) := by decide +kernel
theorem d7_18 : decode B7 18 = .ok (.if_icmp .le 5, 3) := by decide +kernel
theorem d7_21 : decode B7 21 = .ok (.iconst (-1), 1) := by decide +kernel
theorem d7_22 : decode B7 22 = .ok (.ireturn, 1) := by decide +kernel
theorem d7_23 : decode B7 23 = .ok (.iload_n 3, 1) := by decide +kernel
theorem d7_24 : decode B7 24 = .ok (.bipush 6, 2) := by decide +kernel
theorem d7_26 : decode B7 26 = .ok (.iushr, 1) := by decide +kernel
theorem d7_27 : decode B7 27 = .ok (.istore 4, 2) := by decide +kernel
theorem d7_29 : decode B7 29 = .ok (.aload_n 0, 1) := by decide +kernel
theorem d7_30 : decode B7 30 = .ok (.getfield 32, 3) := by decide +kernel
theorem d7_33 : decode B7 33 = .ok (.iload_n 1, 1) := by decide +kernel
theorem d7_34 : decode B7 34 = .ok (.aaload, 1) := by decide +kernel
theorem d7_35 : decode B7 35 = .ok (.iload 4, 2) := by decide +kernel
theorem d7_37 : decode B7 37 = .ok (.laload, 1) := by decide +kernel
theorem d7_38 : decode B7 38 = .ok (.ldc2_w 52, 3) := by decide +kernel
theorem d7_41 : decode B7 41 = .ok (.iload_n 3, 1) := by decide +kernel
theorem d7_42 : decode B7 42 = .ok (.lshl, 1) := by decide +kernel
theorem d7_43 : decode B7 43 = .ok (.land, 1) := by decide +kernel
theorem d7_44 : decode B7 44 = .ok (.lstore 5, 2) := by decide +kernel
theorem d7_46 : decode B7 46 = .ok (.lload 5, 2) := by decide +kernel
theorem d7_48 : decode B7 48 = .ok (.lconst 0, 1) := by decide +kernel
theorem d7_49 : decode B7 49 = .ok (.lcmp, 1) := by decide +kernel
theorem d7_50 : decode B7 50 = .ok (.ifCond .ne 20, 3) := by decide +kernel
theorem d7_53 : decode B7 53 = .ok (.aload_n 0, 1) := by decide +kernel
theorem d7_54 : decode B7 54 = .ok (.getfield 32, 3) := by decide +kernel
theorem d7_57 : decode B7 57 = .ok (.iload_n 1, 1) := by decide +kernel
theorem d7_58 : decode B7 58 = .ok (.aaload, 1) := by decide +kernel
theorem d7_59 : decode B7 59 = .ok (.iinc 4 1, 3) := by decide +kernel
theorem d7_62 : decode B7 62 = .ok (.iload 4, 2) := by decide +kernel
theorem d7_64 : decode B7 64 = .ok (.laload, 1) := by decide +kernel
theorem d7_65 : decode B7 65 = .ok (.lstore 5, 2) := by decide +kernel
theorem d7_67 : decode B7 67 = .ok (.goto (-21), 3) := by decide +kernel
theorem d7_70 : decode B7 70 = .ok (.iload 4, 2) := by decide +kernel
theorem d7_72 : decode B7 72 = .ok (.bipush 6, 2) := by decide +kernel
theorem d7_74 : decode B7 74 = .ok (.ishl, 1) := by decide +kernel
theorem d7_75 : decode B7 75 = .ok (.lload 5, 2) := by decide +kernel
theorem pd_10 : parseMethodDescriptor "(J)I" = some ⟨[.long], some .int⟩ := by decide +kernel
theorem d7_77 : decode B7 77 = .ok (.invokestatic 77, 3) := by decide +kernel
theorem d7_80 : decode B7 80 = .ok (.iadd, 1) := by decide +kernel
theorem d7_81 : decode B7 81 = .ok (.ireturn, 1) := by decide +kernel
def f7 (o0 : Addr) (p2 : Int32) (lA : Addr) (lF : Nat → Int32) (hA : Addr) (hF : Nat → Int32) (bA : Addr) (wA : Addr) (nW : Nat) (wF : Nat → Int64) : Int32 := (if (hF (0 : Int32).toNatClampNeg) < (f8 p2 (lF (0 : Int32).toNatClampNeg)) then (-1 : Int32) else (if ((wF (((f8 p2 (lF (0 : Int32).toNatClampNeg)).toUInt32 >>> ((6 : Int32) &&& 31).toUInt32).toInt32).toNatClampNeg) &&& ((-1 : Int64) <<< ((f8 p2 (lF (0 : Int32).toNatClampNeg)) &&& 0x3f).toInt64)) = (0 : Int64) then ((((((f8 p2 (lF (0 : Int32).toNatClampNeg)).toUInt32 >>> ((6 : Int32) &&& 31).toUInt32).toInt32) + (1 : Int32)) <<< ((6 : Int32) &&& 31)) + (f18 (wF ((((f8 p2 (lF (0 : Int32).toNatClampNeg)).toUInt32 >>> ((6 : Int32) &&& 31).toUInt32).toInt32) + (1 : Int32)).toNatClampNeg))) else (((((f8 p2 (lF (0 : Int32).toNatClampNeg)).toUInt32 >>> ((6 : Int32) &&& 31).toUInt32).toInt32) <<< ((6 : Int32) &&& 31)) + (f18 ((wF (((f8 p2 (lF (0 : Int32).toNatClampNeg)).toUInt32 >>> ((6 : Int32) &&& 31).toUInt32).toInt32).toNatClampNeg) &&& ((-1 : Int64) <<< ((f8 p2 (lF (0 : Int32).toNatClampNeg)) &&& 0x3f).toInt64))))))
def Q7 (o0 : Addr) (p2 : Int32) (lA : Addr) (lF : Nat → Int32) (hA : Addr) (hF : Nat → Int32) (bA : Addr) (wA : Addr) (nW : Nat) (wF : Nat → Int64) (h0 : Heap) (n0 : Nat) (v : Option Value) (h : Heap) (L : List Loc) : Prop := v = some (.int (f7 o0 p2 lA lF hA hF bA wA nW wF)) ∧ Fr n0 L ∧ h = h0
abbrev RM_2_0_0_29 : Room := { frames := 2, cells := 0, slots := 0, locals := 29 }
theorem ef_7_aaa (m : MethodId) (x0 : Addr) (x1 : Int32) (x2 : Int32) : entryFrame m #[(.ref x0), (.int x1), (.int x2)] 7 = mkF m 0 #[.val (.ref x0), .val (.int x1), .val (.int x2), .unset, .unset, .unset, .unset] [] := by first | (simp [entryFrame, mkF, argsToLocals, Value.category]; done) | rfl
theorem rm7 (l : Launch) (Z : State) (a0 : Array Value) (hw : HW a0 Z) (ws : List Jvm.Cond) (o0 : Addr) (p2 : Int32) (lA : Addr) (lF : Nat → Int32) (hA : Addr) (hF : Nat → Int32) (bA : Addr) (wA : Addr) (nW : Nat) (wF : Nat → Int64) (h0 : Heap) (n0 : Nat) (Z0 : n0 ≤ h0.size) (ha0 : Exa Z h0 o0 "com/example/whittle/whittle/engine/Domains") (ha1 : Fld Z h0 o0 "com/example/whittle/whittle/engine/Domains" "low" "[I" (.ref lA)) (ha2 : AV Z h0 lA .int 1 (fun k => .int (lF k))) (ha3 : Fld Z h0 o0 "com/example/whittle/whittle/engine/Domains" "high" "[I" (.ref hA)) (ha4 : AV Z h0 hA .int 1 (fun k => .int (hF k))) (ha5 : Fld Z h0 o0 "com/example/whittle/whittle/engine/Domains" "bits" "[[J" (.ref bA)) (ha6 : AV Z h0 bA (.array .long) 1 (fun _ => Value.ref wA)) (ha7 : AV Z h0 wA .long nW (fun k => .long (wF k))) (hB1 : ¬ (hF (0 : Int32).toNatClampNeg) < (f8 p2 (lF (0 : Int32).toNatClampNeg)) → ¬ (((f8 p2 (lF (0 : Int32).toNatClampNeg)).toUInt32 >>> ((6 : Int32) &&& 31).toUInt32).toInt32) < 0 ∧ (((f8 p2 (lF (0 : Int32).toNatClampNeg)).toUInt32 >>> ((6 : Int32) &&& 31).toUInt32).toInt32).toNatClampNeg < nW) (hB2 : ¬ (hF (0 : Int32).toNatClampNeg) < (f8 p2 (lF (0 : Int32).toNatClampNeg)) → ((wF (((f8 p2 (lF (0 : Int32).toNatClampNeg)).toUInt32 >>> ((6 : Int32) &&& 31).toUInt32).toInt32).toNatClampNeg) &&& ((-1 : Int64) <<< ((f8 p2 (lF (0 : Int32).toNatClampNeg)) &&& 0x3f).toInt64)) = (0 : Int64) → ¬ ((((f8 p2 (lF (0 : Int32).toNatClampNeg)).toUInt32 >>> ((6 : Int32) &&& 31).toUInt32).toInt32) + (1 : Int32)) < 0 ∧ ((((f8 p2 (lF (0 : Int32).toNatClampNeg)).toUInt32 >>> ((6 : Int32) &&& 31).toUInt32).toInt32) + (1 : Int32)).toNatClampNeg < nW) (hT : ¬ (hF (0 : Int32).toNatClampNeg) < (f8 p2 (lF (0 : Int32).toNatClampNeg)) → ((wF (((f8 p2 (lF (0 : Int32).toNatClampNeg)).toUInt32 >>> ((6 : Int32) &&& 31).toUInt32).toInt32).toNatClampNeg) &&& ((-1 : Int64) <<< ((f8 p2 (lF (0 : Int32).toNatClampNeg)) &&& 0x3f).toInt64)) = (0 : Int64) → ¬ (wF ((((f8 p2 (lF (0 : Int32).toNatClampNeg)).toUInt32 >>> ((6 : Int32) &&& 31).toUInt32).toInt32) + (1 : Int32)).toNatClampNeg) = (0 : Int64)) :
    MetFree l y7 (head1 (Jvm.Cond.code y7 prog_22_method_6_code 7 (some .int) :: ws) RM_2_0_0_29) (fun a U => a = #[(.ref o0), (.int 0), (.int p2)] ∧ Z.Warmed39 U.vm ∧ U.heap = h0) (fun _ _ _ _ _ => True) (fun _ U o U' => ∃ v L, o = .returned v ∧ Q7 o0 p2 lA lF hA hF bA wA nW wF h0 n0 v U'.heap L ∧ FrameEnd U o U' L RM_2_0_0_29.cells RM_2_0_0_29.slots) := by
  refine MetFree.of_bodySF (plainFor_of_name pn_2) hisR ?_
  intro p e s m args below meth c s₁ Bd hml0 hP hK
  obtain ⟨rfl, hZ, hh⟩ := hP
  have hx := Bd.exec
  have hby := Bd.bytes
  have hml : c.maxLocals = 7 := hml0
  have hown : s.vm.findClass "com/example/whittle/whittle/engine/Domains" = some m.cls := findClass_of_methodNamed Bd.named
  have X0 : Stand p l e RM_2_0_0_29 s m _ below meth c s₁ [] 0 0 := Stand.of_body Bd
  have e0 : s₁.heap = h0 := by rw [← hh, Bd.state]; rfl
  have N0 := Fr.nil n0
  refine Go.into (P := fun oo uu => ∃ v L, oo = .returned v ∧ Q7 o0 p2 lA lF hA hF bA wA nW wF h0 n0 v uu.heap L ∧ FrameEnd s oo uu L RM_2_0_0_29.cells RM_2_0_0_29.slots) (ef_7_aaa m o0 (0 : Int32) p2) ?_
  show Go p e below _ (s₁.setTop (mkF m 0 #[sR o0, sI 0, sI p2, .unset, .unset, .unset, .unset] []))
  refine Vi (s₁.setTop (mkF m 2 #[sR o0, sI 0, sI p2, .unset, .unset, .unset, .unset] [(.ref o0), (.int p2)])) (fun tZ kZ => ?_) ?_
  · refine XS.iloadN X0.here hx rfl (hb hby d7_0) rfl ?_
    refine XS.aloadN X0.here hx rfl (hb hby d7_1) rfl rfl ?_
    exact kZ
  obtain ⟨T1, X1, e1, st1⟩ := getF X0 hx hZ hown (host := "") (Or.inl (wq hw 36 rfl)) Via.refl e0 ha1 (g := (mkF m 2 #[sR o0, sI 0, sI p2, .unset, .unset, .unset, .unset] [(.ref o0), (.int p2)])) rfl rfl (hb hby d7_2)
  refine Go.via st1 ?_
  refine Vi (T1.setTop (mkF m 7 #[sR o0, sI 0, sI p2, .unset, .unset, .unset, .unset] [(.int (lF (0 : Int32).toNatClampNeg)), (.int p2)])) (fun tZ kZ => ?_) ?_
  · refine XS.iloadN X1.here hx rfl (hb hby d7_5) rfl ?_
    refine AV.iaload ha2 X1 hx hZ e1 (j := (0 : Int32)) (by decide) (hb hby d7_6) ?_
    exact kZ
  obtain ⟨_, _, ⟨T2, L2, k2, n2⟩, -, X2, ⟨Lc2, hQ2, l2, y2, z2⟩, st2⟩ := Jvm.LawKit.callS X1 hx (y := y8) hown (wz hZ hw 77 rfl) (wz hZ hw 78 rfl) (wz hZ hw 79 rfl) (wz hZ hw 80 rfl) (by decide) (backOf (W := 0) (rm8 l Z a0 hw [] p2 (lF (0 : Int32).toNatClampNeg) h0 n0 Z0 ) hZ (wq hw 80 rfl) (wq hw 79 rfl) (by decide) (by decide)) (g := (mkF m 7 #[sR o0, sI 0, sI p2, .unset, .unset, .unset, .unset] [(.int (lF (0 : Int32).toNatClampNeg)), (.int p2)])) rfl (by rw [hml]; rfl) (argsL := [(.int p2), (.int (lF (0 : Int32).toNatClampNeg))]) (rest := []) (lenOf pd_5 rfl) rfl (leW rfl) (hb hby d7_7) (fun _ _ => ⟨rfl, e1, (by decide : 0 + 0 ≤ _), (by decide : 0 + 0 ≤ _)⟩)
  dsimp only [Pt.U, Pt.locs, Pt.cells, Pt.slots] at X2 l2 y2 z2 st2 hQ2
  subst l2 y2 z2
  obtain ⟨rfl, N2q, e2⟩ := hQ2
  have N2 := Fr.app N0 N2q
  refine Go.via st2 ?_
  refine Vi (T2.setTop (mkF m 13 #[sR o0, sI 0, sI p2, sI (f8 p2 (lF (0 : Int32).toNatClampNeg)), .unset, .unset, .unset] [(.ref o0), (.int (f8 p2 (lF (0 : Int32).toNatClampNeg)))])) (fun tZ kZ => ?_) ?_
  · refine XS.istoreN X2.here hx rfl (hb hby d7_10) rfl (l' := #[sR o0, sI 0, sI p2, sI (f8 p2 (lF (0 : Int32).toNatClampNeg)), .unset, .unset, .unset]) rfl ?_
    refine XS.iloadN X2.here hx rfl (hb hby d7_11) rfl ?_
    refine XS.aloadN X2.here hx rfl (hb hby d7_12) rfl rfl ?_
    exact kZ
  obtain ⟨T3, X3, e3, st3⟩ := getF X2 hx hZ hown (host := "") (Or.inl (wq hw 38 rfl)) Via.refl e2 ha3 (g := (mkF m 13 #[sR o0, sI 0, sI p2, sI (f8 p2 (lF (0 : Int32).toNatClampNeg)), .unset, .unset, .unset] [(.ref o0), (.int (f8 p2 (lF (0 : Int32).toNatClampNeg)))])) rfl rfl (hb hby d7_13)
  refine Go.via st3 ?_
  refine Vi (T3.setTop (mkF m 18 #[sR o0, sI 0, sI p2, sI (f8 p2 (lF (0 : Int32).toNatClampNeg)), .unset, .unset, .unset] [(.int (hF (0 : Int32).toNatClampNeg)), (.int (f8 p2 (lF (0 : Int32).toNatClampNeg)))])) (fun tZ kZ => ?_) ?_
  · refine XS.iloadN X3.here hx rfl (hb hby d7_16) rfl ?_
    refine AV.iaload ha4 X3 hx hZ e3 (j := (0 : Int32)) (by decide) (hb hby d7_17) ?_
    exact kZ
  by_cases hc18 : (hF (0 : Int32).toNatClampNeg) < (f8 p2 (lF (0 : Int32).toNatClampNeg))
  · refine Vi (T3.setTop (mkF m 21 #[sR o0, sI 0, sI p2, sI (f8 p2 (lF (0 : Int32).toNatClampNeg)), .unset, .unset, .unset] [])) (fun tZ kZ => ?_) ?_
    · show Steps p.tables e below (T3.setTop (mkF m 18 #[sR o0, sI 0, sI p2, sI (f8 p2 (lF (0 : Int32).toNatClampNeg)), .unset, .unset, .unset] [(.int (hF (0 : Int32).toNatClampNeg)), (.int (f8 p2 (lF (0 : Int32).toNatClampNeg)))])) _
      refine XS.icmpNo X3.here hx rfl (hb hby d7_18) rfl (tlt hc18).2.2.2 ?_
      exact kZ
    refine Vi (T3.setTop (mkF m 22 #[sR o0, sI 0, sI p2, sI (f8 p2 (lF (0 : Int32).toNatClampNeg)), .unset, .unset, .unset] [(.int (-1))])) (fun tZ kZ => ?_) ?_
    · refine XS.iconst X3.here hx rfl (hb hby d7_21) ?_
      exact kZ
    refine Go.retI X3 hx Bd.notSynchronized Bd.returns (hb hby d7_22) (by decide) (by decide) ?_
    refine ⟨?_, N2, e3⟩
    show some ((.int (-1)) : Value) = some (.int (f7 o0 p2 lA lF hA hF bA wA nW wF))
    unfold f7; rw [if_pos hc18] <;> rfl
  · refine Vi (T3.setTop (mkF m 23 #[sR o0, sI 0, sI p2, sI (f8 p2 (lF (0 : Int32).toNatClampNeg)), .unset, .unset, .unset] [])) (fun tZ kZ => ?_) ?_
    · show Steps p.tables e below (T3.setTop (mkF m 18 #[sR o0, sI 0, sI p2, sI (f8 p2 (lF (0 : Int32).toNatClampNeg)), .unset, .unset, .unset] [(.int (hF (0 : Int32).toNatClampNeg)), (.int (f8 p2 (lF (0 : Int32).toNatClampNeg)))])) _
      refine XS.icmpYes X3.here hx rfl (pc0 := 18) (pc' := 23) rfl (hb hby d7_18) rfl (flt hc18).2.2.2 (by decide) (by decide) ?_
      exact kZ
    refine Vi (T3.setTop (mkF m 30 #[sR o0, sI 0, sI p2, sI (f8 p2 (lF (0 : Int32).toNatClampNeg)), sI (((f8 p2 (lF (0 : Int32).toNatClampNeg)).toUInt32 >>> ((6 : Int32) &&& 31).toUInt32).toInt32), .unset, .unset] [(.ref o0)])) (fun tZ kZ => ?_) ?_
    · refine XS.iloadN X3.here hx rfl (hb hby d7_23) rfl ?_
      refine XS.bipush X3.here hx rfl (hb hby d7_24) ?_
      refine XS.iushr X3.here hx rfl (hb hby d7_26) rfl ?_
      refine XS.istore X3.here hx rfl (hb hby d7_27) rfl (l' := #[sR o0, sI 0, sI p2, sI (f8 p2 (lF (0 : Int32).toNatClampNeg)), sI (((f8 p2 (lF (0 : Int32).toNatClampNeg)).toUInt32 >>> ((6 : Int32) &&& 31).toUInt32).toInt32), .unset, .unset]) rfl ?_
      refine XS.aloadN X3.here hx rfl (hb hby d7_29) rfl rfl ?_
      exact kZ
    obtain ⟨T4, X4, e4, st4⟩ := getF X3 hx hZ hown (host := "") (Or.inl (wq hw 32 rfl)) Via.refl e3 ha5 (g := (mkF m 30 #[sR o0, sI 0, sI p2, sI (f8 p2 (lF (0 : Int32).toNatClampNeg)), sI (((f8 p2 (lF (0 : Int32).toNatClampNeg)).toUInt32 >>> ((6 : Int32) &&& 31).toUInt32).toInt32), .unset, .unset] [(.ref o0)])) rfl rfl (hb hby d7_30)
    refine Go.via st4 ?_
    refine Vi (T4.setTop (mkF m 50 #[sR o0, sI 0, sI p2, sI (f8 p2 (lF (0 : Int32).toNatClampNeg)), sI (((f8 p2 (lF (0 : Int32).toNatClampNeg)).toUInt32 >>> ((6 : Int32) &&& 31).toUInt32).toInt32), .val (.long ((wF (((f8 p2 (lF (0 : Int32).toNatClampNeg)).toUInt32 >>> ((6 : Int32) &&& 31).toUInt32).toInt32).toNatClampNeg) &&& ((-1 : Int64) <<< ((f8 p2 (lF (0 : Int32).toNatClampNeg)) &&& 0x3f).toInt64))), .second] [(.int (lcmpW ((wF (((f8 p2 (lF (0 : Int32).toNatClampNeg)).toUInt32 >>> ((6 : Int32) &&& 31).toUInt32).toInt32).toNatClampNeg) &&& ((-1 : Int64) <<< ((f8 p2 (lF (0 : Int32).toNatClampNeg)) &&& 0x3f).toInt64)) (0 : Int64)))])) (fun tZ kZ => ?_) ?_
    · refine XS.iloadN X4.here hx rfl (hb hby d7_33) rfl ?_
      refine AV.aaload ha6 rfl X4 hx hZ e4 (j := (0 : Int32)) (by decide) (hb hby d7_34) ?_
      refine XS.iload X4.here hx rfl (hb hby d7_35) rfl ?_
      refine AV.laload ha7 X4 hx hZ e4 (j := (((f8 p2 (lF (0 : Int32).toNatClampNeg)).toUInt32 >>> ((6 : Int32) &&& 31).toUInt32).toInt32)) (hB1 hc18) (hb hby d7_37) ?_
      refine X4.ldc2Long hx hown (wz hZ hw 51 rfl) (g := (mkF m 38 #[sR o0, sI 0, sI p2, sI (f8 p2 (lF (0 : Int32).toNatClampNeg)), sI (((f8 p2 (lF (0 : Int32).toNatClampNeg)).toUInt32 >>> ((6 : Int32) &&& 31).toUInt32).toInt32), .unset, .unset] [(.long (wF (((f8 p2 (lF (0 : Int32).toNatClampNeg)).toUInt32 >>> ((6 : Int32) &&& 31).toUInt32).toInt32).toNatClampNeg))])) rfl (hb hby d7_38) _ ?_
      refine XS.iloadN X4.here hx rfl (hb hby d7_41) rfl ?_
      refine XS.lshl X4.here hx rfl (hb hby d7_42) rfl ?_
      refine XS.land X4.here hx rfl (hb hby d7_43) rfl ?_
      refine XS.lstore X4.here hx rfl (hb hby d7_44) rfl (l' := #[sR o0, sI 0, sI p2, sI (f8 p2 (lF (0 : Int32).toNatClampNeg)), sI (((f8 p2 (lF (0 : Int32).toNatClampNeg)).toUInt32 >>> ((6 : Int32) &&& 31).toUInt32).toInt32), .val (.long ((wF (((f8 p2 (lF (0 : Int32).toNatClampNeg)).toUInt32 >>> ((6 : Int32) &&& 31).toUInt32).toInt32).toNatClampNeg) &&& ((-1 : Int64) <<< ((f8 p2 (lF (0 : Int32).toNatClampNeg)) &&& 0x3f).toInt64))), .second]) rfl ?_
      refine XS.lload X4.here hx rfl (hb hby d7_46) rfl ?_
      refine XS.lconst X4.here hx rfl (hb hby d7_48) ?_
      refine XS.lcmp X4.here hx rfl (hb hby d7_49) rfl ?_
      exact kZ
    by_cases hc50 : ((wF (((f8 p2 (lF (0 : Int32).toNatClampNeg)).toUInt32 >>> ((6 : Int32) &&& 31).toUInt32).toInt32).toNatClampNeg) &&& ((-1 : Int64) <<< ((f8 p2 (lF (0 : Int32).toNatClampNeg)) &&& 0x3f).toInt64)) = (0 : Int64)
    · refine Vi (T4.setTop (mkF m 53 #[sR o0, sI 0, sI p2, sI (f8 p2 (lF (0 : Int32).toNatClampNeg)), sI (((f8 p2 (lF (0 : Int32).toNatClampNeg)).toUInt32 >>> ((6 : Int32) &&& 31).toUInt32).toInt32), .val (.long ((wF (((f8 p2 (lF (0 : Int32).toNatClampNeg)).toUInt32 >>> ((6 : Int32) &&& 31).toUInt32).toInt32).toNatClampNeg) &&& ((-1 : Int64) <<< ((f8 p2 (lF (0 : Int32).toNatClampNeg)) &&& 0x3f).toInt64))), .second] [])) (fun tZ kZ => ?_) ?_
      · show Steps p.tables e below (T4.setTop (mkF m 50 #[sR o0, sI 0, sI p2, sI (f8 p2 (lF (0 : Int32).toNatClampNeg)), sI (((f8 p2 (lF (0 : Int32).toNatClampNeg)).toUInt32 >>> ((6 : Int32) &&& 31).toUInt32).toInt32), .val (.long ((wF (((f8 p2 (lF (0 : Int32).toNatClampNeg)).toUInt32 >>> ((6 : Int32) &&& 31).toUInt32).toInt32).toNatClampNeg) &&& ((-1 : Int64) <<< ((f8 p2 (lF (0 : Int32).toNatClampNeg)) &&& 0x3f).toInt64))), .second] [(.int (lcmpW ((wF (((f8 p2 (lF (0 : Int32).toNatClampNeg)).toUInt32 >>> ((6 : Int32) &&& 31).toUInt32).toInt32).toNatClampNeg) &&& ((-1 : Int64) <<< ((f8 p2 (lF (0 : Int32).toNatClampNeg)) &&& 0x3f).toInt64)) (0 : Int64)))])) _
        refine XS.ifNo X4.here hx rfl (hb hby d7_50) rfl ((if0 _ _).trans (teq ((lw_eq _ _).mpr hc50)).2) ?_
        exact kZ
      refine Vi (T4.setTop (mkF m 54 #[sR o0, sI 0, sI p2, sI (f8 p2 (lF (0 : Int32).toNatClampNeg)), sI (((f8 p2 (lF (0 : Int32).toNatClampNeg)).toUInt32 >>> ((6 : Int32) &&& 31).toUInt32).toInt32), .val (.long ((wF (((f8 p2 (lF (0 : Int32).toNatClampNeg)).toUInt32 >>> ((6 : Int32) &&& 31).toUInt32).toInt32).toNatClampNeg) &&& ((-1 : Int64) <<< ((f8 p2 (lF (0 : Int32).toNatClampNeg)) &&& 0x3f).toInt64))), .second] [(.ref o0)])) (fun tZ kZ => ?_) ?_
      · refine XS.aloadN X4.here hx rfl (hb hby d7_53) rfl rfl ?_
        exact kZ
      obtain ⟨T5, X5, e5, st5⟩ := getF X4 hx hZ hown (host := "") (Or.inl (wq hw 32 rfl)) Via.refl e4 ha5 (g := (mkF m 54 #[sR o0, sI 0, sI p2, sI (f8 p2 (lF (0 : Int32).toNatClampNeg)), sI (((f8 p2 (lF (0 : Int32).toNatClampNeg)).toUInt32 >>> ((6 : Int32) &&& 31).toUInt32).toInt32), .val (.long ((wF (((f8 p2 (lF (0 : Int32).toNatClampNeg)).toUInt32 >>> ((6 : Int32) &&& 31).toUInt32).toInt32).toNatClampNeg) &&& ((-1 : Int64) <<< ((f8 p2 (lF (0 : Int32).toNatClampNeg)) &&& 0x3f).toInt64))), .second] [(.ref o0)])) rfl rfl (hb hby d7_54)
      refine Go.via st5 ?_
      refine Vi (T5.setTop (mkF m 77 #[sR o0, sI 0, sI p2, sI (f8 p2 (lF (0 : Int32).toNatClampNeg)), sI ((((f8 p2 (lF (0 : Int32).toNatClampNeg)).toUInt32 >>> ((6 : Int32) &&& 31).toUInt32).toInt32) + (1 : Int32)), .val (.long (wF ((((f8 p2 (lF (0 : Int32).toNatClampNeg)).toUInt32 >>> ((6 : Int32) &&& 31).toUInt32).toInt32) + (1 : Int32)).toNatClampNeg)), .second] [(.long (wF ((((f8 p2 (lF (0 : Int32).toNatClampNeg)).toUInt32 >>> ((6 : Int32) &&& 31).toUInt32).toInt32) + (1 : Int32)).toNatClampNeg)), (.int (((((f8 p2 (lF (0 : Int32).toNatClampNeg)).toUInt32 >>> ((6 : Int32) &&& 31).toUInt32).toInt32) + (1 : Int32)) <<< ((6 : Int32) &&& 31)))])) (fun tZ kZ => ?_) ?_
      · refine XS.iloadN X5.here hx rfl (hb hby d7_57) rfl ?_
        refine AV.aaload ha6 rfl X5 hx hZ e5 (j := (0 : Int32)) (by decide) (hb hby d7_58) ?_
        refine XS.iinc X5.here hx rfl (hb hby d7_59) rfl (l' := #[sR o0, sI 0, sI p2, sI (f8 p2 (lF (0 : Int32).toNatClampNeg)), sI ((((f8 p2 (lF (0 : Int32).toNatClampNeg)).toUInt32 >>> ((6 : Int32) &&& 31).toUInt32).toInt32) + (1 : Int32)), .val (.long ((wF (((f8 p2 (lF (0 : Int32).toNatClampNeg)).toUInt32 >>> ((6 : Int32) &&& 31).toUInt32).toInt32).toNatClampNeg) &&& ((-1 : Int64) <<< ((f8 p2 (lF (0 : Int32).toNatClampNeg)) &&& 0x3f).toInt64))), .second]) rfl ?_
        refine XS.iload X5.here hx rfl (hb hby d7_62) rfl ?_
        refine AV.laload ha7 X5 hx hZ e5 (j := ((((f8 p2 (lF (0 : Int32).toNatClampNeg)).toUInt32 >>> ((6 : Int32) &&& 31).toUInt32).toInt32) + (1 : Int32))) (hB2 hc18 hc50) (hb hby d7_64) ?_
        refine XS.lstore X5.here hx rfl (hb hby d7_65) rfl (l' := #[sR o0, sI 0, sI p2, sI (f8 p2 (lF (0 : Int32).toNatClampNeg)), sI ((((f8 p2 (lF (0 : Int32).toNatClampNeg)).toUInt32 >>> ((6 : Int32) &&& 31).toUInt32).toInt32) + (1 : Int32)), .val (.long (wF ((((f8 p2 (lF (0 : Int32).toNatClampNeg)).toUInt32 >>> ((6 : Int32) &&& 31).toUInt32).toInt32) + (1 : Int32)).toNatClampNeg)), .second]) rfl ?_
        refine XS.goto X5.here hx rfl (pc0 := 67) (pc' := 46) rfl (hb hby d7_67) (by decide) (by decide) ?_
        refine XS.lload X5.here hx rfl (hb hby d7_46) rfl ?_
        refine XS.lconst X5.here hx rfl (hb hby d7_48) ?_
        refine XS.lcmp X5.here hx rfl (hb hby d7_49) rfl ?_
        refine XS.ifYes X5.here hx rfl (pc0 := 50) (pc' := 70) rfl (hb hby d7_50) rfl ((if0 _ _).trans (feq (fun q => absurd ((lw_eq _ _).mp q) (hT hc18 hc50))).2) (by decide) (by decide) ?_
        refine XS.iload X5.here hx rfl (hb hby d7_70) rfl ?_
        refine XS.bipush X5.here hx rfl (hb hby d7_72) ?_
        refine XS.ishl X5.here hx rfl (hb hby d7_74) rfl ?_
        refine XS.lload X5.here hx rfl (hb hby d7_75) rfl ?_
        exact kZ
      obtain ⟨_, _, ⟨T6, L6, k6, n6⟩, -, X6, ⟨Lc6, hQ6, l6, y6, z6⟩, st6⟩ := Jvm.LawKit.callS X5 hx (y := y18) hown (wz hZ hw 122 rfl) (wz hZ hw 123 rfl) (wz hZ hw 115 rfl) (wz hZ hw 124 rfl) (by decide) (backOf (W := 1) (rm18 l Z a0 hw [] (wF ((((f8 p2 (lF (0 : Int32).toNatClampNeg)).toUInt32 >>> ((6 : Int32) &&& 31).toUInt32).toInt32) + (1 : Int32)).toNatClampNeg) h0 n0 Z0 ) hZ (wq hw 124 rfl) (wq hw 115 rfl) (by decide) (by decide)) (g := (mkF m 77 #[sR o0, sI 0, sI p2, sI (f8 p2 (lF (0 : Int32).toNatClampNeg)), sI ((((f8 p2 (lF (0 : Int32).toNatClampNeg)).toUInt32 >>> ((6 : Int32) &&& 31).toUInt32).toInt32) + (1 : Int32)), .val (.long (wF ((((f8 p2 (lF (0 : Int32).toNatClampNeg)).toUInt32 >>> ((6 : Int32) &&& 31).toUInt32).toInt32) + (1 : Int32)).toNatClampNeg)), .second] [(.long (wF ((((f8 p2 (lF (0 : Int32).toNatClampNeg)).toUInt32 >>> ((6 : Int32) &&& 31).toUInt32).toInt32) + (1 : Int32)).toNatClampNeg)), (.int (((((f8 p2 (lF (0 : Int32).toNatClampNeg)).toUInt32 >>> ((6 : Int32) &&& 31).toUInt32).toInt32) + (1 : Int32)) <<< ((6 : Int32) &&& 31)))])) rfl (by rw [hml]; rfl) (argsL := [(.long (wF ((((f8 p2 (lF (0 : Int32).toNatClampNeg)).toUInt32 >>> ((6 : Int32) &&& 31).toUInt32).toInt32) + (1 : Int32)).toNatClampNeg))]) (rest := [(.int (((((f8 p2 (lF (0 : Int32).toNatClampNeg)).toUInt32 >>> ((6 : Int32) &&& 31).toUInt32).toInt32) + (1 : Int32)) <<< ((6 : Int32) &&& 31)))]) (lenOf pd_10 rfl) rfl (leW rfl) (hb hby d7_77) (fun _ _ => ⟨rfl, e5, (by decide : 0 + 0 + 0 ≤ _), (by decide : 0 + 0 + 0 ≤ _)⟩)
      dsimp only [Pt.U, Pt.locs, Pt.cells, Pt.slots] at X6 l6 y6 z6 st6 hQ6
      subst l6 y6 z6
      obtain ⟨rfl, N6q, e6⟩ := hQ6
      have N6 := Fr.app N2 N6q
      refine Go.via st6 ?_
      refine Vi (T6.setTop (mkF m 81 #[sR o0, sI 0, sI p2, sI (f8 p2 (lF (0 : Int32).toNatClampNeg)), sI ((((f8 p2 (lF (0 : Int32).toNatClampNeg)).toUInt32 >>> ((6 : Int32) &&& 31).toUInt32).toInt32) + (1 : Int32)), .val (.long (wF ((((f8 p2 (lF (0 : Int32).toNatClampNeg)).toUInt32 >>> ((6 : Int32) &&& 31).toUInt32).toInt32) + (1 : Int32)).toNatClampNeg)), .second] [(.int ((((((f8 p2 (lF (0 : Int32).toNatClampNeg)).toUInt32 >>> ((6 : Int32) &&& 31).toUInt32).toInt32) + (1 : Int32)) <<< ((6 : Int32) &&& 31)) + (f18 (wF ((((f8 p2 (lF (0 : Int32).toNatClampNeg)).toUInt32 >>> ((6 : Int32) &&& 31).toUInt32).toInt32) + (1 : Int32)).toNatClampNeg))))])) (fun tZ kZ => ?_) ?_
      · refine XS.iadd X6.here hx rfl (hb hby d7_80) rfl ?_
        exact kZ
      refine Go.retI X6 hx Bd.notSynchronized Bd.returns (hb hby d7_81) (by decide) (by decide) ?_
      refine ⟨?_, N6, e6⟩
      show some ((.int ((((((f8 p2 (lF (0 : Int32).toNatClampNeg)).toUInt32 >>> ((6 : Int32) &&& 31).toUInt32).toInt32) + (1 : Int32)) <<< ((6 : Int32) &&& 31)) + (f18 (wF ((((f8 p2 (lF (0 : Int32).toNatClampNeg)).toUInt32 >>> ((6 : Int32) &&& 31).toUInt32).toInt32) + (1 : Int32)).toNatClampNeg)))) : Value) = some (.int (f7 o0 p2 lA lF hA hF bA wA nW wF))
      unfold f7; rw [if_neg hc18, if_pos hc50] <;> rfl
    · refine Vi (T4.setTop (mkF m 70 #[sR o0, sI 0, sI p2, sI (f8 p2 (lF (0 : Int32).toNatClampNeg)), sI (((f8 p2 (lF (0 : Int32).toNatClampNeg)).toUInt32 >>> ((6 : Int32) &&& 31).toUInt32).toInt32), .val (.long ((wF (((f8 p2 (lF (0 : Int32).toNatClampNeg)).toUInt32 >>> ((6 : Int32) &&& 31).toUInt32).toInt32).toNatClampNeg) &&& ((-1 : Int64) <<< ((f8 p2 (lF (0 : Int32).toNatClampNeg)) &&& 0x3f).toInt64))), .second] [])) (fun tZ kZ => ?_) ?_
      · show Steps p.tables e below (T4.setTop (mkF m 50 #[sR o0, sI 0, sI p2, sI (f8 p2 (lF (0 : Int32).toNatClampNeg)), sI (((f8 p2 (lF (0 : Int32).toNatClampNeg)).toUInt32 >>> ((6 : Int32) &&& 31).toUInt32).toInt32), .val (.long ((wF (((f8 p2 (lF (0 : Int32).toNatClampNeg)).toUInt32 >>> ((6 : Int32) &&& 31).toUInt32).toInt32).toNatClampNeg) &&& ((-1 : Int64) <<< ((f8 p2 (lF (0 : Int32).toNatClampNeg)) &&& 0x3f).toInt64))), .second] [(.int (lcmpW ((wF (((f8 p2 (lF (0 : Int32).toNatClampNeg)).toUInt32 >>> ((6 : Int32) &&& 31).toUInt32).toInt32).toNatClampNeg) &&& ((-1 : Int64) <<< ((f8 p2 (lF (0 : Int32).toNatClampNeg)) &&& 0x3f).toInt64)) (0 : Int64)))])) _
        refine XS.ifYes X4.here hx rfl (pc0 := 50) (pc' := 70) rfl (hb hby d7_50) rfl ((if0 _ _).trans (feq (fun q => absurd ((lw_eq _ _).mp q) hc50)).2) (by decide) (by decide) ?_
        exact kZ
      refine Vi (T4.setTop (mkF m 77 #[sR o0, sI 0, sI p2, sI (f8 p2 (lF (0 : Int32).toNatClampNeg)), sI (((f8 p2 (lF (0 : Int32).toNatClampNeg)).toUInt32 >>> ((6 : Int32) &&& 31).toUInt32).toInt32), .val (.long ((wF (((f8 p2 (lF (0 : Int32).toNatClampNeg)).toUInt32 >>> ((6 : Int32) &&& 31).toUInt32).toInt32).toNatClampNeg) &&& ((-1 : Int64) <<< ((f8 p2 (lF (0 : Int32).toNatClampNeg)) &&& 0x3f).toInt64))), .second] [(.long ((wF (((f8 p2 (lF (0 : Int32).toNatClampNeg)).toUInt32 >>> ((6 : Int32) &&& 31).toUInt32).toInt32).toNatClampNeg) &&& ((-1 : Int64) <<< ((f8 p2 (lF (0 : Int32).toNatClampNeg)) &&& 0x3f).toInt64))), (.int ((((f8 p2 (lF (0 : Int32).toNatClampNeg)).toUInt32 >>> ((6 : Int32) &&& 31).toUInt32).toInt32) <<< ((6 : Int32) &&& 31)))])) (fun tZ kZ => ?_) ?_
      · refine XS.iload X4.here hx rfl (hb hby d7_70) rfl ?_
        refine XS.bipush X4.here hx rfl (hb hby d7_72) ?_
        refine XS.ishl X4.here hx rfl (hb hby d7_74) rfl ?_
        refine XS.lload X4.here hx rfl (hb hby d7_75) rfl ?_
        exact kZ
      obtain ⟨_, _, ⟨T7, L7, k7, n7⟩, -, X7, ⟨Lc7, hQ7, l7, y7, z7⟩, st7⟩ := Jvm.LawKit.callS X4 hx (y := y18) hown (wz hZ hw 122 rfl) (wz hZ hw 123 rfl) (wz hZ hw 115 rfl) (wz hZ hw 124 rfl) (by decide) (backOf (W := 1) (rm18 l Z a0 hw [] ((wF (((f8 p2 (lF (0 : Int32).toNatClampNeg)).toUInt32 >>> ((6 : Int32) &&& 31).toUInt32).toInt32).toNatClampNeg) &&& ((-1 : Int64) <<< ((f8 p2 (lF (0 : Int32).toNatClampNeg)) &&& 0x3f).toInt64)) h0 n0 Z0 ) hZ (wq hw 124 rfl) (wq hw 115 rfl) (by decide) (by decide)) (g := (mkF m 77 #[sR o0, sI 0, sI p2, sI (f8 p2 (lF (0 : Int32).toNatClampNeg)), sI (((f8 p2 (lF (0 : Int32).toNatClampNeg)).toUInt32 >>> ((6 : Int32) &&& 31).toUInt32).toInt32), .val (.long ((wF (((f8 p2 (lF (0 : Int32).toNatClampNeg)).toUInt32 >>> ((6 : Int32) &&& 31).toUInt32).toInt32).toNatClampNeg) &&& ((-1 : Int64) <<< ((f8 p2 (lF (0 : Int32).toNatClampNeg)) &&& 0x3f).toInt64))), .second] [(.long ((wF (((f8 p2 (lF (0 : Int32).toNatClampNeg)).toUInt32 >>> ((6 : Int32) &&& 31).toUInt32).toInt32).toNatClampNeg) &&& ((-1 : Int64) <<< ((f8 p2 (lF (0 : Int32).toNatClampNeg)) &&& 0x3f).toInt64))), (.int ((((f8 p2 (lF (0 : Int32).toNatClampNeg)).toUInt32 >>> ((6 : Int32) &&& 31).toUInt32).toInt32) <<< ((6 : Int32) &&& 31)))])) rfl (by rw [hml]; rfl) (argsL := [(.long ((wF (((f8 p2 (lF (0 : Int32).toNatClampNeg)).toUInt32 >>> ((6 : Int32) &&& 31).toUInt32).toInt32).toNatClampNeg) &&& ((-1 : Int64) <<< ((f8 p2 (lF (0 : Int32).toNatClampNeg)) &&& 0x3f).toInt64)))]) (rest := [(.int ((((f8 p2 (lF (0 : Int32).toNatClampNeg)).toUInt32 >>> ((6 : Int32) &&& 31).toUInt32).toInt32) <<< ((6 : Int32) &&& 31)))]) (lenOf pd_10 rfl) rfl (leW rfl) (hb hby d7_77) (fun _ _ => ⟨rfl, e4, (by decide : 0 + 0 + 0 ≤ _), (by decide : 0 + 0 + 0 ≤ _)⟩)
      dsimp only [Pt.U, Pt.locs, Pt.cells, Pt.slots] at X7 l7 y7 z7 st7 hQ7
      subst l7 y7 z7
      obtain ⟨rfl, N7q, e7⟩ := hQ7
      have N7 := Fr.app N2 N7q
      refine Go.via st7 ?_
      refine Vi (T7.setTop (mkF m 81 #[sR o0, sI 0, sI p2, sI (f8 p2 (lF (0 : Int32).toNatClampNeg)), sI (((f8 p2 (lF (0 : Int32).toNatClampNeg)).toUInt32 >>> ((6 : Int32) &&& 31).toUInt32).toInt32), .val (.long ((wF (((f8 p2 (lF (0 : Int32).toNatClampNeg)).toUInt32 >>> ((6 : Int32) &&& 31).toUInt32).toInt32).toNatClampNeg) &&& ((-1 : Int64) <<< ((f8 p2 (lF (0 : Int32).toNatClampNeg)) &&& 0x3f).toInt64))), .second] [(.int (((((f8 p2 (lF (0 : Int32).toNatClampNeg)).toUInt32 >>> ((6 : Int32) &&& 31).toUInt32).toInt32) <<< ((6 : Int32) &&& 31)) + (f18 ((wF (((f8 p2 (lF (0 : Int32).toNatClampNeg)).toUInt32 >>> ((6 : Int32) &&& 31).toUInt32).toInt32).toNatClampNeg) &&& ((-1 : Int64) <<< ((f8 p2 (lF (0 : Int32).toNatClampNeg)) &&& 0x3f).toInt64)))))])) (fun tZ kZ => ?_) ?_
      · refine XS.iadd X7.here hx rfl (hb hby d7_80) rfl ?_
        exact kZ
      refine Go.retI X7 hx Bd.notSynchronized Bd.returns (hb hby d7_81) (by decide) (by decide) ?_
      refine ⟨?_, N7, e7⟩
      show some ((.int (((((f8 p2 (lF (0 : Int32).toNatClampNeg)).toUInt32 >>> ((6 : Int32) &&& 31).toUInt32).toInt32) <<< ((6 : Int32) &&& 31)) + (f18 ((wF (((f8 p2 (lF (0 : Int32).toNatClampNeg)).toUInt32 >>> ((6 : Int32) &&& 31).toUInt32).toInt32).toNatClampNeg) &&& ((-1 : Int64) <<< ((f8 p2 (lF (0 : Int32).toNatClampNeg)) &&& 0x3f).toInt64))))) : Value) = some (.int (f7 o0 p2 lA lF hA hF bA wA nW wF))
      unfold f7; rw [if_neg hc18, if_neg hc50] <;> rfl
theorem d9_0 : decode B9 0 = .ok (.iload_n 2, 1) := by decide +kernel
theorem d9_1 : decode B9 1 = .ok (.aload_n 0, 1) := by decide +kernel
theorem d9_2 : decode B9 2 = .ok (.getfield 42, 3) := by decide +kernel
theorem d9_5 : decode B9 5 = .ok (.iload_n 1, 1) := by decide +kernel
theorem d9_6 : decode B9 6 = .ok (.iaload, 1) := by decide +kernel
theorem d9_7 : decode B9 7 = .ok (.invokestatic 83, 3) := by decide +kernel
theorem d9_10 : decode B9 10 = .ok (.istore_n 3, 1) := by decide +kernel
theorem d9_11 : decode B9 11 = .ok (.iload_n 3, 1) := by decide +kernel
theorem d9_12 : decode B9 12 = .ok (.aload_n 0, 1) := by decide +kernel
theorem d9_13 : decode B9 13 = .ok (.getfield 39, 3) := by decide +kernel
theorem d9_16 : decode B9 16 = .ok (.iload_n 1, 1) := by decide +kernel
theorem d9_17 : decode B9 17 = .ok (.iaload, 1) := by decide +kernel
theorem d9_18 : decode B9 18 = .ok (.if_icmp .ge 5, 3) := by decide +kernel
theorem d9_21 : decode B9 21 = .ok (.iconst (-1), 1) := by decide +kernel
theorem d9_22 : decode B9 22 = .ok (.ireturn, 1) := by decide +kernel
theorem d9_23 : decode B9 23 = .ok (.iload_n 3, 1) := by decide +kernel
theorem d9_24 : decode B9 24 = .ok (.bipush 6, 2) := by decide +kernel
theorem d9_26 : decode B9 26 = .ok (.iushr, 1) := by decide +kernel
theorem d9_27 : decode B9 27 = .ok (.istore 4, 2) := by decide +kernel
theorem d9_29 : decode B9 29 = .ok (.aload_n 0, 1) := by decide +kernel
theorem d9_30 : decode B9 30 = .ok (.getfield 32, 3) := by decide +kernel
theorem d9_33 : decode B9 33 = .ok (.iload_n 1, 1) := by decide +kernel
theorem d9_34 : decode B9 34 = .ok (.aaload, 1) := by decide +kernel
theorem d9_35 : decode B9 35 = .ok (.iload 4, 2) := by decide +kernel
theorem d9_37 : decode B9 37 = .ok (.laload, 1) := by decide +kernel
theorem d9_38 : decode B9 38 = .ok (.ldc2_w 52, 3) := by decide +kernel
theorem d9_41 : decode B9 41 = .ok (.bipush 63, 2) := by decide +kernel
theorem d9_43 : decode B9 43 = .ok (.iload_n 3, 1) := by decide +kernel
theorem d9_44 : decode B9 44 = .ok (.bipush 63, 2) := by decide +kernel
theorem d9_46 : decode B9 46 = .ok (.iand, 1) := by decide +kernel
theorem d9_47 : decode B9 47 = .ok (.isub, 1) := by decide +kernel
theorem d9_48 : decode B9 48 = .ok (.lushr, 1) := by decide +kernel
theorem d9_49 : decode B9 49 = .ok (.land, 1) := by decide +kernel
theorem d9_50 : decode B9 50 = .ok (.lstore 5, 2) := by decide +kernel
theorem d9_52 : decode B9 52 = .ok (.lload 5, 2) := by decide +kernel
theorem d9_54 : decode B9 54 = .ok (.lconst 0, 1) := by decide +kernel
theorem d9_55 : decode B9 55 = .ok (.lcmp, 1) := by decide +kernel
theorem d9_56 : decode B9 56 = .ok (.ifCond .ne 20, 3) := by decide +kernel
theorem d9_59 : decode B9 59 = .ok (.aload_n 0, 1) := by decide +kernel
theorem d9_60 : decode B9 60 = .ok (.getfield 32, 3) := by decide +kernel
theorem d9_63 : decode B9 63 = .ok (.iload_n 1, 1) := by decide +kernel
theorem d9_64 : decode B9 64 = .ok (.aaload, 1) := by decide +kernel
theorem d9_65 : decode B9 65 = .ok (.iinc 4 (-1), 3) := by decide +kernel
theorem d9_68 : decode B9 68 = .ok (.iload 4, 2) := by decide +kernel
theorem d9_70 : decode B9 70 = .ok (.laload, 1) := by decide +kernel
theorem d9_71 : decode B9 71 = .ok (.lstore 5, 2) := by decide +kernel
theorem d9_73 : decode B9 73 = .ok (.goto (-21), 3) := by decide +kernel
theorem d9_76 : decode B9 76 = .ok (.iload 4, 2) := by decide +kernel
theorem d9_78 : decode B9 78 = .ok (.bipush 6, 2) := by decide +kernel
theorem d9_80 : decode B9 80 = .ok (.ishl, 1) := by decide +kernel
theorem d9_81 : decode B9 81 = .ok (.bipush 63, 2) := by decide +kernel
theorem d9_83 : decode B9 83 = .ok (.iadd, 1) := by decide +kernel
theorem d9_84 : decode B9 84 = .ok (.lload 5, 2) := by decide +kernel
theorem d9_86 : decode B9 86 = .ok (.invokestatic 86, 3) := by decide +kernel
theorem d9_89 : decode B9 89 = .ok (.isub, 1) := by decide +kernel
theorem d9_90 : decode B9 90 = .ok (.ireturn, 1) := by decide +kernel
def f9 (o0 : Addr) (p2 : Int32) (lA : Addr) (lF : Nat → Int32) (hA : Addr) (hF : Nat → Int32) (bA : Addr) (wA : Addr) (nW : Nat) (wF : Nat → Int64) : Int32 := (if (f10 p2 (hF (0 : Int32).toNatClampNeg)) < (lF (0 : Int32).toNatClampNeg) then (-1 : Int32) else (if ((wF (((f10 p2 (hF (0 : Int32).toNatClampNeg)).toUInt32 >>> ((6 : Int32) &&& 31).toUInt32).toInt32).toNatClampNeg) &&& (((-1 : Int64).toUInt64 >>> (((63 : Int32) - ((f10 p2 (hF (0 : Int32).toNatClampNeg)) &&& (63 : Int32))) &&& 0x3f).toInt64.toUInt64).toInt64)) = (0 : Int64) then (((((((f10 p2 (hF (0 : Int32).toNatClampNeg)).toUInt32 >>> ((6 : Int32) &&& 31).toUInt32).toInt32) + (-1 : Int32)) <<< ((6 : Int32) &&& 31)) + (63 : Int32)) - (f16 (wF ((((f10 p2 (hF (0 : Int32).toNatClampNeg)).toUInt32 >>> ((6 : Int32) &&& 31).toUInt32).toInt32) + (-1 : Int32)).toNatClampNeg))) else ((((((f10 p2 (hF (0 : Int32).toNatClampNeg)).toUInt32 >>> ((6 : Int32) &&& 31).toUInt32).toInt32) <<< ((6 : Int32) &&& 31)) + (63 : Int32)) - (f16 ((wF (((f10 p2 (hF (0 : Int32).toNatClampNeg)).toUInt32 >>> ((6 : Int32) &&& 31).toUInt32).toInt32).toNatClampNeg) &&& (((-1 : Int64).toUInt64 >>> (((63 : Int32) - ((f10 p2 (hF (0 : Int32).toNatClampNeg)) &&& (63 : Int32))) &&& 0x3f).toInt64.toUInt64).toInt64))))))
def Q9 (o0 : Addr) (p2 : Int32) (lA : Addr) (lF : Nat → Int32) (hA : Addr) (hF : Nat → Int32) (bA : Addr) (wA : Addr) (nW : Nat) (wF : Nat → Int64) (h0 : Heap) (n0 : Nat) (v : Option Value) (h : Heap) (L : List Loc) : Prop := v = some (.int (f9 o0 p2 lA lF hA hF bA wA nW wF)) ∧ Fr n0 L ∧ h = h0
theorem ef_9_aaa (m : MethodId) (x0 : Addr) (x1 : Int32) (x2 : Int32) : entryFrame m #[(.ref x0), (.int x1), (.int x2)] 7 = mkF m 0 #[.val (.ref x0), .val (.int x1), .val (.int x2), .unset, .unset, .unset, .unset] [] := by first | (simp [entryFrame, mkF, argsToLocals, Value.category]; done) | rfl
theorem rm9 (l : Launch) (Z : State) (a0 : Array Value) (hw : HW a0 Z) (ws : List Jvm.Cond) (o0 : Addr) (p2 : Int32) (lA : Addr) (lF : Nat → Int32) (hA : Addr) (hF : Nat → Int32) (bA : Addr) (wA : Addr) (nW : Nat) (wF : Nat → Int64) (h0 : Heap) (n0 : Nat) (Z0 : n0 ≤ h0.size) (ha0 : Exa Z h0 o0 "com/example/whittle/whittle/engine/Domains") (ha1 : Fld Z h0 o0 "com/example/whittle/whittle/engine/Domains" "low" "[I" (.ref lA)) (ha2 : AV Z h0 lA .int 1 (fun k => .int (lF k))) (ha3 : Fld Z h0 o0 "com/example/whittle/whittle/engine/Domains" "high" "[I" (.ref hA)) (ha4 : AV Z h0 hA .int 1 (fun k => .int (hF k))) (ha5 : Fld Z h0 o0 "com/example/whittle/whittle/engine/Domains" "bits" "[[J" (.ref bA)) (ha6 : AV Z h0 bA (.array .long) 1 (fun _ => Value.ref wA)) (ha7 : AV Z h0 wA .long nW (fun k => .long (wF k))) (hB1 : ¬ (f10 p2 (hF (0 : Int32).toNatClampNeg)) < (lF (0 : Int32).toNatClampNeg) → ¬ (((f10 p2 (hF (0 : Int32).toNatClampNeg)).toUInt32 >>> ((6 : Int32) &&& 31).toUInt32).toInt32) < 0 ∧ (((f10 p2 (hF (0 : Int32).toNatClampNeg)).toUInt32 >>> ((6 : Int32) &&& 31).toUInt32).toInt32).toNatClampNeg < nW) (hB2 : ¬ (f10 p2 (hF (0 : Int32).toNatClampNeg)) < (lF (0 : Int32).toNatClampNeg) → ((wF (((f10 p2 (hF (0 : Int32).toNatClampNeg)).toUInt32 >>> ((6 : Int32) &&& 31).toUInt32).toInt32).toNatClampNeg) &&& (((-1 : Int64).toUInt64 >>> (((63 : Int32) - ((f10 p2 (hF (0 : Int32).toNatClampNeg)) &&& (63 : Int32))) &&& 0x3f).toInt64.toUInt64).toInt64)) = (0 : Int64) → ¬ ((((f10 p2 (hF (0 : Int32).toNatClampNeg)).toUInt32 >>> ((6 : Int32) &&& 31).toUInt32).toInt32) + (-1 : Int32)) < 0 ∧ ((((f10 p2 (hF (0 : Int32).toNatClampNeg)).toUInt32 >>> ((6 : Int32) &&& 31).toUInt32).toInt32) + (-1 : Int32)).toNatClampNeg < nW) (hT : ¬ (f10 p2 (hF (0 : Int32).toNatClampNeg)) < (lF (0 : Int32).toNatClampNeg) → ((wF (((f10 p2 (hF (0 : Int32).toNatClampNeg)).toUInt32 >>> ((6 : Int32) &&& 31).toUInt32).toInt32).toNatClampNeg) &&& (((-1 : Int64).toUInt64 >>> (((63 : Int32) - ((f10 p2 (hF (0 : Int32).toNatClampNeg)) &&& (63 : Int32))) &&& 0x3f).toInt64.toUInt64).toInt64)) = (0 : Int64) → ¬ (wF ((((f10 p2 (hF (0 : Int32).toNatClampNeg)).toUInt32 >>> ((6 : Int32) &&& 31).toUInt32).toInt32) + (-1 : Int32)).toNatClampNeg) = (0 : Int64)) :
    MetFree l y9 (head1 (Jvm.Cond.code y9 prog_22_method_8_code 7 (some .int) :: ws) RM_2_0_0_29) (fun a U => a = #[(.ref o0), (.int 0), (.int p2)] ∧ Z.Warmed39 U.vm ∧ U.heap = h0) (fun _ _ _ _ _ => True) (fun _ U o U' => ∃ v L, o = .returned v ∧ Q9 o0 p2 lA lF hA hF bA wA nW wF h0 n0 v U'.heap L ∧ FrameEnd U o U' L RM_2_0_0_29.cells RM_2_0_0_29.slots) := by
  refine MetFree.of_bodySF (plainFor_of_name pn_2) hisR ?_
  intro p e s m args below meth c s₁ Bd hml0 hP hK
  obtain ⟨rfl, hZ, hh⟩ := hP
  have hx := Bd.exec
  have hby := Bd.bytes
  have hml : c.maxLocals = 7 := hml0
  have hown : s.vm.findClass "com/example/whittle/whittle/engine/Domains" = some m.cls := findClass_of_methodNamed Bd.named
  have X0 : Stand p l e RM_2_0_0_29 s m _ below meth c s₁ [] 0 0 := Stand.of_body Bd
  have e0 : s₁.heap = h0 := by rw [← hh, Bd.state]; rfl
  have N0 := Fr.nil n0
  refine Go.into (P := fun oo uu => ∃ v L, oo = .returned v ∧ Q9 o0 p2 lA lF hA hF bA wA nW wF h0 n0 v uu.heap L ∧ FrameEnd s oo uu L RM_2_0_0_29.cells RM_2_0_0_29.slots) (ef_9_aaa m o0 (0 : Int32) p2) ?_
  show Go p e below _ (s₁.setTop (mkF m 0 #[sR o0, sI 0, sI p2, .unset, .unset, .unset, .unset] []))
  refine Vi (s₁.setTop (mkF m 2 #[sR o0, sI 0, sI p2, .unset, .unset, .unset, .unset] [(.ref o0), (.int p2)])) (fun tZ kZ => ?_) ?_
  · refine XS.iloadN X0.here hx rfl (hb hby d9_0) rfl ?_
    refine XS.aloadN X0.here hx rfl (hb hby d9_1) rfl rfl ?_
    exact kZ
  obtain ⟨T1, X1, e1, st1⟩ := getF X0 hx hZ hown (host := "") (Or.inl (wq hw 38 rfl)) Via.refl e0 ha3 (g := (mkF m 2 #[sR o0, sI 0, sI p2, .unset, .unset, .unset, .unset] [(.ref o0), (.int p2)])) rfl rfl (hb hby d9_2)
  refine Go.via st1 ?_
  refine Vi (T1.setTop (mkF m 7 #[sR o0, sI 0, sI p2, .unset, .unset, .unset, .unset] [(.int (hF (0 : Int32).toNatClampNeg)), (.int p2)])) (fun tZ kZ => ?_) ?_
  · refine XS.iloadN X1.here hx rfl (hb hby d9_5) rfl ?_
    refine AV.iaload ha4 X1 hx hZ e1 (j := (0 : Int32)) (by decide) (hb hby d9_6) ?_
    exact kZ
  obtain ⟨_, _, ⟨T2, L2, k2, n2⟩, -, X2, ⟨Lc2, hQ2, l2, y2, z2⟩, st2⟩ := Jvm.LawKit.callS X1 hx (y := y10) hown (wz hZ hw 86 rfl) (wz hZ hw 87 rfl) (wz hZ hw 79 rfl) (wz hZ hw 88 rfl) (by decide) (backOf (W := 0) (rm10 l Z a0 hw [] p2 (hF (0 : Int32).toNatClampNeg) h0 n0 Z0 ) hZ (wq hw 88 rfl) (wq hw 79 rfl) (by decide) (by decide)) (g := (mkF m 7 #[sR o0, sI 0, sI p2, .unset, .unset, .unset, .unset] [(.int (hF (0 : Int32).toNatClampNeg)), (.int p2)])) rfl (by rw [hml]; rfl) (argsL := [(.int p2), (.int (hF (0 : Int32).toNatClampNeg))]) (rest := []) (lenOf pd_5 rfl) rfl (leW rfl) (hb hby d9_7) (fun _ _ => ⟨rfl, e1, (by decide : 0 + 0 ≤ _), (by decide : 0 + 0 ≤ _)⟩)
  dsimp only [Pt.U, Pt.locs, Pt.cells, Pt.slots] at X2 l2 y2 z2 st2 hQ2
  subst l2 y2 z2
  obtain ⟨rfl, N2q, e2⟩ := hQ2
  have N2 := Fr.app N0 N2q
  refine Go.via st2 ?_
  refine Vi (T2.setTop (mkF m 13 #[sR o0, sI 0, sI p2, sI (f10 p2 (hF (0 : Int32).toNatClampNeg)), .unset, .unset, .unset] [(.ref o0), (.int (f10 p2 (hF (0 : Int32).toNatClampNeg)))])) (fun tZ kZ => ?_) ?_
  · refine XS.istoreN X2.here hx rfl (hb hby d9_10) rfl (l' := #[sR o0, sI 0, sI p2, sI (f10 p2 (hF (0 : Int32).toNatClampNeg)), .unset, .unset, .unset]) rfl ?_
    refine XS.iloadN X2.here hx rfl (hb hby d9_11) rfl ?_
    refine XS.aloadN X2.here hx rfl (hb hby d9_12) rfl rfl ?_
    exact kZ
  obtain ⟨T3, X3, e3, st3⟩ := getF X2 hx hZ hown (host := "") (Or.inl (wq hw 36 rfl)) Via.refl e2 ha1 (g := (mkF m 13 #[sR o0, sI 0, sI p2, sI (f10 p2 (hF (0 : Int32).toNatClampNeg)), .unset, .unset, .unset] [(.ref o0), (.int (f10 p2 (hF (0 : Int32).toNatClampNeg)))])) rfl rfl (hb hby d9_13)
  refine Go.via st3 ?_
  refine Vi (T3.setTop (mkF m 18 #[sR o0, sI 0, sI p2, sI (f10 p2 (hF (0 : Int32).toNatClampNeg)), .unset, .unset, .unset] [(.int (lF (0 : Int32).toNatClampNeg)), (.int (f10 p2 (hF (0 : Int32).toNatClampNeg)))])) (fun tZ kZ => ?_) ?_
  · refine XS.iloadN X3.here hx rfl (hb hby d9_16) rfl ?_
    refine AV.iaload ha2 X3 hx hZ e3 (j := (0 : Int32)) (by decide) (hb hby d9_17) ?_
    exact kZ
  by_cases hc18 : (f10 p2 (hF (0 : Int32).toNatClampNeg)) < (lF (0 : Int32).toNatClampNeg)
  · refine Vi (T3.setTop (mkF m 21 #[sR o0, sI 0, sI p2, sI (f10 p2 (hF (0 : Int32).toNatClampNeg)), .unset, .unset, .unset] [])) (fun tZ kZ => ?_) ?_
    · show Steps p.tables e below (T3.setTop (mkF m 18 #[sR o0, sI 0, sI p2, sI (f10 p2 (hF (0 : Int32).toNatClampNeg)), .unset, .unset, .unset] [(.int (lF (0 : Int32).toNatClampNeg)), (.int (f10 p2 (hF (0 : Int32).toNatClampNeg)))])) _
      refine XS.icmpNo X3.here hx rfl (hb hby d9_18) rfl (tlt hc18).2.1 ?_
      exact kZ
    refine Vi (T3.setTop (mkF m 22 #[sR o0, sI 0, sI p2, sI (f10 p2 (hF (0 : Int32).toNatClampNeg)), .unset, .unset, .unset] [(.int (-1))])) (fun tZ kZ => ?_) ?_
    · refine XS.iconst X3.here hx rfl (hb hby d9_21) ?_
      exact kZ
    refine Go.retI X3 hx Bd.notSynchronized Bd.returns (hb hby d9_22) (by decide) (by decide) ?_
    refine ⟨?_, N2, e3⟩
    show some ((.int (-1)) : Value) = some (.int (f9 o0 p2 lA lF hA hF bA wA nW wF))
    unfold f9; rw [if_pos hc18] <;> rfl
  · refine Vi (T3.setTop (mkF m 23 #[sR o0, sI 0, sI p2, sI (f10 p2 (hF (0 : Int32).toNatClampNeg)), .unset, .unset, .unset] [])) (fun tZ kZ => ?_) ?_
    · show Steps p.tables e below (T3.setTop (mkF m 18 #[sR o0, sI 0, sI p2, sI (f10 p2 (hF (0 : Int32).toNatClampNeg)), .unset, .unset, .unset] [(.int (lF (0 : Int32).toNatClampNeg)), (.int (f10 p2 (hF (0 : Int32).toNatClampNeg)))])) _
      refine XS.icmpYes X3.here hx rfl (pc0 := 18) (pc' := 23) rfl (hb hby d9_18) rfl (flt hc18).2.1 (by decide) (by decide) ?_
      exact kZ
    refine Vi (T3.setTop (mkF m 30 #[sR o0, sI 0, sI p2, sI (f10 p2 (hF (0 : Int32).toNatClampNeg)), sI (((f10 p2 (hF (0 : Int32).toNatClampNeg)).toUInt32 >>> ((6 : Int32) &&& 31).toUInt32).toInt32), .unset, .unset] [(.ref o0)])) (fun tZ kZ => ?_) ?_
    · refine XS.iloadN X3.here hx rfl (hb hby d9_23) rfl ?_
      refine XS.bipush X3.here hx rfl (hb hby d9_24) ?_
      refine XS.iushr X3.here hx rfl (hb hby d9_26) rfl ?_
      refine XS.istore X3.here hx rfl (hb hby d9_27) rfl (l' := #[sR o0, sI 0, sI p2, sI (f10 p2 (hF (0 : Int32).toNatClampNeg)), sI (((f10 p2 (hF (0 : Int32).toNatClampNeg)).toUInt32 >>> ((6 : Int32) &&& 31).toUInt32).toInt32), .unset, .unset]) rfl ?_
      refine XS.aloadN X3.here hx rfl (hb hby d9_29) rfl rfl ?_
      exact kZ
    obtain ⟨T4, X4, e4, st4⟩ := getF X3 hx hZ hown (host := "") (Or.inl (wq hw 32 rfl)) Via.refl e3 ha5 (g := (mkF m 30 #[sR o0, sI 0, sI p2, sI (f10 p2 (hF (0 : Int32).toNatClampNeg)), sI (((f10 p2 (hF (0 : Int32).toNatClampNeg)).toUInt32 >>> ((6 : Int32) &&& 31).toUInt32).toInt32), .unset, .unset] [(.ref o0)])) rfl rfl (hb hby d9_30)
    refine Go.via st4 ?_
    refine Vi (T4.setTop (mkF m 56 #[sR o0, sI 0, sI p2, sI (f10 p2 (hF (0 : Int32).toNatClampNeg)), sI (((f10 p2 (hF (0 : Int32).toNatClampNeg)).toUInt32 >>> ((6 : Int32) &&& 31).toUInt32).toInt32), .val (.long ((wF (((f10 p2 (hF (0 : Int32).toNatClampNeg)).toUInt32 >>> ((6 : Int32) &&& 31).toUInt32).toInt32).toNatClampNeg) &&& (((-1 : Int64).toUInt64 >>> (((63 : Int32) - ((f10 p2 (hF (0 : Int32).toNatClampNeg)) &&& (63 : Int32))) &&& 0x3f).toInt64.toUInt64).toInt64))), .second] [(.int (lcmpW ((wF (((f10 p2 (hF (0 : Int32).toNatClampNeg)).toUInt32 >>> ((6 : Int32) &&& 31).toUInt32).toInt32).toNatClampNeg) &&& (((-1 : Int64).toUInt64 >>> (((63 : Int32) - ((f10 p2 (hF (0 : Int32).toNatClampNeg)) &&& (63 : Int32))) &&& 0x3f).toInt64.toUInt64).toInt64)) (0 : Int64)))])) (fun tZ kZ => ?_) ?_
    · refine XS.iloadN X4.here hx rfl (hb hby d9_33) rfl ?_
      refine AV.aaload ha6 rfl X4 hx hZ e4 (j := (0 : Int32)) (by decide) (hb hby d9_34) ?_
      refine XS.iload X4.here hx rfl (hb hby d9_35) rfl ?_
      refine AV.laload ha7 X4 hx hZ e4 (j := (((f10 p2 (hF (0 : Int32).toNatClampNeg)).toUInt32 >>> ((6 : Int32) &&& 31).toUInt32).toInt32)) (hB1 hc18) (hb hby d9_37) ?_
      refine X4.ldc2Long hx hown (wz hZ hw 51 rfl) (g := (mkF m 38 #[sR o0, sI 0, sI p2, sI (f10 p2 (hF (0 : Int32).toNatClampNeg)), sI (((f10 p2 (hF (0 : Int32).toNatClampNeg)).toUInt32 >>> ((6 : Int32) &&& 31).toUInt32).toInt32), .unset, .unset] [(.long (wF (((f10 p2 (hF (0 : Int32).toNatClampNeg)).toUInt32 >>> ((6 : Int32) &&& 31).toUInt32).toInt32).toNatClampNeg))])) rfl (hb hby d9_38) _ ?_
      refine XS.bipush X4.here hx rfl (hb hby d9_41) ?_
      refine XS.iloadN X4.here hx rfl (hb hby d9_43) rfl ?_
      refine XS.bipush X4.here hx rfl (hb hby d9_44) ?_
      refine XS.iand X4.here hx rfl (hb hby d9_46) rfl ?_
      refine XS.isub X4.here hx rfl (hb hby d9_47) rfl ?_
      refine XS.lushr X4.here hx rfl (hb hby d9_48) rfl ?_
      refine XS.land X4.here hx rfl (hb hby d9_49) rfl ?_
      refine XS.lstore X4.here hx rfl (hb hby d9_50) rfl (l' := #[sR o0, sI 0, sI p2, sI (f10 p2 (hF (0 : Int32).toNatClampNeg)), sI (((f10 p2 (hF (0 : Int32).toNatClampNeg)).toUInt32 >>> ((6 : Int32) &&& 31).toUInt32).toInt32), .val (.long ((wF (((f10 p2 (hF (0 : Int32).toNatClampNeg)).toUInt32 >>> ((6 : Int32) &&& 31).toUInt32).toInt32).toNatClampNeg) &&& (((-1 : Int64).toUInt64 >>> (((63 : Int32) - ((f10 p2 (hF (0 : Int32).toNatClampNeg)) &&& (63 : Int32))) &&& 0x3f).toInt64.toUInt64).toInt64))), .second]) rfl ?_
      refine XS.lload X4.here hx rfl (hb hby d9_52) rfl ?_
      refine XS.lconst X4.here hx rfl (hb hby d9_54) ?_
      refine XS.lcmp X4.here hx rfl (hb hby d9_55) rfl ?_
      exact kZ
    by_cases hc56 : ((wF (((f10 p2 (hF (0 : Int32).toNatClampNeg)).toUInt32 >>> ((6 : Int32) &&& 31).toUInt32).toInt32).toNatClampNeg) &&& (((-1 : Int64).toUInt64 >>> (((63 : Int32) - ((f10 p2 (hF (0 : Int32).toNatClampNeg)) &&& (63 : Int32))) &&& 0x3f).toInt64.toUInt64).toInt64)) = (0 : Int64)
    · refine Vi (T4.setTop (mkF m 59 #[sR o0, sI 0, sI p2, sI (f10 p2 (hF (0 : Int32).toNatClampNeg)), sI (((f10 p2 (hF (0 : Int32).toNatClampNeg)).toUInt32 >>> ((6 : Int32) &&& 31).toUInt32).toInt32), .val (.long ((wF (((f10 p2 (hF (0 : Int32).toNatClampNeg)).toUInt32 >>> ((6 : Int32) &&& 31).toUInt32).toInt32).toNatClampNeg) &&& (((-1 : Int64).toUInt64 >>> (((63 : Int32) - ((f10 p2 (hF (0 : Int32).toNatClampNeg)) &&& (63 : Int32))) &&& 0x3f).toInt64.toUInt64).toInt64))), .second] [])) (fun tZ kZ => ?_) ?_
      · show Steps p.tables e below (T4.setTop (mkF m 56 #[sR o0, sI 0, sI p2, sI (f10 p2 (hF (0 : Int32).toNatClampNeg)), sI (((f10 p2 (hF (0 : Int32).toNatClampNeg)).toUInt32 >>> ((6 : Int32) &&& 31).toUInt32).toInt32), .val (.long ((wF (((f10 p2 (hF (0 : Int32).toNatClampNeg)).toUInt32 >>> ((6 : Int32) &&& 31).toUInt32).toInt32).toNatClampNeg) &&& (((-1 : Int64).toUInt64 >>> (((63 : Int32) - ((f10 p2 (hF (0 : Int32).toNatClampNeg)) &&& (63 : Int32))) &&& 0x3f).toInt64.toUInt64).toInt64))), .second] [(.int (lcmpW ((wF (((f10 p2 (hF (0 : Int32).toNatClampNeg)).toUInt32 >>> ((6 : Int32) &&& 31).toUInt32).toInt32).toNatClampNeg) &&& (((-1 : Int64).toUInt64 >>> (((63 : Int32) - ((f10 p2 (hF (0 : Int32).toNatClampNeg)) &&& (63 : Int32))) &&& 0x3f).toInt64.toUInt64).toInt64)) (0 : Int64)))])) _
        refine XS.ifNo X4.here hx rfl (hb hby d9_56) rfl ((if0 _ _).trans (teq ((lw_eq _ _).mpr hc56)).2) ?_
        exact kZ
      refine Vi (T4.setTop (mkF m 60 #[sR o0, sI 0, sI p2, sI (f10 p2 (hF (0 : Int32).toNatClampNeg)), sI (((f10 p2 (hF (0 : Int32).toNatClampNeg)).toUInt32 >>> ((6 : Int32) &&& 31).toUInt32).toInt32), .val (.long ((wF (((f10 p2 (hF (0 : Int32).toNatClampNeg)).toUInt32 >>> ((6 : Int32) &&& 31).toUInt32).toInt32).toNatClampNeg) &&& (((-1 : Int64).toUInt64 >>> (((63 : Int32) - ((f10 p2 (hF (0 : Int32).toNatClampNeg)) &&& (63 : Int32))) &&& 0x3f).toInt64.toUInt64).toInt64))), .second] [(.ref o0)])) (fun tZ kZ => ?_) ?_
      · refine XS.aloadN X4.here hx rfl (hb hby d9_59) rfl rfl ?_
        exact kZ
      obtain ⟨T5, X5, e5, st5⟩ := getF X4 hx hZ hown (host := "") (Or.inl (wq hw 32 rfl)) Via.refl e4 ha5 (g := (mkF m 60 #[sR o0, sI 0, sI p2, sI (f10 p2 (hF (0 : Int32).toNatClampNeg)), sI (((f10 p2 (hF (0 : Int32).toNatClampNeg)).toUInt32 >>> ((6 : Int32) &&& 31).toUInt32).toInt32), .val (.long ((wF (((f10 p2 (hF (0 : Int32).toNatClampNeg)).toUInt32 >>> ((6 : Int32) &&& 31).toUInt32).toInt32).toNatClampNeg) &&& (((-1 : Int64).toUInt64 >>> (((63 : Int32) - ((f10 p2 (hF (0 : Int32).toNatClampNeg)) &&& (63 : Int32))) &&& 0x3f).toInt64.toUInt64).toInt64))), .second] [(.ref o0)])) rfl rfl (hb hby d9_60)
      refine Go.via st5 ?_
      refine Vi (T5.setTop (mkF m 86 #[sR o0, sI 0, sI p2, sI (f10 p2 (hF (0 : Int32).toNatClampNeg)), sI ((((f10 p2 (hF (0 : Int32).toNatClampNeg)).toUInt32 >>> ((6 : Int32) &&& 31).toUInt32).toInt32) + (-1 : Int32)), .val (.long (wF ((((f10 p2 (hF (0 : Int32).toNatClampNeg)).toUInt32 >>> ((6 : Int32) &&& 31).toUInt32).toInt32) + (-1 : Int32)).toNatClampNeg)), .second] [(.long (wF ((((f10 p2 (hF (0 : Int32).toNatClampNeg)).toUInt32 >>> ((6 : Int32) &&& 31).toUInt32).toInt32) + (-1 : Int32)).toNatClampNeg)), (.int ((((((f10 p2 (hF (0 : Int32).toNatClampNeg)).toUInt32 >>> ((6 : Int32) &&& 31).toUInt32).toInt32) + (-1 : Int32)) <<< ((6 : Int32) &&& 31)) + (63 : Int32)))])) (fun tZ kZ => ?_) ?_
      · refine XS.iloadN X5.here hx rfl (hb hby d9_63) rfl ?_
        refine AV.aaload ha6 rfl X5 hx hZ e5 (j := (0 : Int32)) (by decide) (hb hby d9_64) ?_
        refine XS.iinc X5.here hx rfl (hb hby d9_65) rfl (l' := #[sR o0, sI 0, sI p2, sI (f10 p2 (hF (0 : Int32).toNatClampNeg)), sI ((((f10 p2 (hF (0 : Int32).toNatClampNeg)).toUInt32 >>> ((6 : Int32) &&& 31).toUInt32).toInt32) + (-1 : Int32)), .val (.long ((wF (((f10 p2 (hF (0 : Int32).toNatClampNeg)).toUInt32 >>> ((6 : Int32) &&& 31).toUInt32).toInt32).toNatClampNeg) &&& (((-1 : Int64).toUInt64 >>> (((63 : Int32) - ((f10 p2 (hF (0 : Int32).toNatClampNeg)) &&& (63 : Int32))) &&& 0x3f).toInt64.toUInt64).toInt64))), .second]) rfl ?_
        refine XS.iload X5.here hx rfl (hb hby d9_68) rfl ?_
        refine AV.laload ha7 X5 hx hZ e5 (j := ((((f10 p2 (hF (0 : Int32).toNatClampNeg)).toUInt32 >>> ((6 : Int32) &&& 31).toUInt32).toInt32) + (-1 : Int32))) (hB2 hc18 hc56) (hb hby d9_70) ?_
        refine XS.lstore X5.here hx rfl (hb hby d9_71) rfl (l' := #[sR o0, sI 0, sI p2, sI (f10 p2 (hF (0 : Int32).toNatClampNeg)), sI ((((f10 p2 (hF (0 : Int32).toNatClampNeg)).toUInt32 >>> ((6 : Int32) &&& 31).toUInt32).toInt32) + (-1 : Int32)), .val (.long (wF ((((f10 p2 (hF (0 : Int32).toNatClampNeg)).toUInt32 >>> ((6 : Int32) &&& 31).toUInt32).toInt32) + (-1 : Int32)).toNatClampNeg)), .second]) rfl ?_
        refine XS.goto X5.here hx rfl (pc0 := 73) (pc' := 52) rfl (hb hby d9_73) (by decide) (by decide) ?_
        refine XS.lload X5.here hx rfl (hb hby d9_52) rfl ?_
        refine XS.lconst X5.here hx rfl (hb hby d9_54) ?_
        refine XS.lcmp X5.here hx rfl (hb hby d9_55) rfl ?_
        refine XS.ifYes X5.here hx rfl (pc0 := 56) (pc' := 76) rfl (hb hby d9_56) rfl ((if0 _ _).trans (feq (fun q => absurd ((lw_eq _ _).mp q) (hT hc18 hc56))).2) (by decide) (by decide) ?_
        refine XS.iload X5.here hx rfl (hb hby d9_76) rfl ?_
        refine XS.bipush X5.here hx rfl (hb hby d9_78) ?_
        refine XS.ishl X5.here hx rfl (hb hby d9_80) rfl ?_
        refine XS.bipush X5.here hx rfl (hb hby d9_81) ?_
        refine XS.iadd X5.here hx rfl (hb hby d9_83) rfl ?_
        refine XS.lload X5.here hx rfl (hb hby d9_84) rfl ?_
        exact kZ
      obtain ⟨_, _, ⟨T6, L6, k6, n6⟩, -, X6, ⟨Lc6, hQ6, l6, y6, z6⟩, st6⟩ := Jvm.LawKit.callS X5 hx (y := y16) hown (wz hZ hw 113 rfl) (wz hZ hw 114 rfl) (wz hZ hw 115 rfl) (wz hZ hw 116 rfl) (by decide) (backOf (W := 1) (rm16 l Z a0 hw [] (wF ((((f10 p2 (hF (0 : Int32).toNatClampNeg)).toUInt32 >>> ((6 : Int32) &&& 31).toUInt32).toInt32) + (-1 : Int32)).toNatClampNeg) h0 n0 Z0 ) hZ (wq hw 116 rfl) (wq hw 115 rfl) (by decide) (by decide)) (g := (mkF m 86 #[sR o0, sI 0, sI p2, sI (f10 p2 (hF (0 : Int32).toNatClampNeg)), sI ((((f10 p2 (hF (0 : Int32).toNatClampNeg)).toUInt32 >>> ((6 : Int32) &&& 31).toUInt32).toInt32) + (-1 : Int32)), .val (.long (wF ((((f10 p2 (hF (0 : Int32).toNatClampNeg)).toUInt32 >>> ((6 : Int32) &&& 31).toUInt32).toInt32) + (-1 : Int32)).toNatClampNeg)), .second] [(.long (wF ((((f10 p2 (hF (0 : Int32).toNatClampNeg)).toUInt32 >>> ((6 : Int32) &&& 31).toUInt32).toInt32) + (-1 : Int32)).toNatClampNeg)), (.int ((((((f10 p2 (hF (0 : Int32).toNatClampNeg)).toUInt32 >>> ((6 : Int32) &&& 31).toUInt32).toInt32) + (-1 : Int32)) <<< ((6 : Int32) &&& 31)) + (63 : Int32)))])) rfl (by rw [hml]; rfl) (argsL := [(.long (wF ((((f10 p2 (hF (0 : Int32).toNatClampNeg)).toUInt32 >>> ((6 : Int32) &&& 31).toUInt32).toInt32) + (-1 : Int32)).toNatClampNeg))]) (rest := [(.int ((((((f10 p2 (hF (0 : Int32).toNatClampNeg)).toUInt32 >>> ((6 : Int32) &&& 31).toUInt32).toInt32) + (-1 : Int32)) <<< ((6 : Int32) &&& 31)) + (63 : Int32)))]) (lenOf pd_10 rfl) rfl (leW rfl) (hb hby d9_86) (fun _ _ => ⟨rfl, e5, (by decide : 0 + 0 + 0 ≤ _), (by decide : 0 + 0 + 0 ≤ _)⟩)
      dsimp only [Pt.U, Pt.locs, Pt.cells, Pt.slots] at X6 l6 y6 z6 st6 hQ6
      subst l6 y6 z6
      obtain ⟨rfl, N6q, e6⟩ := hQ6
      have N6 := Fr.app N2 N6q
      refine Go.via st6 ?_
      refine Vi (T6.setTop (mkF m 90 #[sR o0, sI 0, sI p2, sI (f10 p2 (hF (0 : Int32).toNatClampNeg)), sI ((((f10 p2 (hF (0 : Int32).toNatClampNeg)).toUInt32 >>> ((6 : Int32) &&& 31).toUInt32).toInt32) + (-1 : Int32)), .val (.long (wF ((((f10 p2 (hF (0 : Int32).toNatClampNeg)).toUInt32 >>> ((6 : Int32) &&& 31).toUInt32).toInt32) + (-1 : Int32)).toNatClampNeg)), .second] [(.int (((((((f10 p2 (hF (0 : Int32).toNatClampNeg)).toUInt32 >>> ((6 : Int32) &&& 31).toUInt32).toInt32) + (-1 : Int32)) <<< ((6 : Int32) &&& 31)) + (63 : Int32)) - (f16 (wF ((((f10 p2 (hF (0 : Int32).toNatClampNeg)).toUInt32 >>> ((6 : Int32) &&& 31).toUInt32).toInt32) + (-1 : Int32)).toNatClampNeg))))])) (fun tZ kZ => ?_) ?_
      · refine XS.isub X6.here hx rfl (hb hby d9_89) rfl ?_
        exact kZ
      refine Go.retI X6 hx Bd.notSynchronized Bd.returns (hb hby d9_90) (by decide) (by decide) ?_
      refine ⟨?_, N6, e6⟩
      show some ((.int (((((((f10 p2 (hF (0 : Int32).toNatClampNeg)).toUInt32 >>> ((6 : Int32) &&& 31).toUInt32).toInt32) + (-1 : Int32)) <<< ((6 : Int32) &&& 31)) + (63 : Int32)) - (f16 (wF ((((f10 p2 (hF (0 : Int32).toNatClampNeg)).toUInt32 >>> ((6 : Int32) &&& 31).toUInt32).toInt32) + (-1 : Int32)).toNatClampNeg)))) : Value) = some (.int (f9 o0 p2 lA lF hA hF bA wA nW wF))
      unfold f9; rw [if_neg hc18, if_pos hc56] <;> rfl
    · refine Vi (T4.setTop (mkF m 76 #[sR o0, sI 0, sI p2, sI (f10 p2 (hF (0 : Int32).toNatClampNeg)), sI (((f10 p2 (hF (0 : Int32).toNatClampNeg)).toUInt32 >>> ((6 : Int32) &&& 31).toUInt32).toInt32), .val (.long ((wF (((f10 p2 (hF (0 : Int32).toNatClampNeg)).toUInt32 >>> ((6 : Int32) &&& 31).toUInt32).toInt32).toNatClampNeg) &&& (((-1 : Int64).toUInt64 >>> (((63 : Int32) - ((f10 p2 (hF (0 : Int32).toNatClampNeg)) &&& (63 : Int32))) &&& 0x3f).toInt64.toUInt64).toInt64))), .second] [])) (fun tZ kZ => ?_) ?_
      · show Steps p.tables e below (T4.setTop (mkF m 56 #[sR o0, sI 0, sI p2, sI (f10 p2 (hF (0 : Int32).toNatClampNeg)), sI (((f10 p2 (hF (0 : Int32).toNatClampNeg)).toUInt32 >>> ((6 : Int32) &&& 31).toUInt32).toInt32), .val (.long ((wF (((f10 p2 (hF (0 : Int32).toNatClampNeg)).toUInt32 >>> ((6 : Int32) &&& 31).toUInt32).toInt32).toNatClampNeg) &&& (((-1 : Int64).toUInt64 >>> (((63 : Int32) - ((f10 p2 (hF (0 : Int32).toNatClampNeg)) &&& (63 : Int32))) &&& 0x3f).toInt64.toUInt64).toInt64))), .second] [(.int (lcmpW ((wF (((f10 p2 (hF (0 : Int32).toNatClampNeg)).toUInt32 >>> ((6 : Int32) &&& 31).toUInt32).toInt32).toNatClampNeg) &&& (((-1 : Int64).toUInt64 >>> (((63 : Int32) - ((f10 p2 (hF (0 : Int32).toNatClampNeg)) &&& (63 : Int32))) &&& 0x3f).toInt64.toUInt64).toInt64)) (0 : Int64)))])) _
        refine XS.ifYes X4.here hx rfl (pc0 := 56) (pc' := 76) rfl (hb hby d9_56) rfl ((if0 _ _).trans (feq (fun q => absurd ((lw_eq _ _).mp q) hc56)).2) (by decide) (by decide) ?_
        exact kZ
      refine Vi (T4.setTop (mkF m 86 #[sR o0, sI 0, sI p2, sI (f10 p2 (hF (0 : Int32).toNatClampNeg)), sI (((f10 p2 (hF (0 : Int32).toNatClampNeg)).toUInt32 >>> ((6 : Int32) &&& 31).toUInt32).toInt32), .val (.long ((wF (((f10 p2 (hF (0 : Int32).toNatClampNeg)).toUInt32 >>> ((6 : Int32) &&& 31).toUInt32).toInt32).toNatClampNeg) &&& (((-1 : Int64).toUInt64 >>> (((63 : Int32) - ((f10 p2 (hF (0 : Int32).toNatClampNeg)) &&& (63 : Int32))) &&& 0x3f).toInt64.toUInt64).toInt64))), .second] [(.long ((wF (((f10 p2 (hF (0 : Int32).toNatClampNeg)).toUInt32 >>> ((6 : Int32) &&& 31).toUInt32).toInt32).toNatClampNeg) &&& (((-1 : Int64).toUInt64 >>> (((63 : Int32) - ((f10 p2 (hF (0 : Int32).toNatClampNeg)) &&& (63 : Int32))) &&& 0x3f).toInt64.toUInt64).toInt64))), (.int (((((f10 p2 (hF (0 : Int32).toNatClampNeg)).toUInt32 >>> ((6 : Int32) &&& 31).toUInt32).toInt32) <<< ((6 : Int32) &&& 31)) + (63 : Int32)))])) (fun tZ kZ => ?_) ?_
      · refine XS.iload X4.here hx rfl (hb hby d9_76) rfl ?_
        refine XS.bipush X4.here hx rfl (hb hby d9_78) ?_
        refine XS.ishl X4.here hx rfl (hb hby d9_80) rfl ?_
        refine XS.bipush X4.here hx rfl (hb hby d9_81) ?_
        refine XS.iadd X4.here hx rfl (hb hby d9_83) rfl ?_
        refine XS.lload X4.here hx rfl (hb hby d9_84) rfl ?_
        exact kZ
      obtain ⟨_, _, ⟨T7, L7, k7, n7⟩, -, X7, ⟨Lc7, hQ7, l7, y7, z7⟩, st7⟩ := Jvm.LawKit.callS X4 hx (y := y16) hown (wz hZ hw 113 rfl) (wz hZ hw 114 rfl) (wz hZ hw 115 rfl) (wz hZ hw 116 rfl) (by decide) (backOf (W := 1) (rm16 l Z a0 hw [] ((wF (((f10 p2 (hF (0 : Int32).toNatClampNeg)).toUInt32 >>> ((6 : Int32) &&& 31).toUInt32).toInt32).toNatClampNeg) &&& (((-1 : Int64).toUInt64 >>> (((63 : Int32) - ((f10 p2 (hF (0 : Int32).toNatClampNeg)) &&& (63 : Int32))) &&& 0x3f).toInt64.toUInt64).toInt64)) h0 n0 Z0 ) hZ (wq hw 116 rfl) (wq hw 115 rfl) (by decide) (by decide)) (g := (mkF m 86 #[sR o0, sI 0, sI p2, sI (f10 p2 (hF (0 : Int32).toNatClampNeg)), sI (((f10 p2 (hF (0 : Int32).toNatClampNeg)).toUInt32 >>> ((6 : Int32) &&& 31).toUInt32).toInt32), .val (.long ((wF (((f10 p2 (hF (0 : Int32).toNatClampNeg)).toUInt32 >>> ((6 : Int32) &&& 31).toUInt32).toInt32).toNatClampNeg) &&& (((-1 : Int64).toUInt64 >>> (((63 : Int32) - ((f10 p2 (hF (0 : Int32).toNatClampNeg)) &&& (63 : Int32))) &&& 0x3f).toInt64.toUInt64).toInt64))), .second] [(.long ((wF (((f10 p2 (hF (0 : Int32).toNatClampNeg)).toUInt32 >>> ((6 : Int32) &&& 31).toUInt32).toInt32).toNatClampNeg) &&& (((-1 : Int64).toUInt64 >>> (((63 : Int32) - ((f10 p2 (hF (0 : Int32).toNatClampNeg)) &&& (63 : Int32))) &&& 0x3f).toInt64.toUInt64).toInt64))), (.int (((((f10 p2 (hF (0 : Int32).toNatClampNeg)).toUInt32 >>> ((6 : Int32) &&& 31).toUInt32).toInt32) <<< ((6 : Int32) &&& 31)) + (63 : Int32)))])) rfl (by rw [hml]; rfl) (argsL := [(.long ((wF (((f10 p2 (hF (0 : Int32).toNatClampNeg)).toUInt32 >>> ((6 : Int32) &&& 31).toUInt32).toInt32).toNatClampNeg) &&& (((-1 : Int64).toUInt64 >>> (((63 : Int32) - ((f10 p2 (hF (0 : Int32).toNatClampNeg)) &&& (63 : Int32))) &&& 0x3f).toInt64.toUInt64).toInt64)))]) (rest := [(.int (((((f10 p2 (hF (0 : Int32).toNatClampNeg)).toUInt32 >>> ((6 : Int32) &&& 31).toUInt32).toInt32) <<< ((6 : Int32) &&& 31)) + (63 : Int32)))]) (lenOf pd_10 rfl) rfl (leW rfl) (hb hby d9_86) (fun _ _ => ⟨rfl, e4, (by decide : 0 + 0 + 0 ≤ _), (by decide : 0 + 0 + 0 ≤ _)⟩)
      dsimp only [Pt.U, Pt.locs, Pt.cells, Pt.slots] at X7 l7 y7 z7 st7 hQ7
      subst l7 y7 z7
      obtain ⟨rfl, N7q, e7⟩ := hQ7
      have N7 := Fr.app N2 N7q
      refine Go.via st7 ?_
      refine Vi (T7.setTop (mkF m 90 #[sR o0, sI 0, sI p2, sI (f10 p2 (hF (0 : Int32).toNatClampNeg)), sI (((f10 p2 (hF (0 : Int32).toNatClampNeg)).toUInt32 >>> ((6 : Int32) &&& 31).toUInt32).toInt32), .val (.long ((wF (((f10 p2 (hF (0 : Int32).toNatClampNeg)).toUInt32 >>> ((6 : Int32) &&& 31).toUInt32).toInt32).toNatClampNeg) &&& (((-1 : Int64).toUInt64 >>> (((63 : Int32) - ((f10 p2 (hF (0 : Int32).toNatClampNeg)) &&& (63 : Int32))) &&& 0x3f).toInt64.toUInt64).toInt64))), .second] [(.int ((((((f10 p2 (hF (0 : Int32).toNatClampNeg)).toUInt32 >>> ((6 : Int32) &&& 31).toUInt32).toInt32) <<< ((6 : Int32) &&& 31)) + (63 : Int32)) - (f16 ((wF (((f10 p2 (hF (0 : Int32).toNatClampNeg)).toUInt32 >>> ((6 : Int32) &&& 31).toUInt32).toInt32).toNatClampNeg) &&& (((-1 : Int64).toUInt64 >>> (((63 : Int32) - ((f10 p2 (hF (0 : Int32).toNatClampNeg)) &&& (63 : Int32))) &&& 0x3f).toInt64.toUInt64).toInt64)))))])) (fun tZ kZ => ?_) ?_
      · refine XS.isub X7.here hx rfl (hb hby d9_89) rfl ?_
        exact kZ
      refine Go.retI X7 hx Bd.notSynchronized Bd.returns (hb hby d9_90) (by decide) (by decide) ?_
      refine ⟨?_, N7, e7⟩
      show some ((.int ((((((f10 p2 (hF (0 : Int32).toNatClampNeg)).toUInt32 >>> ((6 : Int32) &&& 31).toUInt32).toInt32) <<< ((6 : Int32) &&& 31)) + (63 : Int32)) - (f16 ((wF (((f10 p2 (hF (0 : Int32).toNatClampNeg)).toUInt32 >>> ((6 : Int32) &&& 31).toUInt32).toInt32).toNatClampNeg) &&& (((-1 : Int64).toUInt64 >>> (((63 : Int32) - ((f10 p2 (hF (0 : Int32).toNatClampNeg)) &&& (63 : Int32))) &&& 0x3f).toInt64.toUInt64).toInt64))))) : Value) = some (.int (f9 o0 p2 lA lF hA hF bA wA nW wF))
      unfold f9; rw [if_neg hc18, if_neg hc56] <;> rfl
/-- a word full but for bit h (h < 64) -/
def own_m (h : Nat) : Int64 := if h < 64 then (-1 : Int64) &&& (((1 : Int64) <<< ((Int32.ofNat h) &&& 0x3f).toInt64) ^^^ (-1 : Int64)) else -1
def own_hi (s : Int32) : Int64 := (-1 : Int64) <<< (s &&& 0x3f).toInt64
def own_lo (s : Int32) : Int64 := (((-1 : Int64).toUInt64 >>> (((63 : Int32) - (s &&& (63 : Int32))) &&& 0x3f).toInt64.toUInt64).toInt64)
theorem own_ntz : ∀ (s : Fin 64) (h : Fin 65), (own_m h &&& own_hi (Int32.ofNat s) = 0 → s.val = 63 ∧ h.val = 63) ∧ (¬ own_m h &&& own_hi (Int32.ofNat s) = 0 → f18 (own_m h &&& own_hi (Int32.ofNat s)) = Int32.ofNat (if s.val = h.val then s + 1 else s)) := by decide +kernel
theorem own_nlz : ∀ (s : Fin 64) (h : Fin 65), (own_m h &&& own_lo (Int32.ofNat s) = 0 → s.val = 0 ∧ h.val = 0) ∧ (¬ own_m h &&& own_lo (Int32.ofNat s) = 0 → f16 (own_m h &&& own_lo (Int32.ofNat s)) = Int32.ofNat (if s.val = h.val then 64 - s else 63 - s)) := by decide +kernel

abbrev own_J (s : Int32) : Int32 := ((s.toUInt32 >>> ((6 : Int32) &&& 31).toUInt32).toInt32)
/-- the words, full but for bit g (512: no hole) -/
def own_W (g i : Nat) : Int64 := if i = g / 64 then own_m (g % 64) else -1
/-- what holds of the words and bounds -/
def own_I0 (lo hi : Int32) (w : Nat → Int64) (nW g : Nat) : Prop := ¬ lo < 0 ∧ hi < 511 ∧ hi.toInt < 64 * nW ∧ nW ≤ 8 ∧ ∀ i, i < nW → w i = own_W g i
def own_I (lo hi : Int32) (w : Nat → Int64) (nW g : Nat) : Prop := own_I0 lo hi w nW g ∧ (g = 512 ∨ lo.toInt < g ∧ (g : Int) < hi.toInt) ∧ lo.toInt ≤ hi.toInt + 1
section
variable {lo hi : Int32} {w : Nat → Int64} {nW g : Nat}
theorem own_I0.l0 (I : own_I0 lo hi w nW g) : ¬ lo < 0 := I.1
theorem own_I0.h5 (I : own_I0 lo hi w nW g) : hi < 511 := I.2.1
theorem own_I0.hn (I : own_I0 lo hi w nW g) : hi.toInt < 64 * nW := I.2.2.1
theorem own_I0.h8 (I : own_I0 lo hi w nW g) : nW ≤ 8 := I.2.2.2.1
theorem own_I0.hw (I : own_I0 lo hi w nW g) : ∀ i, i < nW → w i = own_W g i := I.2.2.2.2
theorem own_I.toown_I0 (I : own_I lo hi w nW g) : own_I0 lo hi w nW g := I.1
theorem own_I.l0 (I : own_I lo hi w nW g) : ¬ lo < 0 := I.1.l0
theorem own_I.h5 (I : own_I lo hi w nW g) : hi < 511 := I.1.h5
theorem own_I.hn (I : own_I lo hi w nW g) : hi.toInt < 64 * nW := I.1.hn
theorem own_I.h8 (I : own_I lo hi w nW g) : nW ≤ 8 := I.1.h8
theorem own_I.hw (I : own_I lo hi w nW g) : ∀ i, i < nW → w i = own_W g i := I.1.hw
theorem own_I.hg (I : own_I lo hi w nW g) : g = 512 ∨ lo.toInt < g ∧ (g : Int) < hi.toInt := I.2.1
theorem own_I.lh (I : own_I lo hi w nW g) : lo.toInt ≤ hi.toInt + 1 := I.2.2
end
def own_c (lo hi : Int32) (w : Nat → Int64) (k : Int32) : Int32 := (if k < lo then (0 : Int32) else (if hi < k then (0 : Int32) else (if ((w (own_J k).toNatClampNeg) &&& ((1 : Int64) <<< (k &&& 0x3f).toInt64)) = (0 : Int64) then (0 : Int32) else (1 : Int32))))
def own_nx (S hi : Int32) (w : Nat → Int64) : Int32 := (if hi < S then (-1 : Int32) else (if ((w (own_J S).toNatClampNeg) &&& own_hi S) = (0 : Int64) then (((own_J S + (1 : Int32)) <<< ((6 : Int32) &&& 31)) + (f18 (w (own_J S + (1 : Int32)).toNatClampNeg))) else (((own_J S) <<< ((6 : Int32) &&& 31)) + (f18 ((w (own_J S).toNatClampNeg) &&& own_hi S)))))
def own_pv (S lo : Int32) (w : Nat → Int64) : Int32 := (if S < lo then (-1 : Int32) else (if ((w (own_J S).toNatClampNeg) &&& own_lo S) = (0 : Int64) then ((((own_J S + (-1 : Int32)) <<< ((6 : Int32) &&& 31)) + (63 : Int32)) - (f16 (w (own_J S + (-1 : Int32)).toNatClampNeg))) else ((((own_J S) <<< ((6 : Int32) &&& 31)) + (63 : Int32)) - (f16 ((w (own_J S).toNatClampNeg) &&& own_lo S)))))
theorem own_tA : ∀ n : Fin 512, own_J (Int32.ofNat n) = Int32.ofNat (n / 64) ∧ (own_J (Int32.ofNat n)).toNatClampNeg = n / 64 ∧ ¬ own_J (Int32.ofNat n) < 0 ∧ (own_J (Int32.ofNat n) + 1).toNatClampNeg = n / 64 + 1 ∧ ¬ own_J (Int32.ofNat n) + 1 < 0 ∧ own_hi (Int32.ofNat n) = own_hi (Int32.ofNat (n % 64)) ∧ own_lo (Int32.ofNat n) = own_lo (Int32.ofNat (n % 64)) ∧ ((1 : Int64) <<< ((Int32.ofNat n) &&& 0x3f).toInt64) = ((1 : Int64) <<< ((Int32.ofNat (n % 64)) &&& 0x3f).toInt64) := by decide +kernel
theorem own_tB : ∀ n : Fin 512, (64 ≤ n.val → (own_J (Int32.ofNat n) + -1).toNatClampNeg = n / 64 - 1 ∧ ¬ own_J (Int32.ofNat n) + -1 < 0) ∧ ((own_J (Int32.ofNat n)) <<< ((6 : Int32) &&& 31)) + Int32.ofNat (n % 64) = Int32.ofNat n ∧ ((own_J (Int32.ofNat n)) <<< ((6 : Int32) &&& 31)) + Int32.ofNat (n % 64 + 1) = Int32.ofNat n + 1 ∧ (((own_J (Int32.ofNat n)) <<< ((6 : Int32) &&& 31)) + (63 : Int32)) - Int32.ofNat (63 - n % 64) = Int32.ofNat n ∧ (((own_J (Int32.ofNat n)) <<< ((6 : Int32) &&& 31)) + (63 : Int32)) - Int32.ofNat (64 - n % 64) = Int32.ofNat n - 1 ∧ (n.val % 64 = 63 → ((own_J (Int32.ofNat n) + 1) <<< ((6 : Int32) &&& 31)) + f18 (-1) = Int32.ofNat n + 1) ∧ (n.val % 64 = 0 → (((own_J (Int32.ofNat n) + -1) <<< ((6 : Int32) &&& 31)) + (63 : Int32)) - f16 (-1) = Int32.ofNat n - 1) := by decide +kernel
theorem own_tC : ∀ (k : Fin 64) (h : Fin 65), own_m h &&& ((1 : Int64) <<< ((Int32.ofNat k) &&& 0x3f).toInt64) = 0 ↔ k.val = h.val := by decide +kernel
theorem own_tD : ∀ (k a : Fin 64), (((1 : Int64) <<< ((Int32.ofNat a) &&& 0x3f).toInt64) ^^^ (-1 : Int64)) &&& ((1 : Int64) <<< ((Int32.ofNat k) &&& 0x3f).toInt64) = if k = a then 0 else ((1 : Int64) <<< ((Int32.ofNat k) &&& 0x3f).toInt64) := by decide +kernel
theorem own_tE : ∀ (a : Fin 64), (-1 : Int64) &&& (((1 : Int64) <<< ((Int32.ofNat a) &&& 0x3f).toInt64) ^^^ (-1 : Int64)) = own_m a := by decide +kernel
theorem own_rg {k lo hi : Int32} (h0 : ¬ lo < 0) (h1 : hi < 511) (a : ¬ k < lo) (b : ¬ hi < k) : ∃ n : Nat, n < 511 ∧ k = Int32.ofNat n ∧ k.toInt = n := by
  simp only [Int32.lt_iff_toInt_lt, show (0 : Int32).toInt = 0 from rfl, show (511 : Int32).toInt = 511 from rfl] at h0 h1 a b
  refine ⟨k.toInt.toNat, by omega, ?_, by omega⟩
  rw [← Int32.toInt_inj, Int32.toInt_ofNat_of_lt (by omega)]; omega
/-- the hole's place in word q -/
def own_h (g q : Nat) : Nat := if q = g / 64 then g % 64 else 64
theorem own_hl (g q : Nat) : own_h g q < 65 := by unfold own_h; split <;> omega
theorem own_hm (g q : Nat) : own_W g q = own_m (own_h g q) := by unfold own_W own_h; split <;> rfl
theorem own_he {g n : Nat} : n % 64 = own_h g (n / 64) ↔ n = g := by unfold own_h; split <;> omega
theorem own_nx_eq {S lo hi : Int32} {w : Nat → Int64} {nW g : Nat} (I : own_I lo hi w nW g) (hS : ¬ S < lo) :
    (¬ hi < S → ¬ own_J S < 0 ∧ (own_J S).toNatClampNeg < nW) ∧ (¬ hi < S → w (own_J S).toNatClampNeg &&& own_hi S = 0 → ¬ own_J S + 1 < 0 ∧ (own_J S + 1).toNatClampNeg < nW) ∧ (¬ hi < S → w (own_J S).toNatClampNeg &&& own_hi S = 0 → ¬ w (own_J S + 1).toNatClampNeg = 0) ∧ own_nx S hi w = if hi < S then -1 else if S.toInt = g then S + 1 else S := by
  by_cases c : hi < S
  · refine ⟨fun h => absurd c h, fun h => absurd c h, fun h => absurd c h, ?_⟩
    unfold own_nx; rw [if_pos c, if_pos c]
  obtain ⟨n, hn, rfl, hi2⟩ := own_rg I.l0 I.h5 hS c
  obtain ⟨a1, a2, a3, a4, a5, a6, a7, -⟩ := own_tA ⟨n, by omega⟩
  obtain ⟨-, b2, b3, -, -, b6, -⟩ := own_tB ⟨n, by omega⟩
  simp only at a1 a2 a3 a4 a5 a6 a7 b2 b3 b6
  have q1 := I.hn; have q2 := I.hg
  have c' := c; have hS' := hS
  rw [Int32.lt_iff_toInt_lt, hi2] at c' hS'
  have w1 : w (n / 64) = own_m (own_h g (n / 64)) := by rw [I.hw _ (by omega), own_hm]
  obtain ⟨z1, z2⟩ := own_ntz ⟨n % 64, by omega⟩ ⟨own_h g (n / 64), own_hl _ _⟩
  simp only at z1 z2
  rw [a2, a6, w1]
  have e := own_he (g := g) (n := n)
  have ws : own_m (own_h g (n / 64)) &&& own_hi (Int32.ofNat (n % 64)) = 0 → n % 64 = 63 ∧ n = g ∧ n / 64 + 1 < nW ∧ w (n / 64 + 1) = -1 := by
    intro h
    obtain ⟨u, v⟩ := z1 h
    have hg : n = g := e.mp (by omega)
    have hb : n / 64 + 1 < nW := by omega
    refine ⟨u, hg, hb, ?_⟩
    rw [I.hw _ hb]; unfold own_W; rw [if_neg (by omega)]
  refine ⟨fun _ => ⟨a3, by omega⟩, fun _ h => ⟨a5, by rw [a4]; exact (ws h).2.2.1⟩, fun _ h => by rw [a4, (ws h).2.2.2]; decide, ?_⟩
  unfold own_nx
  rw [if_neg c, if_neg c, a2, a6, w1, hi2, a4]
  by_cases h : own_m (own_h g (n / 64)) &&& own_hi (Int32.ofNat (n % 64)) = 0
  · obtain ⟨u1, u2, -, u4⟩ := ws h
    rw [if_pos h, u4, b6 u1, if_pos (by omega)]
  · rw [if_neg h, z2 h]
    by_cases u : n = g
    · rw [if_pos (e.mpr u), if_pos (by omega), b3]
    · rw [if_neg (fun q => u (e.mp q)), if_neg (by omega), b2]
theorem own_pv_eq {S lo hi : Int32} {w : Nat → Int64} {nW g : Nat} (I : own_I lo hi w nW g) (hS : ¬ hi < S) :
    (¬ S < lo → ¬ own_J S < 0 ∧ (own_J S).toNatClampNeg < nW) ∧ (¬ S < lo → w (own_J S).toNatClampNeg &&& own_lo S = 0 → ¬ own_J S + -1 < 0 ∧ (own_J S + -1).toNatClampNeg < nW) ∧ (¬ S < lo → w (own_J S).toNatClampNeg &&& own_lo S = 0 → ¬ w (own_J S + -1).toNatClampNeg = 0) ∧ own_pv S lo w = if S < lo then -1 else if S.toInt = g then S - 1 else S := by
  by_cases c : S < lo
  · refine ⟨fun h => absurd c h, fun h => absurd c h, fun h => absurd c h, ?_⟩
    unfold own_pv; rw [if_pos c, if_pos c]
  obtain ⟨n, hn, rfl, hi2⟩ := own_rg I.l0 I.h5 c hS
  obtain ⟨a1, a2, a3, a4, a5, a6, a7, -⟩ := own_tA ⟨n, by omega⟩
  obtain ⟨b1, -, -, b4, b5, -, b7⟩ := own_tB ⟨n, by omega⟩
  simp only at a1 a2 a3 a4 a5 a6 a7 b1 b4 b5 b7
  have q1 := I.hn; have q2 := I.hg; have q3 := I.l0
  have c' := c; have hS' := hS
  rw [Int32.lt_iff_toInt_lt] at q3
  rw [Int32.lt_iff_toInt_lt, hi2] at c' hS'
  have q4 : (0 : Int32).toInt = 0 := rfl
  have w1 : w (n / 64) = own_m (own_h g (n / 64)) := by rw [I.hw _ (by omega), own_hm]
  obtain ⟨z1, z2⟩ := own_nlz ⟨n % 64, by omega⟩ ⟨own_h g (n / 64), own_hl _ _⟩
  simp only at z1 z2
  rw [a2, a7, w1]
  have e := own_he (g := g) (n := n)
  have ws : own_m (own_h g (n / 64)) &&& own_lo (Int32.ofNat (n % 64)) = 0 → n % 64 = 0 ∧ n = g ∧ 64 ≤ n ∧ n / 64 - 1 < nW ∧ w (n / 64 - 1) = -1 := by
    intro h
    obtain ⟨u, v⟩ := z1 h
    have hg : n = g := e.mp (by omega)
    have hb : n / 64 - 1 < nW := by omega
    have h64 : 64 ≤ n := by omega
    refine ⟨u, hg, h64, hb, ?_⟩
    rw [I.hw _ hb]; unfold own_W; rw [if_neg (by omega)]
  refine ⟨fun _ => ⟨a3, by omega⟩, fun _ h => ⟨(b1 (ws h).2.2.1).2, by rw [(b1 (ws h).2.2.1).1]; exact (ws h).2.2.2.1⟩, fun _ h => by rw [(b1 (ws h).2.2.1).1, (ws h).2.2.2.2]; decide, ?_⟩
  unfold own_pv
  rw [if_neg c, if_neg c, a2, a7, w1, hi2]
  by_cases h : own_m (own_h g (n / 64)) &&& own_lo (Int32.ofNat (n % 64)) = 0
  · obtain ⟨u1, u2, u3, -, u5⟩ := ws h
    rw [if_pos h, (b1 u3).1, u5, b7 u1, if_pos (by omega)]
  · rw [if_neg h, z2 h]
    by_cases u : n = g
    · rw [if_pos (e.mpr u), if_pos (by omega), b5]
    · rw [if_neg (fun q => u (e.mp q)), if_neg (by omega), b4]
/-- is k in: from the bounds and the hole -/
theorem own_cv {lo hi : Int32} {w : Nat → Int64} {nW g : Nat} (I : own_I0 lo hi w nW g) (k : Int32) : own_c lo hi w k = if k < lo then 0 else if hi < k then 0 else if k.toInt = g then 0 else 1 := by
  unfold own_c
  by_cases a : k < lo
  · rw [if_pos a, if_pos a]
  by_cases b : hi < k
  · rw [if_neg a, if_pos b, if_neg a, if_pos b]
  rw [if_neg a, if_neg b, if_neg a, if_neg b]
  obtain ⟨n, hn, rfl, hi2⟩ := own_rg I.l0 I.h5 a b
  obtain ⟨-, a2, -, -, -, -, -, a8⟩ := own_tA ⟨n, by omega⟩
  simp only at a2 a8
  have q1 := I.hn
  rw [Int32.lt_iff_toInt_lt, hi2] at b
  rw [a2, a8, I.hw _ (by omega), own_hm, hi2]
  have z := own_tC ⟨n % 64, by omega⟩ ⟨own_h g (n / 64), own_hl _ _⟩
  have e := own_he (g := g) (n := n)
  simp only at z
  by_cases u : n = g
  · rw [if_pos (z.mpr (e.mpr u)), if_pos (by omega)]
  · rw [if_neg (fun h => u (e.mp (z.mp h))), if_neg (by omega)]

theorem own_s1 {a : Int32} (h : ¬ a < 0) : (a - 1).toInt = a.toInt - 1 := by
  rw [Int32.lt_iff_toInt_lt, show (0 : Int32).toInt = 0 from rfl] at h
  have := Int32.toInt_lt a
  rw [Int32.toInt_sub, show (1 : Int32).toInt = 1 from rfl]
  exact Int.bmod_eq_of_le (by omega) (by omega)
theorem own_a1 {a b : Int32} (h : a < b) : (a + 1).toInt = a.toInt + 1 := by
  rw [Int32.lt_iff_toInt_lt] at h
  have := Int32.toInt_lt b; have := Int32.le_toInt a
  rw [Int32.toInt_add, show (1 : Int32).toInt = 1 from rfl]
  exact Int.bmod_eq_of_le (by omega) (by omega)
theorem own_up {α : Type} {f : Nat → α} {i : Nat} {v : α} : up f i v i = v := by unfold up; rw [if_pos rfl]
/-- a value within the bounds has a word -/
def own_B (lo hi : Int32) (nW : Nat) : Prop := ∀ x, ¬ x < lo → ¬ hi < x → ¬ own_J x < 0 ∧ (own_J x).toNatClampNeg < nW
theorem own_I0.B {lo hi : Int32} {w : Nat → Int64} {nW g : Nat} (I : own_I0 lo hi w nW g) : own_B lo hi nW := fun x a b => by
  obtain ⟨n, hn, rfl, hi2⟩ := own_rg I.l0 I.h5 a b
  obtain ⟨-, a2, a3, -⟩ := own_tA ⟨n, by omega⟩
  simp only at a2 a3
  have q1 := I.hn
  rw [Int32.lt_iff_toInt_lt, hi2] at b
  exact ⟨a3, by rw [a2]; omega⟩
theorem own_m8 (x lo : Int32) : ¬ f8 x lo < lo := by unfold f8; split <;> simp only [Int32.lt_iff_toInt_lt] at * <;> omega
theorem own_m10 (x hi : Int32) : ¬ hi < f10 x hi := by unfold f10; split <;> simp only [Int32.lt_iff_toInt_lt] at * <;> omega
/-- what keepWithin's end says -/
def own_R6 (p2 p3 tl lo hi : Int32) (w : Nat → Int64) (nW : Nat) (tl' cc' ic' lo' hi' : Int32) : Prop :=
  own_I lo' hi' w nW 512 ∧ (∀ k, own_c lo' hi' w k = if k < p2 then 0 else if p3 < k then 0 else own_c lo hi w k) ∧ (tl' = tl ∨ tl' = tl + 1) ∧ (ic' = 0 → cc' = 0)
theorem own_k6 {p2 p3 lo hi : Int32} {w : Nat → Int64} {nW : Nat} {a b : Int32} (I : own_I lo hi w nW 512) (ha : a = own_nx (f8 p2 lo) hi w) (hb : b = own_pv (f10 p3 hi) lo w) {lo' hi' : Int32}
    (hc : (lo' = lo ∧ hi' = lo - 1 ∧ (a < 0 ∨ b < a)) ∨ (lo' = a ∧ hi' = b ∧ ¬ a < 0 ∧ ¬ b < a)) :
    own_I lo' hi' w nW 512 ∧ (∀ k, own_c lo' hi' w k = if k < p2 then 0 else if p3 < k then 0 else own_c lo hi w k) := by
  have m1 : ¬ f8 p2 lo < lo := by unfold f8; split <;> simp only [Int32.lt_iff_toInt_lt] at * <;> omega
  have m2 : ¬ hi < f10 p3 hi := by unfold f10; split <;> simp only [Int32.lt_iff_toInt_lt] at * <;> omega
  have h5 := I.h5; have l0 := I.l0; have hn := I.hn; have lh := I.lh
  have sb := own_s1 l0
  rw [(own_nx_eq I m1).2.2.2] at ha
  rw [(own_pv_eq I m2).2.2.2] at hb
  have z5 : (511 : Int32).toInt = 511 := rfl
  have z0 : (0 : Int32).toInt = 0 := rfl
  have z1 : (-1 : Int32).toInt = -1 := rfl
  have e1 : (f8 p2 lo).toInt = if p2.toInt < lo.toInt then lo.toInt else p2.toInt := by unfold f8; simp only [Int32.lt_iff_toInt_lt]; split <;> rfl
  have e2 : (f10 p3 hi).toInt = if hi.toInt < p3.toInt then hi.toInt else p3.toInt := by unfold f10; simp only [Int32.lt_iff_toInt_lt]; split <;> rfl
  have e3 : a.toInt = if hi.toInt < (f8 p2 lo).toInt then -1 else (f8 p2 lo).toInt := by
    rw [ha]; simp only [Int32.lt_iff_toInt_lt] at m1 h5 ⊢; split
    · exact z1
    · rw [if_neg (by omega)]
  have e4 : b.toInt = if (f10 p3 hi).toInt < lo.toInt then -1 else (f10 p3 hi).toInt := by
    rw [hb]; simp only [Int32.lt_iff_toInt_lt] at m2 h5 ⊢; split
    · exact z1
    · rw [if_neg (by omega)]
  clear ha hb
  have J : own_I lo' hi' w nW 512 := by
    simp only [Int32.lt_iff_toInt_lt] at hc h5 l0
    rcases hc with ⟨rfl, rfl, -⟩ | ⟨rfl, rfl, u, v⟩
    · refine ⟨⟨by rw [Int32.lt_iff_toInt_lt]; omega, ?_, by omega, I.h8, I.hw⟩, Or.inl rfl, by omega⟩
      rw [Int32.lt_iff_toInt_lt, sb]
      omega
    · refine ⟨⟨by rw [Int32.lt_iff_toInt_lt]; omega, ?_, ?_, I.h8, I.hw⟩, Or.inl rfl, by omega⟩
      · rw [Int32.lt_iff_toInt_lt]; split at e4 <;> split at e2 <;> omega
      · split at e4 <;> split at e2 <;> omega
  refine ⟨J, fun k => ?_⟩
  have kb := Int32.toInt_lt k; have kl := Int32.le_toInt k
  rw [own_cv J.toown_I0, own_cv I.toown_I0]
  have r1 : lo'.toInt = if a.toInt < 0 ∨ b.toInt < a.toInt then lo.toInt else a.toInt := by
    simp only [Int32.lt_iff_toInt_lt, z0] at hc
    rcases hc with ⟨rfl, rfl, u⟩ | ⟨rfl, rfl, u, v⟩
    · rw [if_pos u]
    · rw [if_neg (by omega)]
  have r2 : hi'.toInt = if a.toInt < 0 ∨ b.toInt < a.toInt then lo.toInt - 1 else b.toInt := by
    simp only [Int32.lt_iff_toInt_lt, z0] at hc
    rcases hc with ⟨rfl, rfl, u⟩ | ⟨rfl, rfl, u, v⟩
    · rw [if_pos u, sb]
    · rw [if_neg (by omega)]
  simp only [Int32.lt_iff_toInt_lt, z5, z0] at h5 l0 ⊢
  clear hc m1 m2 J I sb
  by_cases t1 : k.toInt < lo.toInt
  · have : k.toInt < lo'.toInt := by rw [r1]; split <;> (split at e3 <;> split at e1 <;> omega)
    rw [if_pos this, if_pos t1, ite_self, ite_self]
  by_cases t2 : hi.toInt < k.toInt
  · have : k.toInt < lo'.toInt ∨ hi'.toInt < k.toInt := by
      rw [r2]; split
      · omega
      · split at e4 <;> split at e2 <;> omega
    rw [if_neg t1, if_pos t2, ite_self, ite_self]
    split
    · rfl
    · rw [if_pos (by omega)]
  have t3 : ¬ k.toInt = (512 : Nat) := by omega
  rw [if_neg t1, if_neg t2, if_neg t3]
  have key : (k.toInt < lo'.toInt ∨ hi'.toInt < k.toInt) ↔ (k.toInt < p2.toInt ∨ p3.toInt < k.toInt) := by
    rw [r1, r2]; clear r1 r2
    constructor
    · intro h
      split at e1 <;> split at e2 <;> split at e3 <;> split at e4 <;> split at h <;> omega
    · intro h
      split at e1 <;> split at e2 <;> split at e3 <;> split at e4 <;> split <;> omega
  by_cases x1 : k.toInt < lo'.toInt <;> by_cases x2 : hi'.toInt < k.toInt <;> by_cases x3 : k.toInt < p2.toInt <;> by_cases x4 : p3.toInt < k.toInt <;> simp only [x1, x2, x3, x4, if_true, if_false, or_true, true_or, or_self, iff_true, iff_false, not_true] at key ⊢ <;> first | rfl | exact absurd key id | exact absurd trivial key
/-- what remove's end says -/
def own_R14 (p2 tl lo hi : Int32) (w : Nat → Int64) (nW g : Nat) (tl' cc' ic' lo' hi' : Int32) (w' : Nat → Int64) : Prop :=
  (∀ k, own_c lo' hi' w' k = if k = p2 then 0 else own_c lo hi w k) ∧ (g = 512 → ∃ g', own_I lo' hi' w' nW g') ∧ own_B lo' hi' nW ∧ (tl' = tl ∨ tl' = tl + 1) ∧ (ic' = 0 → cc' = 0)
theorem own_no {a lo hi : Int32} {w : Nat → Int64} {nW g : Nat} (I : own_I lo hi w nW g) (h : own_c lo hi w a = 0) : (∀ k, own_c lo hi w k = if k = a then 0 else own_c lo hi w k) ∧ (g = 512 → ∃ g', own_I lo hi w nW g') ∧ own_B lo hi nW := by
  refine ⟨fun k => ?_, fun _ => ⟨g, I⟩, I.toown_I0.B⟩
  by_cases e : k = a
  · rw [if_pos e, e, h]
  · rw [if_neg e]
theorem own_in {a lo hi : Int32} {w : Nat → Int64} {nW g : Nat} (I : own_I lo hi w nW g) (h : ¬ own_c lo hi w a = 0) : ¬ a < lo ∧ ¬ hi < a ∧ ¬ a.toInt = g := by
  rw [own_cv I.toown_I0] at h
  by_cases x : a < lo
  · rw [if_pos x] at h; exact absurd rfl h
  by_cases y : hi < a
  · rw [if_neg x, if_pos y] at h; exact absurd rfl h
  by_cases z : a.toInt = g
  · rw [if_neg x, if_neg y, if_pos z] at h; exact absurd rfl h
  exact ⟨x, y, z⟩
/-- the lowest goes -/
theorem own_low {lo hi : Int32} {w : Nat → Int64} {nW g : Nat} {a b : Int32} (I : own_I lo hi w nW g) (h : ¬ own_c lo hi w a = 0) (e : a = lo) (hb : b = own_nx (f8 (a + 1) lo) hi w) {lo' hi' : Int32} (h1 : lo' = if b < 0 then a + 1 else b) (h2 : hi' = hi) :
    (∀ k, own_c lo' hi' w k = if k = a then 0 else own_c lo hi w k) ∧ (g = 512 → ∃ g', own_I lo' hi' w nW g') ∧ own_B lo' hi' nW := by
  obtain ⟨i1, i2, i3⟩ := own_in I h
  subst e h2
  have m1 : ¬ f8 (a + 1) a < a := by unfold f8; split <;> simp only [Int32.lt_iff_toInt_lt] at * <;> omega
  have h5 := I.h5; have l0 := I.l0; have hn := I.hn; have hg := I.hg
  have z5 : (511 : Int32).toInt = 511 := rfl
  have z0 : (0 : Int32).toInt = 0 := rfl
  have z1 : (-1 : Int32).toInt = -1 := rfl
  have a5 : a < 511 := by simp only [Int32.lt_iff_toInt_lt] at *; omega
  have sa := own_a1 a5
  have e8 : f8 (a + 1) a = a + 1 := by unfold f8; rw [if_neg (by rw [Int32.lt_iff_toInt_lt]; omega)]
  rw [(own_nx_eq I m1).2.2.2, e8] at hb
  have l1 : lo'.toInt = if a.toInt + 1 = g then a.toInt + 2 else a.toInt + 1 := by
    simp only [Int32.lt_iff_toInt_lt, sa, z0, z5] at hb h1 h5 l0 i1 i2
    by_cases c : hi'.toInt < a.toInt + 1
    · rw [if_pos c] at hb
      rw [h1, hb, z1, if_pos (by decide), sa, if_neg (by omega)]
    · rw [if_neg c] at hb
      by_cases d : a.toInt + 1 = g
      · rw [if_pos d] at hb
        have s2 : (a + 1 + 1).toInt = a.toInt + 1 + 1 := by rw [← sa]; exact own_a1 (b := 511) (by rw [Int32.lt_iff_toInt_lt, sa]; omega)
        rw [h1, hb, if_pos d, s2, if_neg (by omega), s2]; omega
      · rw [if_neg d] at hb
        rw [h1, hb, if_neg d, sa, if_neg (by omega), sa]
  have J0 : own_I0 lo' hi' w nW g := ⟨by rw [Int32.lt_iff_toInt_lt] at l0 ⊢; rw [l1]; split <;> omega, h5, hn, I.h8, I.hw⟩
  refine ⟨fun k => ?_, fun hg' => ⟨g, J0, Or.inl hg', ?_⟩, J0.B⟩
  · rw [own_cv J0, own_cv I.toown_I0]
    simp only [Int32.lt_iff_toInt_lt, ← Int32.toInt_inj] at i1 i2 ⊢
    by_cases x1 : k.toInt = a.toInt
    · rw [if_pos x1, if_pos (by rw [l1]; split <;> omega)]
    rw [if_neg x1]
    by_cases x2 : k.toInt < a.toInt
    · rw [if_pos x2, if_pos (by rw [l1]; split <;> omega)]
    rw [if_neg x2]
    by_cases x3 : hi'.toInt < k.toInt
    · rw [if_pos x3, ite_self]
    rw [if_neg x3]
    by_cases x4 : k.toInt = g
    · rw [if_pos x4, ite_self]
    rw [if_neg x4, if_neg (by rw [l1]; split <;> omega)]
  · simp only [Int32.lt_iff_toInt_lt] at *
    rw [l1, if_neg (by omega)]; omega
/-- the highest goes -/
theorem own_high {lo hi : Int32} {w : Nat → Int64} {nW g : Nat} {a b : Int32} (I : own_I lo hi w nW g) (h : ¬ own_c lo hi w a = 0) (ne : ¬ a = lo) (e : a = hi) (hb : b = own_pv (f10 (a - 1) hi) lo w) {lo' hi' : Int32} (h1 : lo' = lo) (h2 : hi' = b) :
    (∀ k, own_c lo' hi' w k = if k = a then 0 else own_c lo hi w k) ∧ (g = 512 → ∃ g', own_I lo' hi' w nW g') ∧ own_B lo' hi' nW := by
  obtain ⟨i1, i2, i3⟩ := own_in I h
  subst e h1 h2
  have m1 : ¬ a < f10 (a - 1) a := by unfold f10; split <;> simp only [Int32.lt_iff_toInt_lt] at * <;> omega
  have h5 := I.h5; have l0 := I.l0; have hn := I.hn; have hg := I.hg
  have z5 : (511 : Int32).toInt = 511 := rfl
  have z0 : (0 : Int32).toInt = 0 := rfl
  have a0 : ¬ a < 0 := by simp only [Int32.lt_iff_toInt_lt] at *; omega
  have sa := own_s1 a0
  have e8 : f10 (a - 1) a = a - 1 := by unfold f10; rw [if_neg (by rw [Int32.lt_iff_toInt_lt]; omega)]
  rw [(own_pv_eq I m1).2.2.2, e8] at hb
  rw [← Int32.toInt_inj] at ne
  have l1 : hi'.toInt = if a.toInt - 1 = g then a.toInt - 2 else a.toInt - 1 := by
    simp only [Int32.lt_iff_toInt_lt, sa, z0, z5] at hb h5 l0 i1 i2
    rw [if_neg (by omega)] at hb
    by_cases d : a.toInt - 1 = g
    · rw [if_pos d] at hb
      have s2 : (a - 1 - 1).toInt = a.toInt - 1 - 1 := by rw [← sa]; exact own_s1 (by rw [Int32.lt_iff_toInt_lt, sa]; omega)
      rw [hb, if_pos d, s2]; omega
    · rw [if_neg d] at hb
      rw [hb, if_neg d, sa]
  have J0 : own_I0 lo' hi' w nW g := ⟨l0, by rw [Int32.lt_iff_toInt_lt] at h5 ⊢; rw [l1]; split <;> omega, by rw [l1]; split <;> omega, I.h8, I.hw⟩
  refine ⟨fun k => ?_, fun hg' => ⟨g, J0, Or.inl hg', ?_⟩, J0.B⟩
  · rw [own_cv J0, own_cv I.toown_I0]
    simp only [Int32.lt_iff_toInt_lt, ← Int32.toInt_inj] at i1 i2 ⊢
    by_cases x1 : k.toInt = a.toInt
    · rw [if_pos x1, if_pos (c := hi'.toInt < k.toInt) (by rw [l1]; split <;> omega), ite_self]
    rw [if_neg x1]
    by_cases x2 : k.toInt < lo'.toInt
    · rw [if_pos x2, if_pos x2]
    rw [if_neg x2, if_neg x2]
    by_cases x3 : a.toInt < k.toInt
    · rw [if_pos x3, if_pos (by rw [l1]; split <;> omega)]
    rw [if_neg x3]
    by_cases x4 : k.toInt = g
    · rw [if_pos x4, ite_self]
    rw [if_neg x4, if_neg (by rw [l1]; split <;> omega)]
  · simp only [Int32.lt_iff_toInt_lt] at *
    rw [l1, if_neg (by omega)]; omega
/-- a bit goes -/
theorem own_bit {lo hi : Int32} {w : Nat → Int64} {nW g : Nat} {a : Int32} (I : own_I lo hi w nW g) (h : ¬ own_c lo hi w a = 0) (n1 : ¬ a = lo) (n2 : ¬ a = hi) {w' : Nat → Int64} (hw' : w' = up w (own_J a).toNatClampNeg (w (own_J a).toNatClampNeg &&& (((1 : Int64) <<< (a &&& 0x3f).toInt64) ^^^ (-1 : Int64)))) :
    (∀ k, own_c lo hi w' k = if k = a then 0 else own_c lo hi w k) ∧ (g = 512 → ∃ g', own_I lo hi w' nW g') ∧ own_B lo hi nW := by
  obtain ⟨i1, i2, i3⟩ := own_in I h
  obtain ⟨n, hn, rfl, hi2⟩ := own_rg I.l0 I.h5 i1 i2
  obtain ⟨-, a2, -, -, -, -, -, a8⟩ := own_tA ⟨n, by omega⟩
  simp only at a2 a8
  rw [a2, a8] at hw'
  refine ⟨fun k => ?_, fun hg => ⟨n, ⟨I.l0, I.h5, I.hn, I.h8, fun i hi => ?_⟩, Or.inr ?_, I.lh⟩, I.toown_I0.B⟩
  · unfold own_c
    by_cases x : k < lo
    · rw [if_pos x, if_pos x, ite_self]
    by_cases y : hi < k
    · rw [if_neg x, if_pos y, if_neg x, if_pos y, ite_self]
    rw [if_neg x, if_neg y, if_neg x, if_neg y]
    obtain ⟨m, hm, rfl, hm2⟩ := own_rg I.l0 I.h5 x y
    obtain ⟨-, c2, -, -, -, -, -, c8⟩ := own_tA ⟨m, by omega⟩
    simp only at c2 c8
    have z := own_tD ⟨m % 64, by omega⟩ ⟨n % 64, by omega⟩
    simp only [Fin.mk.injEq] at z
    rw [c2, c8, hw']
    simp only [← Int32.toInt_inj, hm2, hi2]
    unfold up
    by_cases q : m / 64 = n / 64
    · rw [if_pos q, Int64.and_assoc, z, q]
      by_cases q2 : m % 64 = n % 64
      · rw [if_pos q2, if_pos (c := (m : Int) = n) (by omega), if_pos (by simp)]
      · rw [if_neg q2, if_neg (c := (m : Int) = n) (by omega)]
    · rw [if_neg q, if_neg (c := (m : Int) = n) (by omega)]
  · have z := own_tE ⟨n % 64, by omega⟩
    simp only at z
    have e1 : ∀ i, i < nW → w i = -1 := fun i hi => by rw [I.hw i hi, hg]; unfold own_W; rw [if_neg (by have := I.h8; omega)]
    rw [hw']; unfold up own_W
    have hnn := I.hn
    rw [Int32.lt_iff_toInt_lt] at i2
    by_cases q : i = n / 64
    · rw [if_pos q, if_pos q, e1 _ (by omega), z]
    · rw [if_neg q, if_neg q, e1 _ hi]
  · simp only [Int32.lt_iff_toInt_lt, ← Int32.toInt_inj] at i1 i2 n1 n2
    omega
theorem own_E6 {p2 p3 tl lo hi : Int32} {w : Nat → Int64} {nW : Nat} {tl' cc' ic' lo' hi' : Int32} (h : own_I lo' hi' w nW 512 ∧ (∀ k, own_c lo' hi' w k = if k < p2 then 0 else if p3 < k then 0 else own_c lo hi w k)) (t : tl' = tl ∨ tl' = tl + 1) (n : ic' = 0 → cc' = 0) : own_R6 p2 p3 tl lo hi w nW tl' cc' ic' lo' hi' := ⟨h.1, h.2, t, n⟩
theorem own_E14 {p2 tl lo hi : Int32} {w : Nat → Int64} {nW g : Nat} {tl' cc' ic' lo' hi' : Int32} {w' : Nat → Int64} (h : (∀ k, own_c lo' hi' w' k = if k = p2 then 0 else own_c lo hi w k) ∧ (g = 512 → ∃ g', own_I lo' hi' w' nW g') ∧ own_B lo' hi' nW) (t : tl' = tl ∨ tl' = tl + 1) (n : ic' = 0 → cc' = 0) : own_R14 p2 tl lo hi w nW g tl' cc' ic' lo' hi' w' := ⟨h.1, h.2.1, h.2.2, t, n⟩
theorem own_note {f : Nat → Int32} {i : Nat} {cc : Int32} : up f i 1 i = 0 → cc = 0 := fun h => absurd (own_up.symm.trans h) (by decide)
theorem own_511 (p : Int32) : ∃ n : Nat, n < 512 ∧ p &&& 511 = Int32.ofNat n ∧ (p &&& 511).toInt = n := by
  have h : (p &&& 511).toBitVec.toNat < 512 := by
    rw [show (p &&& 511).toBitVec = p.toBitVec &&& 511#32 from rfl, BitVec.toNat_and]
    exact Nat.lt_of_le_of_lt Nat.and_le_right (by decide)
  have t : (p &&& 511).toInt = (p &&& 511).toBitVec.toNat := by
    show (p &&& 511).toBitVec.toInt = _
    rw [BitVec.toInt_eq_toNat_cond, if_pos (by omega)]
  refine ⟨_, h, ?_, t⟩
  rw [← Int32.toInt_inj, t, Int32.toInt_ofNat_of_lt (by omega)]
theorem own_tF : ∀ n : Fin 512, ¬ own_J (Int32.ofNat n + 63) < 0 ∧ (own_J (Int32.ofNat n + 63)).toNatClampNeg = (n.val + 63) / 64 ∧ (Int32.ofNat n - 1).toInt = (n.val : Int) - 1 := by decide +kernel
theorem own_nW (p : Int32) : ¬ own_J ((p &&& 511) + 63) < 0 ∧ (own_J ((p &&& 511) + 63)).toNatClampNeg ≤ 8 := by
  obtain ⟨n, hn, e, -⟩ := own_511 p
  obtain ⟨a, b, -⟩ := own_tF ⟨n, hn⟩
  rw [e]; simp only at a b; exact ⟨a, by rw [b]; omega⟩
theorem own_start {p lo hi : Int32} {w : Nat → Int64} {nW : Nat} (hn : (own_J ((p &&& 511) + 63)).toNatClampNeg = nW) (hl : lo = 0) (hh : hi = (p &&& 511) - 1) (hw : ∀ i, w i = -1) : own_I lo hi w nW 512 := by
  obtain ⟨n, hn', e, -⟩ := own_511 p
  obtain ⟨a, b, c⟩ := own_tF ⟨n, hn'⟩
  simp only at a b c
  rw [e] at hn hh
  subst hl hh
  have z0 : (0 : Int32).toInt = 0 := rfl
  refine ⟨⟨by decide, ?_, ?_, ?_, fun i hi => ?_⟩, Or.inl rfl, ?_⟩
  · rw [Int32.lt_iff_toInt_lt, c]; show _ < (511 : Int); omega
  · rw [c]; omega
  · omega
  · rw [hw]; unfold own_W; rw [if_neg (by omega)]
  · rw [c, z0]; omega
/-- the law: what 'contains' says at the end, and what was expected -/
theorem own_law {p from_ to_ h1 h2 a lo hi lo1 hi1 lo2 hi2 lo3 hi3 : Int32} {w w2 w3 : Nat → Int64} {nW : Nat} (I : own_I lo hi w nW 512) (hl : lo = 0) (hh : hi = (p &&& 511) - 1)
    (k1 : ∀ k, own_c lo1 hi1 w k = if k < from_ then 0 else if to_ < k then 0 else own_c lo hi w k) (k2 : ∀ k, own_c lo2 hi2 w2 k = if k = h1 then 0 else own_c lo1 hi1 w k) (k3 : ∀ k, own_c lo3 hi3 w3 k = if k = h2 then 0 else own_c lo2 hi2 w2 k) :
    own_c lo3 hi3 w3 a = if a < 0 then 0 else if a < (p &&& 511) then (if a < from_ then 0 else if to_ < a then 0 else if a = h1 then 0 else if a = h2 then 0 else 1) else 0 := by
  obtain ⟨n, hn', e, et⟩ := own_511 p
  obtain ⟨-, -, c⟩ := own_tF ⟨n, hn'⟩
  simp only at c
  rw [← e] at c
  rw [k3, k2, k1, own_cv I.toown_I0, hl, hh]
  simp only [Int32.lt_iff_toInt_lt, c, et]
  have z0 : (0 : Int32).toInt = 0 := rfl
  by_cases x1 : a.toInt < (0 : Int32).toInt
  · simp only [x1, if_true, ite_self]
  by_cases x2 : a.toInt < n
  · have x3 : ¬ ((n : Int) - 1 < a.toInt) := by omega
    have x4 : ¬ (a.toInt = (512 : Nat)) := by omega
    simp only [x1, x2, x3, x4, if_true, if_false]
    by_cases y1 : a.toInt < from_.toInt <;> by_cases y2 : to_.toInt < a.toInt <;> by_cases y3 : a = h1 <;> by_cases y4 : a = h2 <;> simp only [y1, y2, y3, y4, if_true, if_false, ite_self]
  · have x3 : ((n : Int) - 1 < a.toInt) := by omega
    simp only [x1, x2, x3, if_true, if_false, ite_self]

theorem d12_0 : decode B12 0 = .ok (.aload_n 0, 1) := by decide +kernel
theorem d12_1 : decode B12 1 = .ok (.getfield 60, 3) := by decide +kernel
theorem d12_4 : decode B12 4 = .ok (.aload_n 0, 1) := by decide +kernel
theorem d12_5 : decode B12 5 = .ok (.getfield 7, 3) := by decide +kernel
theorem d12_8 : decode B12 8 = .ok (.arraylength, 1) := by decide +kernel
theorem d12_9 : decode B12 9 = .ok (.if_icmp .ne 63, 3) := by decide +kernel
theorem d12_72 : decode B12 72 = .ok (.aload_n 0, 1) := by decide +kernel
theorem d12_73 : decode B12 73 = .ok (.getfield 7, 3) := by decide +kernel
theorem d12_76 : decode B12 76 = .ok (.aload_n 0, 1) := by decide +kernel
theorem d12_77 : decode B12 77 = .ok (.getfield 60, 3) := by decide +kernel
theorem d12_80 : decode B12 80 = .ok (.iload_n 1, 1) := by decide +kernel
theorem d12_81 : decode B12 81 = .ok (.iastore, 1) := by decide +kernel
theorem d12_82 : decode B12 82 = .ok (.aload_n 0, 1) := by decide +kernel
theorem d12_83 : decode B12 83 = .ok (.getfield 13, 3) := by decide +kernel
theorem d12_86 : decode B12 86 = .ok (.aload_n 0, 1) := by decide +kernel
theorem d12_87 : decode B12 87 = .ok (.getfield 60, 3) := by decide +kernel
theorem d12_90 : decode B12 90 = .ok (.iload_n 2, 1) := by decide +kernel
theorem d12_91 : decode B12 91 = .ok (.iastore, 1) := by decide +kernel
theorem d12_92 : decode B12 92 = .ok (.aload_n 0, 1) := by decide +kernel
theorem d12_93 : decode B12 93 = .ok (.getfield 16, 3) := by decide +kernel
theorem d12_96 : decode B12 96 = .ok (.aload_n 0, 1) := by decide +kernel
theorem d12_97 : decode B12 97 = .ok (.getfield 60, 3) := by decide +kernel
theorem d12_100 : decode B12 100 = .ok (.lload_n 3, 1) := by decide +kernel
theorem d12_101 : decode B12 101 = .ok (.lastore, 1) := by decide +kernel
theorem d12_102 : decode B12 102 = .ok (.aload_n 0, 1) := by decide +kernel
theorem d12_103 : decode B12 103 = .ok (.getfield 20, 3) := by decide +kernel
theorem d12_106 : decode B12 106 = .ok (.aload_n 0, 1) := by decide +kernel
theorem d12_107 : decode B12 107 = .ok (.getfield 60, 3) := by decide +kernel
theorem d12_110 : decode B12 110 = .ok (.aload_n 0, 1) := by decide +kernel
theorem d12_111 : decode B12 111 = .ok (.getfield 36, 3) := by decide +kernel
theorem d12_114 : decode B12 114 = .ok (.iload_n 1, 1) := by decide +kernel
theorem d12_115 : decode B12 115 = .ok (.iaload, 1) := by decide +kernel
theorem d12_116 : decode B12 116 = .ok (.iastore, 1) := by decide +kernel
theorem d12_117 : decode B12 117 = .ok (.aload_n 0, 1) := by decide +kernel
theorem d12_118 : decode B12 118 = .ok (.dup, 1) := by decide +kernel
theorem d12_119 : decode B12 119 = .ok (.getfield 60, 3) := by decide +kernel
theorem d12_122 : decode B12 122 = .ok (.iconst 1, 1) := by decide +kernel
theorem d12_123 : decode B12 123 = .ok (.iadd, 1) := by decide +kernel
theorem d12_124 : decode B12 124 = .ok (.putfield 60, 3) := by decide +kernel
theorem d12_127 : decode B12 127 = .ok (.return_, 1) := by decide +kernel
def Q12 (Z : State) (o0 : Addr) (p2 : Int32) (q3 : Int64) (tl : Int32) (cc : Int32) (lA : Addr) (hA : Addr) (sA : Addr) (cA : Addr) (chA : Addr) (icA : Addr) (bA : Addr) (tvA : Addr) (twA : Addr) (tsA : Addr) (tzA : Addr) (sF : Nat → Int32) (tvF : Nat → Int32) (twF : Nat → Int32) (tsF : Nat → Int64) (tzF : Nat → Int32) (h0 : Heap) (n0 : Nat) (v : Option Value) (h : Heap) (L : List Loc) : Prop := v = none ∧ Fr n0 L ∧ Keep h0 h [tvA, twA, tsA, tzA, o0] ∧ Exa Z h o0 "com/example/whittle/whittle/engine/Domains" ∧ Fld Z h o0 "com/example/whittle/whittle/engine/Domains" "trailLength" "I" (.int (tl + (1 : Int32))) ∧ Fld Z h o0 "com/example/whittle/whittle/engine/Domains" "changedCount" "I" (.int cc) ∧ Fld Z h o0 "com/example/whittle/whittle/engine/Domains" "listener" "Lcom/example/whittle/whittle/engine/Domains$RemovalListener;" .null ∧ Fld Z h o0 "com/example/whittle/whittle/engine/Domains" "low" "[I" (.ref lA) ∧ Fld Z h o0 "com/example/whittle/whittle/engine/Domains" "high" "[I" (.ref hA) ∧ Fld Z h o0 "com/example/whittle/whittle/engine/Domains" "sizes" "[I" (.ref sA) ∧ Fld Z h o0 "com/example/whittle/whittle/engine/Domains" "capacities" "[I" (.ref cA) ∧ Fld Z h o0 "com/example/whittle/whittle/engine/Domains" "changed" "[I" (.ref chA) ∧ Fld Z h o0 "com/example/whittle/whittle/engine/Domains" "isChanged" "[Z" (.ref icA) ∧ Fld Z h o0 "com/example/whittle/whittle/engine/Domains" "bits" "[[J" (.ref bA) ∧ Fld Z h o0 "com/example/whittle/whittle/engine/Domains" "trailVariable" "[I" (.ref tvA) ∧ Fld Z h o0 "com/example/whittle/whittle/engine/Domains" "trailWord" "[I" (.ref twA) ∧ Fld Z h o0 "com/example/whittle/whittle/engine/Domains" "trailSaved" "[J" (.ref tsA) ∧ Fld Z h o0 "com/example/whittle/whittle/engine/Domains" "trailSize" "[I" (.ref tzA) ∧ AV Z h sA .int 1 (fun k => .int (sF k)) ∧ AV Z h tvA .int 1024 (fun k => .int ((up tvF tl.toNatClampNeg (0 : Int32)) k)) ∧ AV Z h twA .int 1024 (fun k => .int ((up twF tl.toNatClampNeg p2) k)) ∧ AV Z h tsA .long 1024 (fun k => .long ((up tsF tl.toNatClampNeg q3) k)) ∧ AV Z h tzA .int 1024 (fun k => .int ((up tzF tl.toNatClampNeg (sF (0 : Int32).toNatClampNeg)) k))
theorem ef_12_aaaa (m : MethodId) (x0 : Addr) (x1 : Int32) (x2 : Int32) (x3 : Int64) : entryFrame m #[(.ref x0), (.int x1), (.int x2), (.long x3)] 6 = mkF m 0 #[.val (.ref x0), .val (.int x1), .val (.int x2), .val (.long x3), .second, .unset] [] := by first | (simp [entryFrame, mkF, argsToLocals, Value.category]; done) | rfl
theorem rm12 (l : Launch) (Z : State) (a0 : Array Value) (hw : HW a0 Z) (ws : List Jvm.Cond) (o0 : Addr) (p2 : Int32) (q3 : Int64) (tl : Int32) (cc : Int32) (lA : Addr) (hA : Addr) (sA : Addr) (cA : Addr) (chA : Addr) (icA : Addr) (bA : Addr) (tvA : Addr) (twA : Addr) (tsA : Addr) (tzA : Addr) (sF : Nat → Int32) (tvF : Nat → Int32) (twF : Nat → Int32) (tsF : Nat → Int64) (tzF : Nat → Int32) (h0 : Heap) (n0 : Nat) (Z0 : n0 ≤ h0.size) (ha0 : Exa Z h0 o0 "com/example/whittle/whittle/engine/Domains") (ha1 : Fld Z h0 o0 "com/example/whittle/whittle/engine/Domains" "trailLength" "I" (.int tl)) (ha2 : Fld Z h0 o0 "com/example/whittle/whittle/engine/Domains" "changedCount" "I" (.int cc)) (ha3 : Fld Z h0 o0 "com/example/whittle/whittle/engine/Domains" "listener" "Lcom/example/whittle/whittle/engine/Domains$RemovalListener;" .null) (ha4 : Fld Z h0 o0 "com/example/whittle/whittle/engine/Domains" "low" "[I" (.ref lA)) (ha5 : Fld Z h0 o0 "com/example/whittle/whittle/engine/Domains" "high" "[I" (.ref hA)) (ha6 : Fld Z h0 o0 "com/example/whittle/whittle/engine/Domains" "sizes" "[I" (.ref sA)) (ha7 : Fld Z h0 o0 "com/example/whittle/whittle/engine/Domains" "capacities" "[I" (.ref cA)) (ha8 : Fld Z h0 o0 "com/example/whittle/whittle/engine/Domains" "changed" "[I" (.ref chA)) (ha9 : Fld Z h0 o0 "com/example/whittle/whittle/engine/Domains" "isChanged" "[Z" (.ref icA)) (ha10 : Fld Z h0 o0 "com/example/whittle/whittle/engine/Domains" "bits" "[[J" (.ref bA)) (ha11 : Fld Z h0 o0 "com/example/whittle/whittle/engine/Domains" "trailVariable" "[I" (.ref tvA)) (ha12 : Fld Z h0 o0 "com/example/whittle/whittle/engine/Domains" "trailWord" "[I" (.ref twA)) (ha13 : Fld Z h0 o0 "com/example/whittle/whittle/engine/Domains" "trailSaved" "[J" (.ref tsA)) (ha14 : Fld Z h0 o0 "com/example/whittle/whittle/engine/Domains" "trailSize" "[I" (.ref tzA)) (ha15 : AV Z h0 sA .int 1 (fun k => .int (sF k))) (ha16 : AV Z h0 tvA .int 1024 (fun k => .int (tvF k))) (ha17 : AV Z h0 twA .int 1024 (fun k => .int (twF k))) (ha18 : AV Z h0 tsA .long 1024 (fun k => .long (tsF k))) (ha19 : AV Z h0 tzA .int 1024 (fun k => .int (tzF k))) (ha20 : n0 ≤ o0) (ha21 : n0 ≤ tvA) (ha22 : n0 ≤ twA) (ha23 : n0 ≤ tsA) (ha24 : n0 ≤ tzA) (hne_o0_sA : o0 ≠ sA) (hne_o0_tvA : o0 ≠ tvA) (hne_o0_twA : o0 ≠ twA) (hne_o0_tsA : o0 ≠ tsA) (hne_o0_tzA : o0 ≠ tzA) (hne_sA_tvA : sA ≠ tvA) (hne_sA_twA : sA ≠ twA) (hne_sA_tsA : sA ≠ tsA) (hne_sA_tzA : sA ≠ tzA) (hne_tvA_twA : tvA ≠ twA) (hne_tvA_tsA : tvA ≠ tsA) (hne_tvA_tzA : tvA ≠ tzA) (hne_twA_tsA : twA ≠ tsA) (hne_twA_tzA : twA ≠ tzA) (hne_tsA_tzA : tsA ≠ tzA) (htl : ¬ tl = (1024 : Int32)) (htb : ¬ tl < 0 ∧ tl.toNatClampNeg < 1024) :
    MetFree l y12 (head1 (Jvm.Cond.code y12 prog_22_method_24_code 6 none :: ws) RM_0_0_0_0) (fun a U => a = #[(.ref o0), (.int 0), (.int p2), (.long q3)] ∧ Z.Warmed39 U.vm ∧ U.heap = h0) (fun _ _ _ _ _ => True) (fun _ U o U' => ∃ v L, o = .returned v ∧ Q12 Z o0 p2 q3 tl cc lA hA sA cA chA icA bA tvA twA tsA tzA sF tvF twF tsF tzF h0 n0 v U'.heap L ∧ FrameEnd U o U' L RM_0_0_0_0.cells RM_0_0_0_0.slots) := by
  refine MetFree.of_bodySF (plainFor_of_name pn_2) hisR ?_
  intro p e s m args below meth c s₁ Bd hml0 hP hK
  obtain ⟨rfl, hZ, hh⟩ := hP
  have hx := Bd.exec
  have hby := Bd.bytes
  have hml : c.maxLocals = 6 := hml0
  have hown : s.vm.findClass "com/example/whittle/whittle/engine/Domains" = some m.cls := findClass_of_methodNamed Bd.named
  have X0 : Stand p l e RM_0_0_0_0 s m _ below meth c s₁ [] 0 0 := Stand.of_body Bd
  have e0 : s₁.heap = h0 := by rw [← hh, Bd.state]; rfl
  have N0 := Fr.nil n0
  refine Go.into (P := fun oo uu => ∃ v L, oo = .returned v ∧ Q12 Z o0 p2 q3 tl cc lA hA sA cA chA icA bA tvA twA tsA tzA sF tvF twF tsF tzF h0 n0 v uu.heap L ∧ FrameEnd s oo uu L RM_0_0_0_0.cells RM_0_0_0_0.slots) (ef_12_aaaa m o0 (0 : Int32) p2 q3) ?_
  show Go p e below _ (s₁.setTop (mkF m 0 #[sR o0, sI 0, sI p2, .val (.long q3), .second, .unset] []))
  refine Vi (s₁.setTop (mkF m 1 #[sR o0, sI 0, sI p2, .val (.long q3), .second, .unset] [(.ref o0)])) (fun tZ kZ => ?_) ?_
  · refine XS.aloadN X0.here hx rfl (hb hby d12_0) rfl rfl ?_
    exact kZ
  obtain ⟨T1, X1, e1, st1⟩ := getF X0 hx hZ hown (host := "") (Or.inl (wq hw 56 rfl)) Via.refl e0 ha1 (g := (mkF m 1 #[sR o0, sI 0, sI p2, .val (.long q3), .second, .unset] [(.ref o0)])) rfl rfl (hb hby d12_1)
  refine Go.via st1 ?_
  refine Vi (T1.setTop (mkF m 5 #[sR o0, sI 0, sI p2, .val (.long q3), .second, .unset] [(.ref o0), (.int tl)])) (fun tZ kZ => ?_) ?_
  · refine XS.aloadN X1.here hx rfl (hb hby d12_4) rfl rfl ?_
    exact kZ
  obtain ⟨T2, X2, e2, st2⟩ := getF X1 hx hZ hown (host := "") (Or.inl (wq hw 10 rfl)) Via.refl e1 ha11 (g := (mkF m 5 #[sR o0, sI 0, sI p2, .val (.long q3), .second, .unset] [(.ref o0), (.int tl)])) rfl rfl (hb hby d12_5)
  refine Go.via st2 ?_
  refine Vi (T2.setTop (mkF m 73 #[sR o0, sI 0, sI p2, .val (.long q3), .second, .unset] [(.ref o0)])) (fun tZ kZ => ?_) ?_
  · refine AV.len ha16 X2 hx hZ e2 (hb hby d12_8) ?_
    refine XS.icmpYes X2.here hx rfl (pc0 := 9) (pc' := 72) rfl (hb hby d12_9) rfl (feq htl).2 (by decide) (by decide) ?_
    refine XS.aloadN X2.here hx rfl (hb hby d12_72) rfl rfl ?_
    exact kZ
  obtain ⟨T3, X3, e3, st3⟩ := getF X2 hx hZ hown (host := "") (Or.inl (wq hw 10 rfl)) Via.refl e2 ha11 (g := (mkF m 73 #[sR o0, sI 0, sI p2, .val (.long q3), .second, .unset] [(.ref o0)])) rfl rfl (hb hby d12_73)
  refine Go.via st3 ?_
  refine Vi (T3.setTop (mkF m 77 #[sR o0, sI 0, sI p2, .val (.long q3), .second, .unset] [(.ref o0), (.ref tvA)])) (fun tZ kZ => ?_) ?_
  · refine XS.aloadN X3.here hx rfl (hb hby d12_76) rfl rfl ?_
    exact kZ
  obtain ⟨T4, X4, e4, st4⟩ := getF X3 hx hZ hown (host := "") (Or.inl (wq hw 56 rfl)) Via.refl e3 ha1 (g := (mkF m 77 #[sR o0, sI 0, sI p2, .val (.long q3), .second, .unset] [(.ref o0), (.ref tvA)])) rfl rfl (hb hby d12_77)
  refine Go.via st4 ?_
  refine Vi (T4.setTop (mkF m 81 #[sR o0, sI 0, sI p2, .val (.long q3), .second, .unset] [(.int 0), (.int tl), (.ref tvA)])) (fun tZ kZ => ?_) ?_
  · refine XS.iloadN X4.here hx rfl (hb hby d12_80) rfl ?_
    exact kZ
  obtain ⟨T5, h5, X5, e5, W5, V5, st5⟩ := AV.iastore ha16 X4 hx hZ e4 (j := tl) htb (Ls := #[sR o0, sI 0, sI p2, .val (.long q3), .second, .unset]) (rest := []) (hb hby d12_81) (x := (0 : Int32))
  have N5 := Fr.snoc X5 N0 ha21
  have c6_0 := ha0.wr W5
  have c6_1 := ha1.other W5 (Or.inl hne_o0_tvA)
  have c6_2 := ha2.other W5 (Or.inl hne_o0_tvA)
  have c6_3 := ha3.other W5 (Or.inl hne_o0_tvA)
  have c6_4 := ha4.other W5 (Or.inl hne_o0_tvA)
  have c6_5 := ha5.other W5 (Or.inl hne_o0_tvA)
  have c6_6 := ha6.other W5 (Or.inl hne_o0_tvA)
  have c6_7 := ha7.other W5 (Or.inl hne_o0_tvA)
  have c6_8 := ha8.other W5 (Or.inl hne_o0_tvA)
  have c6_9 := ha9.other W5 (Or.inl hne_o0_tvA)
  have c6_10 := ha10.other W5 (Or.inl hne_o0_tvA)
  have c6_11 := ha11.other W5 (Or.inl hne_o0_tvA)
  have c6_12 := ha12.other W5 (Or.inl hne_o0_tvA)
  have c6_13 := ha13.other W5 (Or.inl hne_o0_tvA)
  have c6_14 := ha14.other W5 (Or.inl hne_o0_tvA)
  have c6_15 := ha15.other W5 hne_sA_tvA
  have c6_17 := ha17.other W5 (Ne.symm hne_tvA_twA)
  have c6_18 := ha18.other W5 (Ne.symm hne_tvA_tsA)
  have c6_19 := ha19.other W5 (Ne.symm hne_tvA_tzA)
  have K5 : Keep h0 h5 [tvA, twA, tsA, tzA, o0] := (Keep.refl h0 [tvA, twA, tsA, tzA, o0]).wr W5 (Or.inl (by simp))
  have Z5 := Nat.le_trans Z0 (Keep.of_wr W5).1
  refine Go.via st5 ?_
  refine Vi (T5.setTop (mkF m 83 #[sR o0, sI 0, sI p2, .val (.long q3), .second, .unset] [(.ref o0)])) (fun tZ kZ => ?_) ?_
  · refine XS.aloadN X5.here hx rfl (hb hby d12_82) rfl rfl ?_
    exact kZ
  obtain ⟨T7, X7, e7, st7⟩ := getF X5 hx hZ hown (host := "") (Or.inl (wq hw 12 rfl)) Via.refl e5 c6_12 (g := (mkF m 83 #[sR o0, sI 0, sI p2, .val (.long q3), .second, .unset] [(.ref o0)])) rfl rfl (hb hby d12_83)
  refine Go.via st7 ?_
  refine Vi (T7.setTop (mkF m 87 #[sR o0, sI 0, sI p2, .val (.long q3), .second, .unset] [(.ref o0), (.ref twA)])) (fun tZ kZ => ?_) ?_
  · refine XS.aloadN X7.here hx rfl (hb hby d12_86) rfl rfl ?_
    exact kZ
  obtain ⟨T8, X8, e8, st8⟩ := getF X7 hx hZ hown (host := "") (Or.inl (wq hw 56 rfl)) Via.refl e7 c6_1 (g := (mkF m 87 #[sR o0, sI 0, sI p2, .val (.long q3), .second, .unset] [(.ref o0), (.ref twA)])) rfl rfl (hb hby d12_87)
  refine Go.via st8 ?_
  refine Vi (T8.setTop (mkF m 91 #[sR o0, sI 0, sI p2, .val (.long q3), .second, .unset] [(.int p2), (.int tl), (.ref twA)])) (fun tZ kZ => ?_) ?_
  · refine XS.iloadN X8.here hx rfl (hb hby d12_90) rfl ?_
    exact kZ
  obtain ⟨T9, h9, X9, e9, W9, V9, st9⟩ := AV.iastore c6_17 X8 hx hZ e8 (j := tl) htb (Ls := #[sR o0, sI 0, sI p2, .val (.long q3), .second, .unset]) (rest := []) (hb hby d12_91) (x := p2)
  have N9 := Fr.snoc X9 N5 ha22
  have c10_0 := c6_0.wr W9
  have c10_1 := c6_1.other W9 (Or.inl hne_o0_twA)
  have c10_2 := c6_2.other W9 (Or.inl hne_o0_twA)
  have c10_3 := c6_3.other W9 (Or.inl hne_o0_twA)
  have c10_4 := c6_4.other W9 (Or.inl hne_o0_twA)
  have c10_5 := c6_5.other W9 (Or.inl hne_o0_twA)
  have c10_6 := c6_6.other W9 (Or.inl hne_o0_twA)
  have c10_7 := c6_7.other W9 (Or.inl hne_o0_twA)
  have c10_8 := c6_8.other W9 (Or.inl hne_o0_twA)
  have c10_9 := c6_9.other W9 (Or.inl hne_o0_twA)
  have c10_10 := c6_10.other W9 (Or.inl hne_o0_twA)
  have c10_11 := c6_11.other W9 (Or.inl hne_o0_twA)
  have c10_12 := c6_12.other W9 (Or.inl hne_o0_twA)
  have c10_13 := c6_13.other W9 (Or.inl hne_o0_twA)
  have c10_14 := c6_14.other W9 (Or.inl hne_o0_twA)
  have c10_15 := c6_15.other W9 hne_sA_twA
  have c10_16 := V5.other W9 hne_tvA_twA
  have c10_18 := c6_18.other W9 (Ne.symm hne_twA_tsA)
  have c10_19 := c6_19.other W9 (Ne.symm hne_twA_tzA)
  have K9 : Keep h0 h9 [tvA, twA, tsA, tzA, o0] := K5.wr W9 (Or.inl (by simp))
  have Z9 := Nat.le_trans Z5 (Keep.of_wr W9).1
  refine Go.via st9 ?_
  refine Vi (T9.setTop (mkF m 93 #[sR o0, sI 0, sI p2, .val (.long q3), .second, .unset] [(.ref o0)])) (fun tZ kZ => ?_) ?_
  · refine XS.aloadN X9.here hx rfl (hb hby d12_92) rfl rfl ?_
    exact kZ
  obtain ⟨T11, X11, e11, st11⟩ := getF X9 hx hZ hown (host := "") (Or.inl (wq hw 15 rfl)) Via.refl e9 c10_13 (g := (mkF m 93 #[sR o0, sI 0, sI p2, .val (.long q3), .second, .unset] [(.ref o0)])) rfl rfl (hb hby d12_93)
  refine Go.via st11 ?_
  refine Vi (T11.setTop (mkF m 97 #[sR o0, sI 0, sI p2, .val (.long q3), .second, .unset] [(.ref o0), (.ref tsA)])) (fun tZ kZ => ?_) ?_
  · refine XS.aloadN X11.here hx rfl (hb hby d12_96) rfl rfl ?_
    exact kZ
  obtain ⟨T12, X12, e12, st12⟩ := getF X11 hx hZ hown (host := "") (Or.inl (wq hw 56 rfl)) Via.refl e11 c10_1 (g := (mkF m 97 #[sR o0, sI 0, sI p2, .val (.long q3), .second, .unset] [(.ref o0), (.ref tsA)])) rfl rfl (hb hby d12_97)
  refine Go.via st12 ?_
  refine Vi (T12.setTop (mkF m 101 #[sR o0, sI 0, sI p2, .val (.long q3), .second, .unset] [(.long q3), (.int tl), (.ref tsA)])) (fun tZ kZ => ?_) ?_
  · refine XS.lloadN X12.here hx rfl (hb hby d12_100) rfl ?_
    exact kZ
  obtain ⟨T13, h13, X13, e13, W13, V13, st13⟩ := AV.lastore c10_18 X12 hx hZ e12 (j := tl) htb (Ls := #[sR o0, sI 0, sI p2, .val (.long q3), .second, .unset]) (rest := []) (hb hby d12_101) (x := q3)
  have N13 := Fr.snoc X13 N9 ha23
  have c14_0 := c10_0.wr W13
  have c14_1 := c10_1.other W13 (Or.inl hne_o0_tsA)
  have c14_2 := c10_2.other W13 (Or.inl hne_o0_tsA)
  have c14_3 := c10_3.other W13 (Or.inl hne_o0_tsA)
  have c14_4 := c10_4.other W13 (Or.inl hne_o0_tsA)
  have c14_5 := c10_5.other W13 (Or.inl hne_o0_tsA)
  have c14_6 := c10_6.other W13 (Or.inl hne_o0_tsA)
  have c14_7 := c10_7.other W13 (Or.inl hne_o0_tsA)
  have c14_8 := c10_8.other W13 (Or.inl hne_o0_tsA)
  have c14_9 := c10_9.other W13 (Or.inl hne_o0_tsA)
  have c14_10 := c10_10.other W13 (Or.inl hne_o0_tsA)
  have c14_11 := c10_11.other W13 (Or.inl hne_o0_tsA)
  have c14_12 := c10_12.other W13 (Or.inl hne_o0_tsA)
  have c14_13 := c10_13.other W13 (Or.inl hne_o0_tsA)
  have c14_14 := c10_14.other W13 (Or.inl hne_o0_tsA)
  have c14_15 := c10_15.other W13 hne_sA_tsA
  have c14_16 := c10_16.other W13 hne_tvA_tsA
  have c14_17 := V9.other W13 hne_twA_tsA
  have c14_19 := c10_19.other W13 (Ne.symm hne_tsA_tzA)
  have K13 : Keep h0 h13 [tvA, twA, tsA, tzA, o0] := K9.wr W13 (Or.inl (by simp))
  have Z13 := Nat.le_trans Z9 (Keep.of_wr W13).1
  refine Go.via st13 ?_
  refine Vi (T13.setTop (mkF m 103 #[sR o0, sI 0, sI p2, .val (.long q3), .second, .unset] [(.ref o0)])) (fun tZ kZ => ?_) ?_
  · refine XS.aloadN X13.here hx rfl (hb hby d12_102) rfl rfl ?_
    exact kZ
  obtain ⟨T15, X15, e15, st15⟩ := getF X13 hx hZ hown (host := "") (Or.inl (wq hw 17 rfl)) Via.refl e13 c14_14 (g := (mkF m 103 #[sR o0, sI 0, sI p2, .val (.long q3), .second, .unset] [(.ref o0)])) rfl rfl (hb hby d12_103)
  refine Go.via st15 ?_
  refine Vi (T15.setTop (mkF m 107 #[sR o0, sI 0, sI p2, .val (.long q3), .second, .unset] [(.ref o0), (.ref tzA)])) (fun tZ kZ => ?_) ?_
  · refine XS.aloadN X15.here hx rfl (hb hby d12_106) rfl rfl ?_
    exact kZ
  obtain ⟨T16, X16, e16, st16⟩ := getF X15 hx hZ hown (host := "") (Or.inl (wq hw 56 rfl)) Via.refl e15 c14_1 (g := (mkF m 107 #[sR o0, sI 0, sI p2, .val (.long q3), .second, .unset] [(.ref o0), (.ref tzA)])) rfl rfl (hb hby d12_107)
  refine Go.via st16 ?_
  refine Vi (T16.setTop (mkF m 111 #[sR o0, sI 0, sI p2, .val (.long q3), .second, .unset] [(.ref o0), (.int tl), (.ref tzA)])) (fun tZ kZ => ?_) ?_
  · refine XS.aloadN X16.here hx rfl (hb hby d12_110) rfl rfl ?_
    exact kZ
  obtain ⟨T17, X17, e17, st17⟩ := getF X16 hx hZ hown (host := "") (Or.inl (wq hw 34 rfl)) Via.refl e16 c14_6 (g := (mkF m 111 #[sR o0, sI 0, sI p2, .val (.long q3), .second, .unset] [(.ref o0), (.int tl), (.ref tzA)])) rfl rfl (hb hby d12_111)
  refine Go.via st17 ?_
  refine Vi (T17.setTop (mkF m 116 #[sR o0, sI 0, sI p2, .val (.long q3), .second, .unset] [(.int (sF (0 : Int32).toNatClampNeg)), (.int tl), (.ref tzA)])) (fun tZ kZ => ?_) ?_
  · refine XS.iloadN X17.here hx rfl (hb hby d12_114) rfl ?_
    refine AV.iaload c14_15 X17 hx hZ e17 (j := (0 : Int32)) (by decide) (hb hby d12_115) ?_
    exact kZ
  obtain ⟨T18, h18, X18, e18, W18, V18, st18⟩ := AV.iastore c14_19 X17 hx hZ e17 (j := tl) htb (Ls := #[sR o0, sI 0, sI p2, .val (.long q3), .second, .unset]) (rest := []) (hb hby d12_116) (x := (sF (0 : Int32).toNatClampNeg))
  have N18 := Fr.snoc X18 N13 ha24
  have c19_0 := c14_0.wr W18
  have c19_1 := c14_1.other W18 (Or.inl hne_o0_tzA)
  have c19_2 := c14_2.other W18 (Or.inl hne_o0_tzA)
  have c19_3 := c14_3.other W18 (Or.inl hne_o0_tzA)
  have c19_4 := c14_4.other W18 (Or.inl hne_o0_tzA)
  have c19_5 := c14_5.other W18 (Or.inl hne_o0_tzA)
  have c19_6 := c14_6.other W18 (Or.inl hne_o0_tzA)
  have c19_7 := c14_7.other W18 (Or.inl hne_o0_tzA)
  have c19_8 := c14_8.other W18 (Or.inl hne_o0_tzA)
  have c19_9 := c14_9.other W18 (Or.inl hne_o0_tzA)
  have c19_10 := c14_10.other W18 (Or.inl hne_o0_tzA)
  have c19_11 := c14_11.other W18 (Or.inl hne_o0_tzA)
  have c19_12 := c14_12.other W18 (Or.inl hne_o0_tzA)
  have c19_13 := c14_13.other W18 (Or.inl hne_o0_tzA)
  have c19_14 := c14_14.other W18 (Or.inl hne_o0_tzA)
  have c19_15 := c14_15.other W18 hne_sA_tzA
  have c19_16 := c14_16.other W18 hne_tvA_tzA
  have c19_17 := c14_17.other W18 hne_twA_tzA
  have c19_18 := V13.other W18 hne_tsA_tzA
  have K18 : Keep h0 h18 [tvA, twA, tsA, tzA, o0] := K13.wr W18 (Or.inl (by simp))
  have Z18 := Nat.le_trans Z13 (Keep.of_wr W18).1
  refine Go.via st18 ?_
  refine Vi (T18.setTop (mkF m 119 #[sR o0, sI 0, sI p2, .val (.long q3), .second, .unset] [(.ref o0), (.ref o0)])) (fun tZ kZ => ?_) ?_
  · refine XS.aloadN X18.here hx rfl (hb hby d12_117) rfl rfl ?_
    refine XS.dup X18.here hx rfl (hb hby d12_118) rfl rfl ?_
    exact kZ
  obtain ⟨T20, X20, e20, st20⟩ := getF X18 hx hZ hown (host := "") (Or.inl (wq hw 56 rfl)) Via.refl e18 c19_1 (g := (mkF m 119 #[sR o0, sI 0, sI p2, .val (.long q3), .second, .unset] [(.ref o0), (.ref o0)])) rfl rfl (hb hby d12_119)
  refine Go.via st20 ?_
  refine Vi (T20.setTop (mkF m 124 #[sR o0, sI 0, sI p2, .val (.long q3), .second, .unset] [(.int (tl + (1 : Int32))), (.ref o0)])) (fun tZ kZ => ?_) ?_
  · refine XS.iconst X20.here hx rfl (hb hby d12_122) ?_
    refine XS.iadd X20.here hx rfl (hb hby d12_123) rfl ?_
    exact kZ
  obtain ⟨T21, h21, X21, e21, W21, st21⟩ := putF X20 hx hZ hown (host := "") (Or.inl (wq hw 56 rfl)) Via.refl e20 c19_1 c19_0 (Or.inl (wq hw 57 rfl)) (wq hw 1 rfl) (ty := .int) (by decide) rfl rfl (g := (mkF m 124 #[sR o0, sI 0, sI p2, .val (.long q3), .second, .unset] [(.int (tl + (1 : Int32))), (.ref o0)])) rfl rfl (hb hby d12_124)
  have N21 := Fr.snoc X21 N18 ha20
  have c22_0 := c19_0.wr W21
  have c22_2 := c19_2.other W21 (Or.inr (slot_ne (Or.inl (wq hw 64 rfl)) (Or.inl (wq hw 57 rfl)) (by decide) (t := .int) (t' := .int) (by decide) (by decide)))
  have c22_3 := c19_3.other W21 (Or.inr (slot_ne (Or.inl (wq hw 71 rfl)) (Or.inl (wq hw 57 rfl)) (by decide) (t := (.object "com/example/whittle/whittle/engine/Domains$RemovalListener")) (t' := .int) (by decide) (by decide)))
  have c22_4 := c19_4.other W21 (Or.inr (slot_ne (Or.inr (wq hw 37 rfl)) (Or.inl (wq hw 57 rfl)) (by decide) (t := (.array .int)) (t' := .int) (by decide) (by decide)))
  have c22_5 := c19_5.other W21 (Or.inr (slot_ne (Or.inr (wq hw 39 rfl)) (Or.inl (wq hw 57 rfl)) (by decide) (t := (.array .int)) (t' := .int) (by decide) (by decide)))
  have c22_6 := c19_6.other W21 (Or.inr (slot_ne (Or.inr (wq hw 35 rfl)) (Or.inl (wq hw 57 rfl)) (by decide) (t := (.array .int)) (t' := .int) (by decide) (by decide)))
  have c22_7 := c19_7.other W21 (Or.inr (slot_ne (Or.inr (wq hw 29 rfl)) (Or.inl (wq hw 57 rfl)) (by decide) (t := (.array .int)) (t' := .int) (by decide) (by decide)))
  have c22_8 := c19_8.other W21 (Or.inr (slot_ne (Or.inr (wq hw 42 rfl)) (Or.inl (wq hw 57 rfl)) (by decide) (t := (.array .int)) (t' := .int) (by decide) (by decide)))
  have c22_9 := c19_9.other W21 (Or.inr (slot_ne (Or.inr (wq hw 45 rfl)) (Or.inl (wq hw 57 rfl)) (by decide) (t := (.array .boolean)) (t' := .int) (by decide) (by decide)))
  have c22_10 := c19_10.other W21 (Or.inr (slot_ne (Or.inr (wq hw 33 rfl)) (Or.inl (wq hw 57 rfl)) (by decide) (t := (.array (.array .long))) (t' := .int) (by decide) (by decide)))
  have c22_11 := c19_11.other W21 (Or.inr (slot_ne (Or.inl (wq hw 11 rfl)) (Or.inl (wq hw 57 rfl)) (by decide) (t := (.array .int)) (t' := .int) (by decide) (by decide)))
  have c22_12 := c19_12.other W21 (Or.inr (slot_ne (Or.inl (wq hw 13 rfl)) (Or.inl (wq hw 57 rfl)) (by decide) (t := (.array .int)) (t' := .int) (by decide) (by decide)))
  have c22_13 := c19_13.other W21 (Or.inr (slot_ne (Or.inl (wq hw 16 rfl)) (Or.inl (wq hw 57 rfl)) (by decide) (t := (.array .long)) (t' := .int) (by decide) (by decide)))
  have c22_14 := c19_14.other W21 (Or.inr (slot_ne (Or.inl (wq hw 18 rfl)) (Or.inl (wq hw 57 rfl)) (by decide) (t := (.array .int)) (t' := .int) (by decide) (by decide)))
  have c22_15 := c19_15.other W21 (Ne.symm hne_o0_sA)
  have c22_16 := c19_16.other W21 (Ne.symm hne_o0_tvA)
  have c22_17 := c19_17.other W21 (Ne.symm hne_o0_twA)
  have c22_18 := c19_18.other W21 (Ne.symm hne_o0_tsA)
  have c22_19 := V18.other W21 (Ne.symm hne_o0_tzA)
  have K21 : Keep h0 h21 [tvA, twA, tsA, tzA, o0] := K18.wr W21 (Or.inl (by simp))
  have Z21 := Nat.le_trans Z18 (Keep.of_wr W21).1
  have Fw21 := c19_1.same W21
  refine Go.via st21 ?_
  refine Go.retV X21 hx Bd.notSynchronized Bd.returns (hb hby d12_127) (by decide) (by decide) ?_
  rw [e21]
  exact ⟨rfl, N21, K21, c22_0, Fw21, c22_2, c22_3, c22_4, c22_5, c22_6, c22_7, c22_8, c22_9, c22_10, c22_11, c22_12, c22_13, c22_14, c22_15, c22_16, c22_17, c22_18, c22_19⟩
theorem d11_0 : decode B11 0 = .ok (.aload_n 0, 1) := by decide +kernel
theorem d11_1 : decode B11 1 = .ok (.iload_n 1, 1) := by decide +kernel
theorem d11_2 : decode B11 2 = .ok (.iconst (-1), 1) := by decide +kernel
theorem d11_3 : decode B11 3 = .ok (.aload_n 0, 1) := by decide +kernel
theorem d11_4 : decode B11 4 = .ok (.getfield 39, 3) := by decide +kernel
theorem d11_7 : decode B11 7 = .ok (.iload_n 1, 1) := by decide +kernel
theorem d11_8 : decode B11 8 = .ok (.iaload, 1) := by decide +kernel
theorem d11_9 : decode B11 9 = .ok (.i2l, 1) := by decide +kernel
theorem d11_10 : decode B11 10 = .ok (.bipush 32, 2) := by decide +kernel
theorem d11_12 : decode B11 12 = .ok (.lshl, 1) := by decide +kernel
theorem d11_13 : decode B11 13 = .ok (.aload_n 0, 1) := by decide +kernel
theorem d11_14 : decode B11 14 = .ok (.getfield 42, 3) := by decide +kernel
theorem d11_17 : decode B11 17 = .ok (.iload_n 1, 1) := by decide +kernel
theorem d11_18 : decode B11 18 = .ok (.iaload, 1) := by decide +kernel
theorem d11_19 : decode B11 19 = .ok (.i2l, 1) := by decide +kernel
theorem d11_20 : decode B11 20 = .ok (.ldc2_w 136, 3) := by decide +kernel
theorem d11_23 : decode B11 23 = .ok (.land, 1) := by decide +kernel
theorem d11_24 : decode B11 24 = .ok (.lor, 1) := by decide +kernel
theorem pd_7 : parseMethodDescriptor "(IIJ)V" = some ⟨[.int, .int, .long], none⟩ := by decide +kernel
theorem d11_25 : decode B11 25 = .ok (.invokevirtual 113, 3) := by decide +kernel
theorem d11_28 : decode B11 28 = .ok (.aload_n 0, 1) := by decide +kernel
theorem d11_29 : decode B11 29 = .ok (.getfield 39, 3) := by decide +kernel
theorem d11_32 : decode B11 32 = .ok (.iload_n 1, 1) := by decide +kernel
theorem d11_33 : decode B11 33 = .ok (.iload_n 2, 1) := by decide +kernel
theorem d11_34 : decode B11 34 = .ok (.iastore, 1) := by decide +kernel
theorem d11_35 : decode B11 35 = .ok (.aload_n 0, 1) := by decide +kernel
theorem d11_36 : decode B11 36 = .ok (.getfield 42, 3) := by decide +kernel
theorem d11_39 : decode B11 39 = .ok (.iload_n 1, 1) := by decide +kernel
theorem d11_40 : decode B11 40 = .ok (.iload_n 3, 1) := by decide +kernel
theorem d11_41 : decode B11 41 = .ok (.iastore, 1) := by decide +kernel
theorem d11_42 : decode B11 42 = .ok (.aload_n 0, 1) := by decide +kernel
theorem d11_43 : decode B11 43 = .ok (.getfield 36, 3) := by decide +kernel
theorem d11_46 : decode B11 46 = .ok (.iload_n 1, 1) := by decide +kernel
theorem d11_47 : decode B11 47 = .ok (.iload 4, 2) := by decide +kernel
theorem d11_49 : decode B11 49 = .ok (.iastore, 1) := by decide +kernel
theorem d11_50 : decode B11 50 = .ok (.return_, 1) := by decide +kernel
def Q11 (Z : State) (o0 : Addr) (p2 : Int32) (p3 : Int32) (p4 : Int32) (tl : Int32) (cc : Int32) (lA : Addr) (hA : Addr) (sA : Addr) (cA : Addr) (chA : Addr) (icA : Addr) (bA : Addr) (tvA : Addr) (twA : Addr) (tsA : Addr) (tzA : Addr) (sF : Nat → Int32) (lF : Nat → Int32) (hF : Nat → Int32) (tvF : Nat → Int32) (twF : Nat → Int32) (tsF : Nat → Int64) (tzF : Nat → Int32) (h0 : Heap) (n0 : Nat) (v : Option Value) (h : Heap) (L : List Loc) : Prop := v = none ∧ Fr n0 L ∧ Keep h0 h [tvA, twA, tsA, tzA, o0, lA, hA, sA] ∧ Exa Z h o0 "com/example/whittle/whittle/engine/Domains" ∧ Fld Z h o0 "com/example/whittle/whittle/engine/Domains" "trailLength" "I" (.int (tl + (1 : Int32))) ∧ Fld Z h o0 "com/example/whittle/whittle/engine/Domains" "changedCount" "I" (.int cc) ∧ Fld Z h o0 "com/example/whittle/whittle/engine/Domains" "listener" "Lcom/example/whittle/whittle/engine/Domains$RemovalListener;" .null ∧ Fld Z h o0 "com/example/whittle/whittle/engine/Domains" "low" "[I" (.ref lA) ∧ Fld Z h o0 "com/example/whittle/whittle/engine/Domains" "high" "[I" (.ref hA) ∧ Fld Z h o0 "com/example/whittle/whittle/engine/Domains" "sizes" "[I" (.ref sA) ∧ Fld Z h o0 "com/example/whittle/whittle/engine/Domains" "capacities" "[I" (.ref cA) ∧ Fld Z h o0 "com/example/whittle/whittle/engine/Domains" "changed" "[I" (.ref chA) ∧ Fld Z h o0 "com/example/whittle/whittle/engine/Domains" "isChanged" "[Z" (.ref icA) ∧ Fld Z h o0 "com/example/whittle/whittle/engine/Domains" "bits" "[[J" (.ref bA) ∧ Fld Z h o0 "com/example/whittle/whittle/engine/Domains" "trailVariable" "[I" (.ref tvA) ∧ Fld Z h o0 "com/example/whittle/whittle/engine/Domains" "trailWord" "[I" (.ref twA) ∧ Fld Z h o0 "com/example/whittle/whittle/engine/Domains" "trailSaved" "[J" (.ref tsA) ∧ Fld Z h o0 "com/example/whittle/whittle/engine/Domains" "trailSize" "[I" (.ref tzA) ∧ AV Z h sA .int 1 (fun k => .int ((up sF (0 : Int32).toNatClampNeg p4) k)) ∧ AV Z h lA .int 1 (fun k => .int ((up lF (0 : Int32).toNatClampNeg p2) k)) ∧ AV Z h hA .int 1 (fun k => .int ((up hF (0 : Int32).toNatClampNeg p3) k)) ∧ AV Z h tvA .int 1024 (fun k => .int ((up tvF tl.toNatClampNeg (0 : Int32)) k)) ∧ AV Z h twA .int 1024 (fun k => .int ((up twF tl.toNatClampNeg (-1 : Int32)) k)) ∧ AV Z h tsA .long 1024 (fun k => .long ((up tsF tl.toNatClampNeg ((((lF (0 : Int32).toNatClampNeg).toInt64) <<< ((32 : Int32) &&& 0x3f).toInt64) ||| (((hF (0 : Int32).toNatClampNeg).toInt64) &&& (4294967295 : Int64)))) k)) ∧ AV Z h tzA .int 1024 (fun k => .int ((up tzF tl.toNatClampNeg (sF (0 : Int32).toNatClampNeg)) k))
abbrev RM_1_0_0_17 : Room := { frames := 1, cells := 0, slots := 0, locals := 17 }
theorem ef_11_aaaaa (m : MethodId) (x0 : Addr) (x1 : Int32) (x2 : Int32) (x3 : Int32) (x4 : Int32) : entryFrame m #[(.ref x0), (.int x1), (.int x2), (.int x3), (.int x4)] 5 = mkF m 0 #[.val (.ref x0), .val (.int x1), .val (.int x2), .val (.int x3), .val (.int x4)] [] := by first | (simp [entryFrame, mkF, argsToLocals, Value.category]; done) | rfl
theorem rm11 (l : Launch) (Z : State) (a0 : Array Value) (hw : HW a0 Z) (ws : List Jvm.Cond) (o0 : Addr) (p2 : Int32) (p3 : Int32) (p4 : Int32) (tl : Int32) (cc : Int32) (lA : Addr) (hA : Addr) (sA : Addr) (cA : Addr) (chA : Addr) (icA : Addr) (bA : Addr) (tvA : Addr) (twA : Addr) (tsA : Addr) (tzA : Addr) (sF : Nat → Int32) (lF : Nat → Int32) (hF : Nat → Int32) (tvF : Nat → Int32) (twF : Nat → Int32) (tsF : Nat → Int64) (tzF : Nat → Int32) (h0 : Heap) (n0 : Nat) (Z0 : n0 ≤ h0.size) (ha0 : Exa Z h0 o0 "com/example/whittle/whittle/engine/Domains") (ha1 : Fld Z h0 o0 "com/example/whittle/whittle/engine/Domains" "trailLength" "I" (.int tl)) (ha2 : Fld Z h0 o0 "com/example/whittle/whittle/engine/Domains" "changedCount" "I" (.int cc)) (ha3 : Fld Z h0 o0 "com/example/whittle/whittle/engine/Domains" "listener" "Lcom/example/whittle/whittle/engine/Domains$RemovalListener;" .null) (ha4 : Fld Z h0 o0 "com/example/whittle/whittle/engine/Domains" "low" "[I" (.ref lA)) (ha5 : Fld Z h0 o0 "com/example/whittle/whittle/engine/Domains" "high" "[I" (.ref hA)) (ha6 : Fld Z h0 o0 "com/example/whittle/whittle/engine/Domains" "sizes" "[I" (.ref sA)) (ha7 : Fld Z h0 o0 "com/example/whittle/whittle/engine/Domains" "capacities" "[I" (.ref cA)) (ha8 : Fld Z h0 o0 "com/example/whittle/whittle/engine/Domains" "changed" "[I" (.ref chA)) (ha9 : Fld Z h0 o0 "com/example/whittle/whittle/engine/Domains" "isChanged" "[Z" (.ref icA)) (ha10 : Fld Z h0 o0 "com/example/whittle/whittle/engine/Domains" "bits" "[[J" (.ref bA)) (ha11 : Fld Z h0 o0 "com/example/whittle/whittle/engine/Domains" "trailVariable" "[I" (.ref tvA)) (ha12 : Fld Z h0 o0 "com/example/whittle/whittle/engine/Domains" "trailWord" "[I" (.ref twA)) (ha13 : Fld Z h0 o0 "com/example/whittle/whittle/engine/Domains" "trailSaved" "[J" (.ref tsA)) (ha14 : Fld Z h0 o0 "com/example/whittle/whittle/engine/Domains" "trailSize" "[I" (.ref tzA)) (ha15 : AV Z h0 sA .int 1 (fun k => .int (sF k))) (ha16 : AV Z h0 lA .int 1 (fun k => .int (lF k))) (ha17 : AV Z h0 hA .int 1 (fun k => .int (hF k))) (ha18 : AV Z h0 tvA .int 1024 (fun k => .int (tvF k))) (ha19 : AV Z h0 twA .int 1024 (fun k => .int (twF k))) (ha20 : AV Z h0 tsA .long 1024 (fun k => .long (tsF k))) (ha21 : AV Z h0 tzA .int 1024 (fun k => .int (tzF k))) (ha22 : n0 ≤ o0) (ha23 : n0 ≤ sA) (ha24 : n0 ≤ lA) (ha25 : n0 ≤ hA) (ha26 : n0 ≤ tvA) (ha27 : n0 ≤ twA) (ha28 : n0 ≤ tsA) (ha29 : n0 ≤ tzA) (hne_o0_sA : o0 ≠ sA) (hne_o0_lA : o0 ≠ lA) (hne_o0_hA : o0 ≠ hA) (hne_o0_tvA : o0 ≠ tvA) (hne_o0_twA : o0 ≠ twA) (hne_o0_tsA : o0 ≠ tsA) (hne_o0_tzA : o0 ≠ tzA) (hne_sA_lA : sA ≠ lA) (hne_sA_hA : sA ≠ hA) (hne_sA_tvA : sA ≠ tvA) (hne_sA_twA : sA ≠ twA) (hne_sA_tsA : sA ≠ tsA) (hne_sA_tzA : sA ≠ tzA) (hne_lA_hA : lA ≠ hA) (hne_lA_tvA : lA ≠ tvA) (hne_lA_twA : lA ≠ twA) (hne_lA_tsA : lA ≠ tsA) (hne_lA_tzA : lA ≠ tzA) (hne_hA_tvA : hA ≠ tvA) (hne_hA_twA : hA ≠ twA) (hne_hA_tsA : hA ≠ tsA) (hne_hA_tzA : hA ≠ tzA) (hne_tvA_twA : tvA ≠ twA) (hne_tvA_tsA : tvA ≠ tsA) (hne_tvA_tzA : tvA ≠ tzA) (hne_twA_tsA : twA ≠ tsA) (hne_twA_tzA : twA ≠ tzA) (hne_tsA_tzA : tsA ≠ tzA) (htl : ¬ tl = (1024 : Int32)) (htb : ¬ tl < 0 ∧ tl.toNatClampNeg < 1024) :
    MetFree l y11 (head1 (Jvm.Cond.code y11 prog_22_method_23_code 5 none :: ws) RM_1_0_0_17) (fun a U => a = #[(.ref o0), (.int 0), (.int p2), (.int p3), (.int p4)] ∧ Z.Warmed39 U.vm ∧ U.heap = h0) (fun _ _ _ _ _ => True) (fun _ U o U' => ∃ v L, o = .returned v ∧ Q11 Z o0 p2 p3 p4 tl cc lA hA sA cA chA icA bA tvA twA tsA tzA sF lF hF tvF twF tsF tzF h0 n0 v U'.heap L ∧ FrameEnd U o U' L RM_1_0_0_17.cells RM_1_0_0_17.slots) := by
  refine MetFree.of_bodySF (plainFor_of_name pn_2) hisR ?_
  intro p e s m args below meth c s₁ Bd hml0 hP hK
  obtain ⟨rfl, hZ, hh⟩ := hP
  have hx := Bd.exec
  have hby := Bd.bytes
  have hml : c.maxLocals = 5 := hml0
  have hown : s.vm.findClass "com/example/whittle/whittle/engine/Domains" = some m.cls := findClass_of_methodNamed Bd.named
  have X0 : Stand p l e RM_1_0_0_17 s m _ below meth c s₁ [] 0 0 := Stand.of_body Bd
  have e0 : s₁.heap = h0 := by rw [← hh, Bd.state]; rfl
  have N0 := Fr.nil n0
  refine Go.into (P := fun oo uu => ∃ v L, oo = .returned v ∧ Q11 Z o0 p2 p3 p4 tl cc lA hA sA cA chA icA bA tvA twA tsA tzA sF lF hF tvF twF tsF tzF h0 n0 v uu.heap L ∧ FrameEnd s oo uu L RM_1_0_0_17.cells RM_1_0_0_17.slots) (ef_11_aaaaa m o0 (0 : Int32) p2 p3 p4) ?_
  show Go p e below _ (s₁.setTop (mkF m 0 #[sR o0, sI 0, sI p2, sI p3, sI p4] []))
  refine Vi (s₁.setTop (mkF m 4 #[sR o0, sI 0, sI p2, sI p3, sI p4] [(.ref o0), (.int (-1)), (.int 0), (.ref o0)])) (fun tZ kZ => ?_) ?_
  · refine XS.aloadN X0.here hx rfl (hb hby d11_0) rfl rfl ?_
    refine XS.iloadN X0.here hx rfl (hb hby d11_1) rfl ?_
    refine XS.iconst X0.here hx rfl (hb hby d11_2) ?_
    refine XS.aloadN X0.here hx rfl (hb hby d11_3) rfl rfl ?_
    exact kZ
  obtain ⟨T1, X1, e1, st1⟩ := getF X0 hx hZ hown (host := "") (Or.inl (wq hw 36 rfl)) Via.refl e0 ha4 (g := (mkF m 4 #[sR o0, sI 0, sI p2, sI p3, sI p4] [(.ref o0), (.int (-1)), (.int 0), (.ref o0)])) rfl rfl (hb hby d11_4)
  refine Go.via st1 ?_
  refine Vi (T1.setTop (mkF m 14 #[sR o0, sI 0, sI p2, sI p3, sI p4] [(.ref o0), (.long (((lF (0 : Int32).toNatClampNeg).toInt64) <<< ((32 : Int32) &&& 0x3f).toInt64)), (.int (-1)), (.int 0), (.ref o0)])) (fun tZ kZ => ?_) ?_
  · refine XS.iloadN X1.here hx rfl (hb hby d11_7) rfl ?_
    refine AV.iaload ha16 X1 hx hZ e1 (j := (0 : Int32)) (by decide) (hb hby d11_8) ?_
    refine XS.i2l X1.here hx rfl (hb hby d11_9) rfl ?_
    refine XS.bipush X1.here hx rfl (hb hby d11_10) ?_
    refine XS.lshl X1.here hx rfl (hb hby d11_12) rfl ?_
    refine XS.aloadN X1.here hx rfl (hb hby d11_13) rfl rfl ?_
    exact kZ
  obtain ⟨T2, X2, e2, st2⟩ := getF X1 hx hZ hown (host := "") (Or.inl (wq hw 38 rfl)) Via.refl e1 ha5 (g := (mkF m 14 #[sR o0, sI 0, sI p2, sI p3, sI p4] [(.ref o0), (.long (((lF (0 : Int32).toNatClampNeg).toInt64) <<< ((32 : Int32) &&& 0x3f).toInt64)), (.int (-1)), (.int 0), (.ref o0)])) rfl rfl (hb hby d11_14)
  refine Go.via st2 ?_
  refine Vi (T2.setTop (mkF m 25 #[sR o0, sI 0, sI p2, sI p3, sI p4] [(.long ((((lF (0 : Int32).toNatClampNeg).toInt64) <<< ((32 : Int32) &&& 0x3f).toInt64) ||| (((hF (0 : Int32).toNatClampNeg).toInt64) &&& (4294967295 : Int64)))), (.int (-1)), (.int 0), (.ref o0)])) (fun tZ kZ => ?_) ?_
  · refine XS.iloadN X2.here hx rfl (hb hby d11_17) rfl ?_
    refine AV.iaload ha17 X2 hx hZ e2 (j := (0 : Int32)) (by decide) (hb hby d11_18) ?_
    refine XS.i2l X2.here hx rfl (hb hby d11_19) rfl ?_
    refine X2.ldc2Long hx hown (wz hZ hw 93 rfl) (g := (mkF m 20 #[sR o0, sI 0, sI p2, sI p3, sI p4] [(.long ((hF (0 : Int32).toNatClampNeg).toInt64)), (.long (((lF (0 : Int32).toNatClampNeg).toInt64) <<< ((32 : Int32) &&& 0x3f).toInt64)), (.int (-1)), (.int 0), (.ref o0)])) rfl (hb hby d11_20) _ ?_
    refine XS.land X2.here hx rfl (hb hby d11_23) rfl ?_
    refine XS.lor X2.here hx rfl (hb hby d11_24) rfl ?_
    exact kZ
  obtain ⟨cq3, q3, q3'⟩ := ha0.cell
  obtain ⟨_, _, ⟨T3, L3, k3, n3⟩, -, X3, ⟨Lc3, hQ3, l3, y3, z3⟩, st3⟩ := X2.privateBack hx (y := y12) hown (wz hZ hw 94 rfl) (wz hZ hw 95 rfl) (mvT hZ (own_selp (y := y12) (wq hw 95 rfl) (wq hw 96 rfl) (wq hw 1 rfl) (by decide))) (Cond.privateMethod_at (mvP hZ (wq hw 96 rfl) (args := #[]))) (wz hZ hw 97 rfl) (by decide) (backOf (W := 0) (rm12 l Z a0 hw [] o0 (-1 : Int32) ((((lF (0 : Int32).toNatClampNeg).toInt64) <<< ((32 : Int32) &&& 0x3f).toInt64) ||| (((hF (0 : Int32).toNatClampNeg).toInt64) &&& (4294967295 : Int64))) tl cc lA hA sA cA chA icA bA tvA twA tsA tzA sF tvF twF tsF tzF h0 n0 Z0 ha0 ha1 ha2 ha3 ha4 ha5 ha6 ha7 ha8 ha9 ha10 ha11 ha12 ha13 ha14 ha15 ha18 ha19 ha20 ha21 ha22 ha26 ha27 ha28 ha29 hne_o0_sA hne_o0_tvA hne_o0_twA hne_o0_tsA hne_o0_tzA hne_sA_tvA hne_sA_twA hne_sA_tsA hne_sA_tzA hne_tvA_twA hne_tvA_tsA hne_tvA_tzA hne_twA_tsA hne_twA_tzA hne_tsA_tzA htl htb) hZ (wq hw 97 rfl) (wq hw 2 rfl) (by decide) (by decide)) (g := (mkF m 25 #[sR o0, sI 0, sI p2, sI p3, sI p4] [(.long ((((lF (0 : Int32).toNatClampNeg).toInt64) <<< ((32 : Int32) &&& 0x3f).toInt64) ||| (((hF (0 : Int32).toNatClampNeg).toInt64) &&& (4294967295 : Int64)))), (.int (-1)), (.int 0), (.ref o0)])) rfl (by rw [hml]; rfl) (Steps.refl _) (a := o0) (by rw [e2]; exact q3) q3' (argsL := [(.int 0), (.int (-1)), (.long ((((lF (0 : Int32).toNatClampNeg).toInt64) <<< ((32 : Int32) &&& 0x3f).toInt64) ||| (((hF (0 : Int32).toNatClampNeg).toInt64) &&& (4294967295 : Int64))))]) (rest := []) (lenOf pd_7 rfl) rfl (leW rfl) (hb hby d11_25) (fun _ _ => ⟨rfl, e2, (by decide : 0 + 0 ≤ _), (by decide : 0 + 0 ≤ _)⟩)
  dsimp only [Pt.U, Pt.locs, Pt.cells, Pt.slots] at X3 l3 y3 z3 st3 hQ3
  subst l3 y3 z3
  obtain ⟨rfl, N3q, Kq3, f3_0, f3_1, f3_2, f3_3, f3_4, f3_5, f3_6, f3_7, f3_8, f3_9, f3_10, f3_11, f3_12, f3_13, f3_14, f3_15, f3_16, f3_17, f3_18, f3_19⟩ := hQ3
  have c4_16 := ha16.keep Kq3 (ninS hne_lA_tvA (ninS hne_lA_twA (ninS hne_lA_tsA (ninS hne_lA_tzA (ninS (Ne.symm hne_o0_lA) nin0)))))
  have c4_17 := ha17.keep Kq3 (ninS hne_hA_tvA (ninS hne_hA_twA (ninS hne_hA_tsA (ninS hne_hA_tzA (ninS (Ne.symm hne_o0_hA) nin0)))))
  have K3 : Keep h0 T3.heap [tvA, twA, tsA, tzA, o0, lA, hA, sA] := (Keep.refl h0 [tvA, twA, tsA, tzA, o0, lA, hA, sA]).trans Kq3 (allS (Or.inl (by simp)) (allS (Or.inl (by simp)) (allS (Or.inl (by simp)) (allS (Or.inl (by simp)) (allS (Or.inl (by simp)) all0)))))
  have Z3 := Nat.le_trans Z0 Kq3.1
  have N3 := Fr.app N0 N3q
  refine Go.via (fun t k => st3.trans k) ?_
  refine Vi (T3.setTop (mkF m 29 #[sR o0, sI 0, sI p2, sI p3, sI p4] [(.ref o0)])) (fun tZ kZ => ?_) ?_
  · refine XS.aloadN X3.here hx rfl (hb hby d11_28) rfl rfl ?_
    exact kZ
  obtain ⟨T5, X5, e5, st5⟩ := getF X3 hx hZ hown (host := "") (Or.inl (wq hw 36 rfl)) Via.refl rfl f3_4 (g := (mkF m 29 #[sR o0, sI 0, sI p2, sI p3, sI p4] [(.ref o0)])) rfl rfl (hb hby d11_29)
  refine Go.via st5 ?_
  refine Vi (T5.setTop (mkF m 34 #[sR o0, sI 0, sI p2, sI p3, sI p4] [(.int p2), (.int 0), (.ref lA)])) (fun tZ kZ => ?_) ?_
  · refine XS.iloadN X5.here hx rfl (hb hby d11_32) rfl ?_
    refine XS.iloadN X5.here hx rfl (hb hby d11_33) rfl ?_
    exact kZ
  obtain ⟨T6, h6, X6, e6, W6, V6, st6⟩ := AV.iastore c4_16 X5 hx hZ e5 (j := (0 : Int32)) (by decide) (Ls := #[sR o0, sI 0, sI p2, sI p3, sI p4]) (rest := []) (hb hby d11_34) (x := p2)
  have N6 := Fr.snoc X6 N3 ha24
  have c7_0 := f3_0.wr W6
  have c7_1 := f3_1.other W6 (Or.inl hne_o0_lA)
  have c7_2 := f3_2.other W6 (Or.inl hne_o0_lA)
  have c7_3 := f3_3.other W6 (Or.inl hne_o0_lA)
  have c7_4 := f3_4.other W6 (Or.inl hne_o0_lA)
  have c7_5 := f3_5.other W6 (Or.inl hne_o0_lA)
  have c7_6 := f3_6.other W6 (Or.inl hne_o0_lA)
  have c7_7 := f3_7.other W6 (Or.inl hne_o0_lA)
  have c7_8 := f3_8.other W6 (Or.inl hne_o0_lA)
  have c7_9 := f3_9.other W6 (Or.inl hne_o0_lA)
  have c7_10 := f3_10.other W6 (Or.inl hne_o0_lA)
  have c7_11 := f3_11.other W6 (Or.inl hne_o0_lA)
  have c7_12 := f3_12.other W6 (Or.inl hne_o0_lA)
  have c7_13 := f3_13.other W6 (Or.inl hne_o0_lA)
  have c7_14 := f3_14.other W6 (Or.inl hne_o0_lA)
  have c7_15 := f3_15.other W6 hne_sA_lA
  have c7_17 := c4_17.other W6 (Ne.symm hne_lA_hA)
  have c7_18 := f3_16.other W6 (Ne.symm hne_lA_tvA)
  have c7_19 := f3_17.other W6 (Ne.symm hne_lA_twA)
  have c7_20 := f3_18.other W6 (Ne.symm hne_lA_tsA)
  have c7_21 := f3_19.other W6 (Ne.symm hne_lA_tzA)
  have K6 : Keep h0 h6 [tvA, twA, tsA, tzA, o0, lA, hA, sA] := K3.wr W6 (Or.inl (by simp))
  have Z6 := Nat.le_trans Z3 (Keep.of_wr W6).1
  refine Go.via st6 ?_
  refine Vi (T6.setTop (mkF m 36 #[sR o0, sI 0, sI p2, sI p3, sI p4] [(.ref o0)])) (fun tZ kZ => ?_) ?_
  · refine XS.aloadN X6.here hx rfl (hb hby d11_35) rfl rfl ?_
    exact kZ
  obtain ⟨T8, X8, e8, st8⟩ := getF X6 hx hZ hown (host := "") (Or.inl (wq hw 38 rfl)) Via.refl e6 c7_5 (g := (mkF m 36 #[sR o0, sI 0, sI p2, sI p3, sI p4] [(.ref o0)])) rfl rfl (hb hby d11_36)
  refine Go.via st8 ?_
  refine Vi (T8.setTop (mkF m 41 #[sR o0, sI 0, sI p2, sI p3, sI p4] [(.int p3), (.int 0), (.ref hA)])) (fun tZ kZ => ?_) ?_
  · refine XS.iloadN X8.here hx rfl (hb hby d11_39) rfl ?_
    refine XS.iloadN X8.here hx rfl (hb hby d11_40) rfl ?_
    exact kZ
  obtain ⟨T9, h9, X9, e9, W9, V9, st9⟩ := AV.iastore c7_17 X8 hx hZ e8 (j := (0 : Int32)) (by decide) (Ls := #[sR o0, sI 0, sI p2, sI p3, sI p4]) (rest := []) (hb hby d11_41) (x := p3)
  have N9 := Fr.snoc X9 N6 ha25
  have c10_0 := c7_0.wr W9
  have c10_1 := c7_1.other W9 (Or.inl hne_o0_hA)
  have c10_2 := c7_2.other W9 (Or.inl hne_o0_hA)
  have c10_3 := c7_3.other W9 (Or.inl hne_o0_hA)
  have c10_4 := c7_4.other W9 (Or.inl hne_o0_hA)
  have c10_5 := c7_5.other W9 (Or.inl hne_o0_hA)
  have c10_6 := c7_6.other W9 (Or.inl hne_o0_hA)
  have c10_7 := c7_7.other W9 (Or.inl hne_o0_hA)
  have c10_8 := c7_8.other W9 (Or.inl hne_o0_hA)
  have c10_9 := c7_9.other W9 (Or.inl hne_o0_hA)
  have c10_10 := c7_10.other W9 (Or.inl hne_o0_hA)
  have c10_11 := c7_11.other W9 (Or.inl hne_o0_hA)
  have c10_12 := c7_12.other W9 (Or.inl hne_o0_hA)
  have c10_13 := c7_13.other W9 (Or.inl hne_o0_hA)
  have c10_14 := c7_14.other W9 (Or.inl hne_o0_hA)
  have c10_15 := c7_15.other W9 hne_sA_hA
  have c10_16 := V6.other W9 hne_lA_hA
  have c10_18 := c7_18.other W9 (Ne.symm hne_hA_tvA)
  have c10_19 := c7_19.other W9 (Ne.symm hne_hA_twA)
  have c10_20 := c7_20.other W9 (Ne.symm hne_hA_tsA)
  have c10_21 := c7_21.other W9 (Ne.symm hne_hA_tzA)
  have K9 : Keep h0 h9 [tvA, twA, tsA, tzA, o0, lA, hA, sA] := K6.wr W9 (Or.inl (by simp))
  have Z9 := Nat.le_trans Z6 (Keep.of_wr W9).1
  refine Go.via st9 ?_
  refine Vi (T9.setTop (mkF m 43 #[sR o0, sI 0, sI p2, sI p3, sI p4] [(.ref o0)])) (fun tZ kZ => ?_) ?_
  · refine XS.aloadN X9.here hx rfl (hb hby d11_42) rfl rfl ?_
    exact kZ
  obtain ⟨T11, X11, e11, st11⟩ := getF X9 hx hZ hown (host := "") (Or.inl (wq hw 34 rfl)) Via.refl e9 c10_6 (g := (mkF m 43 #[sR o0, sI 0, sI p2, sI p3, sI p4] [(.ref o0)])) rfl rfl (hb hby d11_43)
  refine Go.via st11 ?_
  refine Vi (T11.setTop (mkF m 49 #[sR o0, sI 0, sI p2, sI p3, sI p4] [(.int p4), (.int 0), (.ref sA)])) (fun tZ kZ => ?_) ?_
  · refine XS.iloadN X11.here hx rfl (hb hby d11_46) rfl ?_
    refine XS.iload X11.here hx rfl (hb hby d11_47) rfl ?_
    exact kZ
  obtain ⟨T12, h12, X12, e12, W12, V12, st12⟩ := AV.iastore c10_15 X11 hx hZ e11 (j := (0 : Int32)) (by decide) (Ls := #[sR o0, sI 0, sI p2, sI p3, sI p4]) (rest := []) (hb hby d11_49) (x := p4)
  have N12 := Fr.snoc X12 N9 ha23
  have c13_0 := c10_0.wr W12
  have c13_1 := c10_1.other W12 (Or.inl hne_o0_sA)
  have c13_2 := c10_2.other W12 (Or.inl hne_o0_sA)
  have c13_3 := c10_3.other W12 (Or.inl hne_o0_sA)
  have c13_4 := c10_4.other W12 (Or.inl hne_o0_sA)
  have c13_5 := c10_5.other W12 (Or.inl hne_o0_sA)
  have c13_6 := c10_6.other W12 (Or.inl hne_o0_sA)
  have c13_7 := c10_7.other W12 (Or.inl hne_o0_sA)
  have c13_8 := c10_8.other W12 (Or.inl hne_o0_sA)
  have c13_9 := c10_9.other W12 (Or.inl hne_o0_sA)
  have c13_10 := c10_10.other W12 (Or.inl hne_o0_sA)
  have c13_11 := c10_11.other W12 (Or.inl hne_o0_sA)
  have c13_12 := c10_12.other W12 (Or.inl hne_o0_sA)
  have c13_13 := c10_13.other W12 (Or.inl hne_o0_sA)
  have c13_14 := c10_14.other W12 (Or.inl hne_o0_sA)
  have c13_16 := c10_16.other W12 (Ne.symm hne_sA_lA)
  have c13_17 := V9.other W12 (Ne.symm hne_sA_hA)
  have c13_18 := c10_18.other W12 (Ne.symm hne_sA_tvA)
  have c13_19 := c10_19.other W12 (Ne.symm hne_sA_twA)
  have c13_20 := c10_20.other W12 (Ne.symm hne_sA_tsA)
  have c13_21 := c10_21.other W12 (Ne.symm hne_sA_tzA)
  have K12 : Keep h0 h12 [tvA, twA, tsA, tzA, o0, lA, hA, sA] := K9.wr W12 (Or.inl (by simp))
  have Z12 := Nat.le_trans Z9 (Keep.of_wr W12).1
  refine Go.via st12 ?_
  refine Go.retV X12 hx Bd.notSynchronized Bd.returns (hb hby d11_50) (by decide) (by decide) ?_
  rw [e12]
  exact ⟨rfl, N12, K12, c13_0, c13_1, c13_2, c13_3, c13_4, c13_5, c13_6, c13_7, c13_8, c13_9, c13_10, c13_11, c13_12, c13_13, c13_14, V12, c13_16, c13_17, c13_18, c13_19, c13_20, c13_21⟩
theorem d13_0 : decode B13 0 = .ok (.aload_n 0, 1) := by decide +kernel
theorem d13_1 : decode B13 1 = .ok (.getfield 48, 3) := by decide +kernel
theorem d13_4 : decode B13 4 = .ok (.iload_n 1, 1) := by decide +kernel
theorem d13_5 : decode B13 5 = .ok (.baload, 1) := by decide +kernel
theorem d13_6 : decode B13 6 = .ok (.ifCond .ne 27, 3) := by decide +kernel
theorem d13_9 : decode B13 9 = .ok (.aload_n 0, 1) := by decide +kernel
theorem d13_10 : decode B13 10 = .ok (.getfield 48, 3) := by decide +kernel
theorem d13_13 : decode B13 13 = .ok (.iload_n 1, 1) := by decide +kernel
theorem d13_14 : decode B13 14 = .ok (.iconst 1, 1) := by decide +kernel
theorem d13_15 : decode B13 15 = .ok (.bastore, 1) := by decide +kernel
theorem d13_16 : decode B13 16 = .ok (.aload_n 0, 1) := by decide +kernel
theorem d13_17 : decode B13 17 = .ok (.getfield 45, 3) := by decide +kernel
theorem d13_20 : decode B13 20 = .ok (.aload_n 0, 1) := by decide +kernel
theorem d13_21 : decode B13 21 = .ok (.dup, 1) := by decide +kernel
theorem d13_22 : decode B13 22 = .ok (.getfield 128, 3) := by decide +kernel
theorem d13_25 : decode B13 25 = .ok (.dup_x1, 1) := by decide +kernel
theorem d13_26 : decode B13 26 = .ok (.iconst 1, 1) := by decide +kernel
theorem d13_27 : decode B13 27 = .ok (.iadd, 1) := by decide +kernel
theorem d13_28 : decode B13 28 = .ok (.putfield 128, 3) := by decide +kernel
theorem d13_31 : decode B13 31 = .ok (.iload_n 1, 1) := by decide +kernel
theorem d13_32 : decode B13 32 = .ok (.iastore, 1) := by decide +kernel
theorem d13_33 : decode B13 33 = .ok (.return_, 1) := by decide +kernel
def Q13n (Z : State) (o0 : Addr) (tl : Int32) (cc : Int32) (lA : Addr) (hA : Addr) (sA : Addr) (cA : Addr) (chA : Addr) (icA : Addr) (bA : Addr) (tvA : Addr) (twA : Addr) (tsA : Addr) (tzA : Addr) (chF : Nat → Int32) (icF : Nat → Int32) (h0 : Heap) (n0 : Nat) (v : Option Value) (h : Heap) (L : List Loc) : Prop := v = none ∧ Fr n0 L ∧ Keep h0 h [icA, o0, chA] ∧ Exa Z h o0 "com/example/whittle/whittle/engine/Domains" ∧ Fld Z h o0 "com/example/whittle/whittle/engine/Domains" "trailLength" "I" (.int tl) ∧ Fld Z h o0 "com/example/whittle/whittle/engine/Domains" "changedCount" "I" (.int (cc + (1 : Int32))) ∧ Fld Z h o0 "com/example/whittle/whittle/engine/Domains" "listener" "Lcom/example/whittle/whittle/engine/Domains$RemovalListener;" .null ∧ Fld Z h o0 "com/example/whittle/whittle/engine/Domains" "low" "[I" (.ref lA) ∧ Fld Z h o0 "com/example/whittle/whittle/engine/Domains" "high" "[I" (.ref hA) ∧ Fld Z h o0 "com/example/whittle/whittle/engine/Domains" "sizes" "[I" (.ref sA) ∧ Fld Z h o0 "com/example/whittle/whittle/engine/Domains" "capacities" "[I" (.ref cA) ∧ Fld Z h o0 "com/example/whittle/whittle/engine/Domains" "changed" "[I" (.ref chA) ∧ Fld Z h o0 "com/example/whittle/whittle/engine/Domains" "isChanged" "[Z" (.ref icA) ∧ Fld Z h o0 "com/example/whittle/whittle/engine/Domains" "bits" "[[J" (.ref bA) ∧ Fld Z h o0 "com/example/whittle/whittle/engine/Domains" "trailVariable" "[I" (.ref tvA) ∧ Fld Z h o0 "com/example/whittle/whittle/engine/Domains" "trailWord" "[I" (.ref twA) ∧ Fld Z h o0 "com/example/whittle/whittle/engine/Domains" "trailSaved" "[J" (.ref tsA) ∧ Fld Z h o0 "com/example/whittle/whittle/engine/Domains" "trailSize" "[I" (.ref tzA) ∧ AV Z h chA .int 1 (fun k => .int ((up chF cc.toNatClampNeg (0 : Int32)) k)) ∧ AV Z h icA .boolean 1 (fun k => .int ((up icF (0 : Int32).toNatClampNeg (1 : Int32)) k))
theorem ef_13_aa (m : MethodId) (x0 : Addr) (x1 : Int32) : entryFrame m #[(.ref x0), (.int x1)] 2 = mkF m 0 #[.val (.ref x0), .val (.int x1)] [] := by first | (simp [entryFrame, mkF, argsToLocals, Value.category]; done) | rfl
theorem rm13n (l : Launch) (Z : State) (a0 : Array Value) (hw : HW a0 Z) (ws : List Jvm.Cond) (o0 : Addr) (tl : Int32) (cc : Int32) (lA : Addr) (hA : Addr) (sA : Addr) (cA : Addr) (chA : Addr) (icA : Addr) (bA : Addr) (tvA : Addr) (twA : Addr) (tsA : Addr) (tzA : Addr) (chF : Nat → Int32) (icF : Nat → Int32) (h0 : Heap) (n0 : Nat) (Z0 : n0 ≤ h0.size) (ha0 : Exa Z h0 o0 "com/example/whittle/whittle/engine/Domains") (ha1 : Fld Z h0 o0 "com/example/whittle/whittle/engine/Domains" "trailLength" "I" (.int tl)) (ha2 : Fld Z h0 o0 "com/example/whittle/whittle/engine/Domains" "changedCount" "I" (.int cc)) (ha3 : Fld Z h0 o0 "com/example/whittle/whittle/engine/Domains" "listener" "Lcom/example/whittle/whittle/engine/Domains$RemovalListener;" .null) (ha4 : Fld Z h0 o0 "com/example/whittle/whittle/engine/Domains" "low" "[I" (.ref lA)) (ha5 : Fld Z h0 o0 "com/example/whittle/whittle/engine/Domains" "high" "[I" (.ref hA)) (ha6 : Fld Z h0 o0 "com/example/whittle/whittle/engine/Domains" "sizes" "[I" (.ref sA)) (ha7 : Fld Z h0 o0 "com/example/whittle/whittle/engine/Domains" "capacities" "[I" (.ref cA)) (ha8 : Fld Z h0 o0 "com/example/whittle/whittle/engine/Domains" "changed" "[I" (.ref chA)) (ha9 : Fld Z h0 o0 "com/example/whittle/whittle/engine/Domains" "isChanged" "[Z" (.ref icA)) (ha10 : Fld Z h0 o0 "com/example/whittle/whittle/engine/Domains" "bits" "[[J" (.ref bA)) (ha11 : Fld Z h0 o0 "com/example/whittle/whittle/engine/Domains" "trailVariable" "[I" (.ref tvA)) (ha12 : Fld Z h0 o0 "com/example/whittle/whittle/engine/Domains" "trailWord" "[I" (.ref twA)) (ha13 : Fld Z h0 o0 "com/example/whittle/whittle/engine/Domains" "trailSaved" "[J" (.ref tsA)) (ha14 : Fld Z h0 o0 "com/example/whittle/whittle/engine/Domains" "trailSize" "[I" (.ref tzA)) (ha15 : AV Z h0 chA .int 1 (fun k => .int (chF k))) (ha16 : AV Z h0 icA .boolean 1 (fun k => .int (icF k))) (ha17 : n0 ≤ o0) (ha18 : n0 ≤ chA) (ha19 : n0 ≤ icA) (hne_o0_chA : o0 ≠ chA) (hne_o0_icA : o0 ≠ icA) (hne_chA_icA : chA ≠ icA) (hic : (icF (0 : Int32).toNatClampNeg) = 0) (hcc : cc = 0) :
    MetFree l y13 (head1 (Jvm.Cond.code y13 prog_22_method_19_code 2 none :: ws) RM_0_0_0_0) (fun a U => a = #[(.ref o0), (.int 0)] ∧ Z.Warmed39 U.vm ∧ U.heap = h0) (fun _ _ _ _ _ => True) (fun _ U o U' => ∃ v L, o = .returned v ∧ Q13n Z o0 tl cc lA hA sA cA chA icA bA tvA twA tsA tzA chF icF h0 n0 v U'.heap L ∧ FrameEnd U o U' L RM_0_0_0_0.cells RM_0_0_0_0.slots) := by
  refine MetFree.of_bodySF (plainFor_of_name pn_2) hisR ?_
  intro p e s m args below meth c s₁ Bd hml0 hP hK
  obtain ⟨rfl, hZ, hh⟩ := hP
  have hx := Bd.exec
  have hby := Bd.bytes
  have hml : c.maxLocals = 2 := hml0
  have hown : s.vm.findClass "com/example/whittle/whittle/engine/Domains" = some m.cls := findClass_of_methodNamed Bd.named
  have X0 : Stand p l e RM_0_0_0_0 s m _ below meth c s₁ [] 0 0 := Stand.of_body Bd
  have e0 : s₁.heap = h0 := by rw [← hh, Bd.state]; rfl
  have N0 := Fr.nil n0
  refine Go.into (P := fun oo uu => ∃ v L, oo = .returned v ∧ Q13n Z o0 tl cc lA hA sA cA chA icA bA tvA twA tsA tzA chF icF h0 n0 v uu.heap L ∧ FrameEnd s oo uu L RM_0_0_0_0.cells RM_0_0_0_0.slots) (ef_13_aa m o0 (0 : Int32)) ?_
  show Go p e below _ (s₁.setTop (mkF m 0 #[sR o0, sI 0] []))
  refine Vi (s₁.setTop (mkF m 1 #[sR o0, sI 0] [(.ref o0)])) (fun tZ kZ => ?_) ?_
  · refine XS.aloadN X0.here hx rfl (hb hby d13_0) rfl rfl ?_
    exact kZ
  obtain ⟨T1, X1, e1, st1⟩ := getF X0 hx hZ hown (host := "") (Or.inl (wq hw 44 rfl)) Via.refl e0 ha9 (g := (mkF m 1 #[sR o0, sI 0] [(.ref o0)])) rfl rfl (hb hby d13_1)
  refine Go.via st1 ?_
  refine Vi (T1.setTop (mkF m 10 #[sR o0, sI 0] [(.ref o0)])) (fun tZ kZ => ?_) ?_
  · refine XS.iloadN X1.here hx rfl (hb hby d13_4) rfl ?_
    refine AV.baload ha16 X1 hx hZ e1 (j := (0 : Int32)) (by decide) (hb hby d13_5) ?_
    refine XS.ifNo X1.here hx rfl (hb hby d13_6) rfl ((if0 _ _).trans (teq hic).2) ?_
    refine XS.aloadN X1.here hx rfl (hb hby d13_9) rfl rfl ?_
    exact kZ
  obtain ⟨T2, X2, e2, st2⟩ := getF X1 hx hZ hown (host := "") (Or.inl (wq hw 44 rfl)) Via.refl e1 ha9 (g := (mkF m 10 #[sR o0, sI 0] [(.ref o0)])) rfl rfl (hb hby d13_10)
  refine Go.via st2 ?_
  refine Vi (T2.setTop (mkF m 15 #[sR o0, sI 0] [(.int 1), (.int 0), (.ref icA)])) (fun tZ kZ => ?_) ?_
  · refine XS.iloadN X2.here hx rfl (hb hby d13_13) rfl ?_
    refine XS.iconst X2.here hx rfl (hb hby d13_14) ?_
    exact kZ
  obtain ⟨T3, h3, X3, e3, W3, V3, st3⟩ := AV.bastoreZ ha16 X2 hx hZ e2 (j := (0 : Int32)) (by decide) (Ls := #[sR o0, sI 0]) (rest := []) (hb hby d13_15) (x := (1 : Int32))
  have N3 := Fr.snoc X3 N0 ha19
  have c4_0 := ha0.wr W3
  have c4_1 := ha1.other W3 (Or.inl hne_o0_icA)
  have c4_2 := ha2.other W3 (Or.inl hne_o0_icA)
  have c4_3 := ha3.other W3 (Or.inl hne_o0_icA)
  have c4_4 := ha4.other W3 (Or.inl hne_o0_icA)
  have c4_5 := ha5.other W3 (Or.inl hne_o0_icA)
  have c4_6 := ha6.other W3 (Or.inl hne_o0_icA)
  have c4_7 := ha7.other W3 (Or.inl hne_o0_icA)
  have c4_8 := ha8.other W3 (Or.inl hne_o0_icA)
  have c4_9 := ha9.other W3 (Or.inl hne_o0_icA)
  have c4_10 := ha10.other W3 (Or.inl hne_o0_icA)
  have c4_11 := ha11.other W3 (Or.inl hne_o0_icA)
  have c4_12 := ha12.other W3 (Or.inl hne_o0_icA)
  have c4_13 := ha13.other W3 (Or.inl hne_o0_icA)
  have c4_14 := ha14.other W3 (Or.inl hne_o0_icA)
  have c4_15 := ha15.other W3 hne_chA_icA
  have K3 : Keep h0 h3 [icA, o0, chA] := (Keep.refl h0 [icA, o0, chA]).wr W3 (Or.inl (by simp))
  have Z3 := Nat.le_trans Z0 (Keep.of_wr W3).1
  refine Go.via st3 ?_
  refine Vi (T3.setTop (mkF m 17 #[sR o0, sI 0] [(.ref o0)])) (fun tZ kZ => ?_) ?_
  · refine XS.aloadN X3.here hx rfl (hb hby d13_16) rfl rfl ?_
    exact kZ
  obtain ⟨T5, X5, e5, st5⟩ := getF X3 hx hZ hown (host := "") (Or.inl (wq hw 41 rfl)) Via.refl e3 c4_8 (g := (mkF m 17 #[sR o0, sI 0] [(.ref o0)])) rfl rfl (hb hby d13_17)
  refine Go.via st5 ?_
  refine Vi (T5.setTop (mkF m 22 #[sR o0, sI 0] [(.ref o0), (.ref o0), (.ref chA)])) (fun tZ kZ => ?_) ?_
  · refine XS.aloadN X5.here hx rfl (hb hby d13_20) rfl rfl ?_
    refine XS.dup X5.here hx rfl (hb hby d13_21) rfl rfl ?_
    exact kZ
  obtain ⟨T6, X6, e6, st6⟩ := getF X5 hx hZ hown (host := "") (Or.inl (wq hw 63 rfl)) Via.refl e5 c4_2 (g := (mkF m 22 #[sR o0, sI 0] [(.ref o0), (.ref o0), (.ref chA)])) rfl rfl (hb hby d13_22)
  refine Go.via st6 ?_
  refine Vi (T6.setTop (mkF m 28 #[sR o0, sI 0] [(.int (cc + (1 : Int32))), (.ref o0), (.int cc), (.ref chA)])) (fun tZ kZ => ?_) ?_
  · refine XS.dupX1 X6.here hx rfl (hb hby d13_25) rfl rfl rfl ?_
    refine XS.iconst X6.here hx rfl (hb hby d13_26) ?_
    refine XS.iadd X6.here hx rfl (hb hby d13_27) rfl ?_
    exact kZ
  obtain ⟨T7, h7, X7, e7, W7, st7⟩ := putF X6 hx hZ hown (host := "") (Or.inl (wq hw 63 rfl)) Via.refl e6 c4_2 c4_0 (Or.inl (wq hw 64 rfl)) (wq hw 1 rfl) (ty := .int) (by decide) rfl rfl (g := (mkF m 28 #[sR o0, sI 0] [(.int (cc + (1 : Int32))), (.ref o0), (.int cc), (.ref chA)])) rfl rfl (hb hby d13_28)
  have N7 := Fr.snoc X7 N3 ha17
  have c8_0 := c4_0.wr W7
  have c8_1 := c4_1.other W7 (Or.inr (slot_ne (Or.inl (wq hw 57 rfl)) (Or.inl (wq hw 64 rfl)) (by decide) (t := .int) (t' := .int) (by decide) (by decide)))
  have c8_3 := c4_3.other W7 (Or.inr (slot_ne (Or.inl (wq hw 71 rfl)) (Or.inl (wq hw 64 rfl)) (by decide) (t := (.object "com/example/whittle/whittle/engine/Domains$RemovalListener")) (t' := .int) (by decide) (by decide)))
  have c8_4 := c4_4.other W7 (Or.inr (slot_ne (Or.inr (wq hw 37 rfl)) (Or.inl (wq hw 64 rfl)) (by decide) (t := (.array .int)) (t' := .int) (by decide) (by decide)))
  have c8_5 := c4_5.other W7 (Or.inr (slot_ne (Or.inr (wq hw 39 rfl)) (Or.inl (wq hw 64 rfl)) (by decide) (t := (.array .int)) (t' := .int) (by decide) (by decide)))
  have c8_6 := c4_6.other W7 (Or.inr (slot_ne (Or.inr (wq hw 35 rfl)) (Or.inl (wq hw 64 rfl)) (by decide) (t := (.array .int)) (t' := .int) (by decide) (by decide)))
  have c8_7 := c4_7.other W7 (Or.inr (slot_ne (Or.inr (wq hw 29 rfl)) (Or.inl (wq hw 64 rfl)) (by decide) (t := (.array .int)) (t' := .int) (by decide) (by decide)))
  have c8_8 := c4_8.other W7 (Or.inr (slot_ne (Or.inr (wq hw 42 rfl)) (Or.inl (wq hw 64 rfl)) (by decide) (t := (.array .int)) (t' := .int) (by decide) (by decide)))
  have c8_9 := c4_9.other W7 (Or.inr (slot_ne (Or.inr (wq hw 45 rfl)) (Or.inl (wq hw 64 rfl)) (by decide) (t := (.array .boolean)) (t' := .int) (by decide) (by decide)))
  have c8_10 := c4_10.other W7 (Or.inr (slot_ne (Or.inr (wq hw 33 rfl)) (Or.inl (wq hw 64 rfl)) (by decide) (t := (.array (.array .long))) (t' := .int) (by decide) (by decide)))
  have c8_11 := c4_11.other W7 (Or.inr (slot_ne (Or.inl (wq hw 11 rfl)) (Or.inl (wq hw 64 rfl)) (by decide) (t := (.array .int)) (t' := .int) (by decide) (by decide)))
  have c8_12 := c4_12.other W7 (Or.inr (slot_ne (Or.inl (wq hw 13 rfl)) (Or.inl (wq hw 64 rfl)) (by decide) (t := (.array .int)) (t' := .int) (by decide) (by decide)))
  have c8_13 := c4_13.other W7 (Or.inr (slot_ne (Or.inl (wq hw 16 rfl)) (Or.inl (wq hw 64 rfl)) (by decide) (t := (.array .long)) (t' := .int) (by decide) (by decide)))
  have c8_14 := c4_14.other W7 (Or.inr (slot_ne (Or.inl (wq hw 18 rfl)) (Or.inl (wq hw 64 rfl)) (by decide) (t := (.array .int)) (t' := .int) (by decide) (by decide)))
  have c8_15 := c4_15.other W7 (Ne.symm hne_o0_chA)
  have c8_16 := V3.other W7 (Ne.symm hne_o0_icA)
  have K7 : Keep h0 h7 [icA, o0, chA] := K3.wr W7 (Or.inl (by simp))
  have Z7 := Nat.le_trans Z3 (Keep.of_wr W7).1
  have Fw7 := c4_2.same W7
  refine Go.via st7 ?_
  refine Vi (T7.setTop (mkF m 32 #[sR o0, sI 0] [(.int 0), (.int cc), (.ref chA)])) (fun tZ kZ => ?_) ?_
  · refine XS.iloadN X7.here hx rfl (hb hby d13_31) rfl ?_
    exact kZ
  obtain ⟨T9, h9, X9, e9, W9, V9, st9⟩ := AV.iastore c8_15 X7 hx hZ e7 (j := cc) (by rw [hcc]; decide) (Ls := #[sR o0, sI 0]) (rest := []) (hb hby d13_32) (x := (0 : Int32))
  have N9 := Fr.snoc X9 N7 ha18
  have c10_0 := c8_0.wr W9
  have c10_1 := c8_1.other W9 (Or.inl hne_o0_chA)
  have c10_2 := Fw7.other W9 (Or.inl hne_o0_chA)
  have c10_3 := c8_3.other W9 (Or.inl hne_o0_chA)
  have c10_4 := c8_4.other W9 (Or.inl hne_o0_chA)
  have c10_5 := c8_5.other W9 (Or.inl hne_o0_chA)
  have c10_6 := c8_6.other W9 (Or.inl hne_o0_chA)
  have c10_7 := c8_7.other W9 (Or.inl hne_o0_chA)
  have c10_8 := c8_8.other W9 (Or.inl hne_o0_chA)
  have c10_9 := c8_9.other W9 (Or.inl hne_o0_chA)
  have c10_10 := c8_10.other W9 (Or.inl hne_o0_chA)
  have c10_11 := c8_11.other W9 (Or.inl hne_o0_chA)
  have c10_12 := c8_12.other W9 (Or.inl hne_o0_chA)
  have c10_13 := c8_13.other W9 (Or.inl hne_o0_chA)
  have c10_14 := c8_14.other W9 (Or.inl hne_o0_chA)
  have c10_16 := c8_16.other W9 (Ne.symm hne_chA_icA)
  have K9 : Keep h0 h9 [icA, o0, chA] := K7.wr W9 (Or.inl (by simp))
  have Z9 := Nat.le_trans Z7 (Keep.of_wr W9).1
  refine Go.via st9 ?_
  refine Go.retV X9 hx Bd.notSynchronized Bd.returns (hb hby d13_33) (by decide) (by decide) ?_
  rw [e9]
  exact ⟨rfl, N9, K9, c10_0, c10_1, c10_2, c10_3, c10_4, c10_5, c10_6, c10_7, c10_8, c10_9, c10_10, c10_11, c10_12, c10_13, c10_14, V9, c10_16⟩
def Q13k (Z : State) (o0 : Addr) (icA : Addr) (icF : Nat → Int32) (h0 : Heap) (n0 : Nat) (v : Option Value) (h : Heap) (L : List Loc) : Prop := v = none ∧ Fr n0 L ∧ h = h0
theorem rm13k (l : Launch) (Z : State) (a0 : Array Value) (hw : HW a0 Z) (ws : List Jvm.Cond) (o0 : Addr) (icA : Addr) (icF : Nat → Int32) (h0 : Heap) (n0 : Nat) (Z0 : n0 ≤ h0.size) (ha0 : Exa Z h0 o0 "com/example/whittle/whittle/engine/Domains") (ha1 : Fld Z h0 o0 "com/example/whittle/whittle/engine/Domains" "isChanged" "[Z" (.ref icA)) (ha2 : AV Z h0 icA .boolean 1 (fun k => .int (icF k))) (hic : ¬ (icF (0 : Int32).toNatClampNeg) = 0) :
    MetFree l y13 (head1 (Jvm.Cond.code y13 prog_22_method_19_code 2 none :: ws) RM_0_0_0_0) (fun a U => a = #[(.ref o0), (.int 0)] ∧ Z.Warmed39 U.vm ∧ U.heap = h0) (fun _ _ _ _ _ => True) (fun _ U o U' => ∃ v L, o = .returned v ∧ Q13k Z o0 icA icF h0 n0 v U'.heap L ∧ FrameEnd U o U' L RM_0_0_0_0.cells RM_0_0_0_0.slots) := by
  refine MetFree.of_bodySF (plainFor_of_name pn_2) hisR ?_
  intro p e s m args below meth c s₁ Bd hml0 hP hK
  obtain ⟨rfl, hZ, hh⟩ := hP
  have hx := Bd.exec
  have hby := Bd.bytes
  have hml : c.maxLocals = 2 := hml0
  have hown : s.vm.findClass "com/example/whittle/whittle/engine/Domains" = some m.cls := findClass_of_methodNamed Bd.named
  have X0 : Stand p l e RM_0_0_0_0 s m _ below meth c s₁ [] 0 0 := Stand.of_body Bd
  have e0 : s₁.heap = h0 := by rw [← hh, Bd.state]; rfl
  have N0 := Fr.nil n0
  refine Go.into (P := fun oo uu => ∃ v L, oo = .returned v ∧ Q13k Z o0 icA icF h0 n0 v uu.heap L ∧ FrameEnd s oo uu L RM_0_0_0_0.cells RM_0_0_0_0.slots) (ef_13_aa m o0 (0 : Int32)) ?_
  show Go p e below _ (s₁.setTop (mkF m 0 #[sR o0, sI 0] []))
  refine Vi (s₁.setTop (mkF m 1 #[sR o0, sI 0] [(.ref o0)])) (fun tZ kZ => ?_) ?_
  · refine XS.aloadN X0.here hx rfl (hb hby d13_0) rfl rfl ?_
    exact kZ
  obtain ⟨T1, X1, e1, st1⟩ := getF X0 hx hZ hown (host := "") (Or.inl (wq hw 44 rfl)) Via.refl e0 ha1 (g := (mkF m 1 #[sR o0, sI 0] [(.ref o0)])) rfl rfl (hb hby d13_1)
  refine Go.via st1 ?_
  refine Vi (T1.setTop (mkF m 33 #[sR o0, sI 0] [])) (fun tZ kZ => ?_) ?_
  · refine XS.iloadN X1.here hx rfl (hb hby d13_4) rfl ?_
    refine AV.baload ha2 X1 hx hZ e1 (j := (0 : Int32)) (by decide) (hb hby d13_5) ?_
    refine XS.ifYes X1.here hx rfl (pc0 := 6) (pc' := 33) rfl (hb hby d13_6) rfl ((if0 _ _).trans (feq hic).2) (by decide) (by decide) ?_
    exact kZ
  refine Go.retV X1 hx Bd.notSynchronized Bd.returns (hb hby d13_33) (by decide) (by decide) ?_
  rw [e1]
  exact ⟨rfl, N0, rfl⟩
theorem d20_0 : decode B20 0 = .ok (.iload_n 3, 1) := by decide +kernel
theorem d20_1 : decode B20 1 = .ok (.bipush 6, 2) := by decide +kernel
theorem d20_3 : decode B20 3 = .ok (.iushr, 1) := by decide +kernel
theorem d20_4 : decode B20 4 = .ok (.iload_n 2, 1) := by decide +kernel
theorem d20_5 : decode B20 5 = .ok (.bipush 6, 2) := by decide +kernel
theorem d20_7 : decode B20 7 = .ok (.iushr, 1) := by decide +kernel
theorem d20_8 : decode B20 8 = .ok (.isub, 1) := by decide +kernel
theorem d20_9 : decode B20 9 = .ok (.iconst 1, 1) := by decide +kernel
theorem d20_10 : decode B20 10 = .ok (.iadd, 1) := by decide +kernel
def w20_0 (p2 : Int32) (p3 : Int32) : Int32 := ((((p3.toUInt32 >>> ((6 : Int32) &&& 31).toUInt32).toInt32) - ((p2.toUInt32 >>> ((6 : Int32) &&& 31).toUInt32).toInt32)) + (1 : Int32))
theorem d20_11 : decode B20 11 = .ok (.istore 5, 2) := by decide +kernel
theorem d20_13 : decode B20 13 = .ok (.aload_n 0, 1) := by decide +kernel
theorem d20_14 : decode B20 14 = .ok (.getfield 42, 3) := by decide +kernel
theorem d20_17 : decode B20 17 = .ok (.iload_n 1, 1) := by decide +kernel
theorem d20_18 : decode B20 18 = .ok (.iaload, 1) := by decide +kernel
theorem d20_19 : decode B20 19 = .ok (.bipush 6, 2) := by decide +kernel
theorem d20_21 : decode B20 21 = .ok (.iushr, 1) := by decide +kernel
theorem d20_22 : decode B20 22 = .ok (.aload_n 0, 1) := by decide +kernel
theorem d20_23 : decode B20 23 = .ok (.getfield 39, 3) := by decide +kernel
theorem d20_26 : decode B20 26 = .ok (.iload_n 1, 1) := by decide +kernel
theorem d20_27 : decode B20 27 = .ok (.iaload, 1) := by decide +kernel
theorem d20_28 : decode B20 28 = .ok (.bipush 6, 2) := by decide +kernel
theorem d20_30 : decode B20 30 = .ok (.iushr, 1) := by decide +kernel
theorem d20_31 : decode B20 31 = .ok (.isub, 1) := by decide +kernel
theorem d20_32 : decode B20 32 = .ok (.iconst 1, 1) := by decide +kernel
theorem d20_33 : decode B20 33 = .ok (.iadd, 1) := by decide +kernel
def w20_1 (lF : Nat → Int32) (hF : Nat → Int32) : Int32 := (((((hF (0 : Int32).toNatClampNeg).toUInt32 >>> ((6 : Int32) &&& 31).toUInt32).toInt32) - (((lF (0 : Int32).toNatClampNeg).toUInt32 >>> ((6 : Int32) &&& 31).toUInt32).toInt32)) + (1 : Int32))
theorem d20_34 : decode B20 34 = .ok (.istore 6, 2) := by decide +kernel
theorem d20_36 : decode B20 36 = .ok (.aload_n 0, 1) := by decide +kernel
theorem d20_37 : decode B20 37 = .ok (.getfield 36, 3) := by decide +kernel
theorem d20_40 : decode B20 40 = .ok (.iload_n 1, 1) := by decide +kernel
theorem d20_41 : decode B20 41 = .ok (.iaload, 1) := by decide +kernel
theorem d20_42 : decode B20 42 = .ok (.aload_n 0, 1) := by decide +kernel
theorem d20_43 : decode B20 43 = .ok (.getfield 42, 3) := by decide +kernel
theorem d20_46 : decode B20 46 = .ok (.iload_n 1, 1) := by decide +kernel
theorem d20_47 : decode B20 47 = .ok (.iaload, 1) := by decide +kernel
theorem d20_48 : decode B20 48 = .ok (.aload_n 0, 1) := by decide +kernel
theorem d20_49 : decode B20 49 = .ok (.getfield 39, 3) := by decide +kernel
theorem d20_52 : decode B20 52 = .ok (.iload_n 1, 1) := by decide +kernel
theorem d20_53 : decode B20 53 = .ok (.iaload, 1) := by decide +kernel
theorem d20_54 : decode B20 54 = .ok (.isub, 1) := by decide +kernel
theorem d20_55 : decode B20 55 = .ok (.iconst 1, 1) := by decide +kernel
theorem d20_56 : decode B20 56 = .ok (.iadd, 1) := by decide +kernel
theorem d20_57 : decode B20 57 = .ok (.if_icmp .ne 13, 3) := by decide +kernel
theorem d20_60 : decode B20 60 = .ok (.iload_n 3, 1) := by decide +kernel
theorem d20_61 : decode B20 61 = .ok (.iload_n 2, 1) := by decide +kernel
theorem d20_62 : decode B20 62 = .ok (.isub, 1) := by decide +kernel
theorem d20_63 : decode B20 63 = .ok (.iconst 1, 1) := by decide +kernel
theorem d20_64 : decode B20 64 = .ok (.iadd, 1) := by decide +kernel
theorem d20_65 : decode B20 65 = .ok (.istore 4, 2) := by decide +kernel
theorem d20_67 : decode B20 67 = .ok (.goto 62, 3) := by decide +kernel
theorem d20_129 : decode B20 129 = .ok (.iload 4, 2) := by decide +kernel
theorem d20_131 : decode B20 131 = .ok (.ireturn, 1) := by decide +kernel
def f20 (o0 : Addr) (p2 : Int32) (p3 : Int32) (lA : Addr) (lF : Nat → Int32) (hA : Addr) (hF : Nat → Int32) (sA : Addr) (sF : Nat → Int32) : Int32 := ((p3 - p2) + (1 : Int32))
def Q20 (o0 : Addr) (p2 : Int32) (p3 : Int32) (lA : Addr) (lF : Nat → Int32) (hA : Addr) (hF : Nat → Int32) (sA : Addr) (sF : Nat → Int32) (h0 : Heap) (n0 : Nat) (v : Option Value) (h : Heap) (L : List Loc) : Prop := v = some (.int (f20 o0 p2 p3 lA lF hA hF sA sF)) ∧ Fr n0 L ∧ h = h0
theorem ef_20_aaaa (m : MethodId) (x0 : Addr) (x1 : Int32) (x2 : Int32) (x3 : Int32) : entryFrame m #[(.ref x0), (.int x1), (.int x2), (.int x3)] 7 = mkF m 0 #[.val (.ref x0), .val (.int x1), .val (.int x2), .val (.int x3), .unset, .unset, .unset] [] := by first | (simp [entryFrame, mkF, argsToLocals, Value.category]; done) | rfl
theorem rm20 (l : Launch) (Z : State) (a0 : Array Value) (hw : HW a0 Z) (ws : List Jvm.Cond) (o0 : Addr) (p2 : Int32) (p3 : Int32) (lA : Addr) (lF : Nat → Int32) (hA : Addr) (hF : Nat → Int32) (sA : Addr) (sF : Nat → Int32) (h0 : Heap) (n0 : Nat) (Z0 : n0 ≤ h0.size) (ha0 : Exa Z h0 o0 "com/example/whittle/whittle/engine/Domains") (ha1 : Fld Z h0 o0 "com/example/whittle/whittle/engine/Domains" "low" "[I" (.ref lA)) (ha2 : AV Z h0 lA .int 1 (fun k => .int (lF k))) (ha3 : Fld Z h0 o0 "com/example/whittle/whittle/engine/Domains" "high" "[I" (.ref hA)) (ha4 : AV Z h0 hA .int 1 (fun k => .int (hF k))) (ha5 : Fld Z h0 o0 "com/example/whittle/whittle/engine/Domains" "sizes" "[I" (.ref sA)) (ha6 : AV Z h0 sA .int 1 (fun k => .int (sF k))) (hnh : (sF (0 : Int32).toNatClampNeg) = (((hF (0 : Int32).toNatClampNeg) - (lF (0 : Int32).toNatClampNeg)) + (1 : Int32))) :
    MetFree l y20 (head1 (Jvm.Cond.code y20 prog_22_method_20_code 7 (some .int) :: ws) RM_0_0_0_0) (fun a U => a = #[(.ref o0), (.int 0), (.int p2), (.int p3)] ∧ Z.Warmed39 U.vm ∧ U.heap = h0) (fun _ _ _ _ _ => True) (fun _ U o U' => ∃ v L, o = .returned v ∧ Q20 o0 p2 p3 lA lF hA hF sA sF h0 n0 v U'.heap L ∧ FrameEnd U o U' L RM_0_0_0_0.cells RM_0_0_0_0.slots) := by
  refine MetFree.of_bodySF (plainFor_of_name pn_2) hisR ?_
  intro p e s m args below meth c s₁ Bd hml0 hP hK
  obtain ⟨rfl, hZ, hh⟩ := hP
  have hx := Bd.exec
  have hby := Bd.bytes
  have hml : c.maxLocals = 7 := hml0
  have hown : s.vm.findClass "com/example/whittle/whittle/engine/Domains" = some m.cls := findClass_of_methodNamed Bd.named
  have X0 : Stand p l e RM_0_0_0_0 s m _ below meth c s₁ [] 0 0 := Stand.of_body Bd
  have e0 : s₁.heap = h0 := by rw [← hh, Bd.state]; rfl
  have N0 := Fr.nil n0
  refine Go.into (P := fun oo uu => ∃ v L, oo = .returned v ∧ Q20 o0 p2 p3 lA lF hA hF sA sF h0 n0 v uu.heap L ∧ FrameEnd s oo uu L RM_0_0_0_0.cells RM_0_0_0_0.slots) (ef_20_aaaa m o0 (0 : Int32) p2 p3) ?_
  show Go p e below _ (s₁.setTop (mkF m 0 #[sR o0, sI 0, sI p2, sI p3, .unset, .unset, .unset] []))
  refine Vi (s₁.setTop (mkF m 14 #[sR o0, sI 0, sI p2, sI p3, .unset, sI (w20_0 p2 p3), .unset] [(.ref o0)])) (fun tZ kZ => ?_) ?_
  · refine XS.iloadN X0.here hx rfl (hb hby d20_0) rfl ?_
    refine XS.bipush X0.here hx rfl (hb hby d20_1) ?_
    refine XS.iushr X0.here hx rfl (hb hby d20_3) rfl ?_
    refine XS.iloadN X0.here hx rfl (hb hby d20_4) rfl ?_
    refine XS.bipush X0.here hx rfl (hb hby d20_5) ?_
    refine XS.iushr X0.here hx rfl (hb hby d20_7) rfl ?_
    refine XS.isub X0.here hx rfl (hb hby d20_8) rfl ?_
    refine XS.iconst X0.here hx rfl (hb hby d20_9) ?_
    refine XS.iadd X0.here hx rfl (hb hby d20_10) rfl ?_
    refine XS.istore X0.here hx rfl (hb hby d20_11) rfl (l' := #[sR o0, sI 0, sI p2, sI p3, .unset, sI (w20_0 p2 p3), .unset]) rfl ?_
    refine XS.aloadN X0.here hx rfl (hb hby d20_13) rfl rfl ?_
    exact kZ
  obtain ⟨T1, X1, e1, st1⟩ := getF X0 hx hZ hown (host := "") (Or.inl (wq hw 38 rfl)) Via.refl e0 ha3 (g := (mkF m 14 #[sR o0, sI 0, sI p2, sI p3, .unset, sI (w20_0 p2 p3), .unset] [(.ref o0)])) rfl rfl (hb hby d20_14)
  refine Go.via st1 ?_
  refine Vi (T1.setTop (mkF m 23 #[sR o0, sI 0, sI p2, sI p3, .unset, sI (w20_0 p2 p3), .unset] [(.ref o0), (.int (((hF (0 : Int32).toNatClampNeg).toUInt32 >>> ((6 : Int32) &&& 31).toUInt32).toInt32))])) (fun tZ kZ => ?_) ?_
  · refine XS.iloadN X1.here hx rfl (hb hby d20_17) rfl ?_
    refine AV.iaload ha4 X1 hx hZ e1 (j := (0 : Int32)) (by decide) (hb hby d20_18) ?_
    refine XS.bipush X1.here hx rfl (hb hby d20_19) ?_
    refine XS.iushr X1.here hx rfl (hb hby d20_21) rfl ?_
    refine XS.aloadN X1.here hx rfl (hb hby d20_22) rfl rfl ?_
    exact kZ
  obtain ⟨T2, X2, e2, st2⟩ := getF X1 hx hZ hown (host := "") (Or.inl (wq hw 36 rfl)) Via.refl e1 ha1 (g := (mkF m 23 #[sR o0, sI 0, sI p2, sI p3, .unset, sI (w20_0 p2 p3), .unset] [(.ref o0), (.int (((hF (0 : Int32).toNatClampNeg).toUInt32 >>> ((6 : Int32) &&& 31).toUInt32).toInt32))])) rfl rfl (hb hby d20_23)
  refine Go.via st2 ?_
  refine Vi (T2.setTop (mkF m 37 #[sR o0, sI 0, sI p2, sI p3, .unset, sI (w20_0 p2 p3), sI (w20_1 lF hF)] [(.ref o0)])) (fun tZ kZ => ?_) ?_
  · refine XS.iloadN X2.here hx rfl (hb hby d20_26) rfl ?_
    refine AV.iaload ha2 X2 hx hZ e2 (j := (0 : Int32)) (by decide) (hb hby d20_27) ?_
    refine XS.bipush X2.here hx rfl (hb hby d20_28) ?_
    refine XS.iushr X2.here hx rfl (hb hby d20_30) rfl ?_
    refine XS.isub X2.here hx rfl (hb hby d20_31) rfl ?_
    refine XS.iconst X2.here hx rfl (hb hby d20_32) ?_
    refine XS.iadd X2.here hx rfl (hb hby d20_33) rfl ?_
    refine XS.istore X2.here hx rfl (hb hby d20_34) rfl (l' := #[sR o0, sI 0, sI p2, sI p3, .unset, sI (w20_0 p2 p3), sI (w20_1 lF hF)]) rfl ?_
    refine XS.aloadN X2.here hx rfl (hb hby d20_36) rfl rfl ?_
    exact kZ
  obtain ⟨T3, X3, e3, st3⟩ := getF X2 hx hZ hown (host := "") (Or.inl (wq hw 34 rfl)) Via.refl e2 ha5 (g := (mkF m 37 #[sR o0, sI 0, sI p2, sI p3, .unset, sI (w20_0 p2 p3), sI (w20_1 lF hF)] [(.ref o0)])) rfl rfl (hb hby d20_37)
  refine Go.via st3 ?_
  refine Vi (T3.setTop (mkF m 43 #[sR o0, sI 0, sI p2, sI p3, .unset, sI (w20_0 p2 p3), sI (w20_1 lF hF)] [(.ref o0), (.int (sF (0 : Int32).toNatClampNeg))])) (fun tZ kZ => ?_) ?_
  · refine XS.iloadN X3.here hx rfl (hb hby d20_40) rfl ?_
    refine AV.iaload ha6 X3 hx hZ e3 (j := (0 : Int32)) (by decide) (hb hby d20_41) ?_
    refine XS.aloadN X3.here hx rfl (hb hby d20_42) rfl rfl ?_
    exact kZ
  obtain ⟨T4, X4, e4, st4⟩ := getF X3 hx hZ hown (host := "") (Or.inl (wq hw 38 rfl)) Via.refl e3 ha3 (g := (mkF m 43 #[sR o0, sI 0, sI p2, sI p3, .unset, sI (w20_0 p2 p3), sI (w20_1 lF hF)] [(.ref o0), (.int (sF (0 : Int32).toNatClampNeg))])) rfl rfl (hb hby d20_43)
  refine Go.via st4 ?_
  refine Vi (T4.setTop (mkF m 49 #[sR o0, sI 0, sI p2, sI p3, .unset, sI (w20_0 p2 p3), sI (w20_1 lF hF)] [(.ref o0), (.int (hF (0 : Int32).toNatClampNeg)), (.int (sF (0 : Int32).toNatClampNeg))])) (fun tZ kZ => ?_) ?_
  · refine XS.iloadN X4.here hx rfl (hb hby d20_46) rfl ?_
    refine AV.iaload ha4 X4 hx hZ e4 (j := (0 : Int32)) (by decide) (hb hby d20_47) ?_
    refine XS.aloadN X4.here hx rfl (hb hby d20_48) rfl rfl ?_
    exact kZ
  obtain ⟨T5, X5, e5, st5⟩ := getF X4 hx hZ hown (host := "") (Or.inl (wq hw 36 rfl)) Via.refl e4 ha1 (g := (mkF m 49 #[sR o0, sI 0, sI p2, sI p3, .unset, sI (w20_0 p2 p3), sI (w20_1 lF hF)] [(.ref o0), (.int (hF (0 : Int32).toNatClampNeg)), (.int (sF (0 : Int32).toNatClampNeg))])) rfl rfl (hb hby d20_49)
  refine Go.via st5 ?_
  refine Vi (T5.setTop (mkF m 131 #[sR o0, sI 0, sI p2, sI p3, sI ((p3 - p2) + (1 : Int32)), sI (w20_0 p2 p3), sI (w20_1 lF hF)] [(.int ((p3 - p2) + (1 : Int32)))])) (fun tZ kZ => ?_) ?_
  · refine XS.iloadN X5.here hx rfl (hb hby d20_52) rfl ?_
    refine AV.iaload ha2 X5 hx hZ e5 (j := (0 : Int32)) (by decide) (hb hby d20_53) ?_
    refine XS.isub X5.here hx rfl (hb hby d20_54) rfl ?_
    refine XS.iconst X5.here hx rfl (hb hby d20_55) ?_
    refine XS.iadd X5.here hx rfl (hb hby d20_56) rfl ?_
    refine XS.icmpNo X5.here hx rfl (hb hby d20_57) rfl (teq hnh).2 ?_
    refine XS.iloadN X5.here hx rfl (hb hby d20_60) rfl ?_
    refine XS.iloadN X5.here hx rfl (hb hby d20_61) rfl ?_
    refine XS.isub X5.here hx rfl (hb hby d20_62) rfl ?_
    refine XS.iconst X5.here hx rfl (hb hby d20_63) ?_
    refine XS.iadd X5.here hx rfl (hb hby d20_64) rfl ?_
    refine XS.istore X5.here hx rfl (hb hby d20_65) rfl (l' := #[sR o0, sI 0, sI p2, sI p3, sI ((p3 - p2) + (1 : Int32)), sI (w20_0 p2 p3), sI (w20_1 lF hF)]) rfl ?_
    refine XS.goto X5.here hx rfl (pc0 := 67) (pc' := 129) rfl (hb hby d20_67) (by decide) (by decide) ?_
    refine XS.iload X5.here hx rfl (hb hby d20_129) rfl ?_
    exact kZ
  refine Go.retI X5 hx Bd.notSynchronized Bd.returns (hb hby d20_131) (by decide) (by decide) ?_
  refine ⟨?_, N0, e5⟩
  show some ((.int ((p3 - p2) + (1 : Int32))) : Value) = some (.int (f20 o0 p2 p3 lA lF hA hF sA sF))
  rfl
theorem d5_0 : decode B5 0 = .ok (.iconst 0, 1) := by decide +kernel
theorem d5_1 : decode B5 1 = .ok (.istore_n 1, 1) := by decide +kernel
theorem d5_2 : decode B5 2 = .ok (.iload_n 1, 1) := by decide +kernel
theorem d5_3 : decode B5 3 = .ok (.aload_n 0, 1) := by decide +kernel
theorem d5_4 : decode B5 4 = .ok (.getfield 128, 3) := by decide +kernel
theorem d5_7 : decode B5 7 = .ok (.if_icmp .ge 21, 3) := by decide +kernel
theorem d5_28 : decode B5 28 = .ok (.aload_n 0, 1) := by decide +kernel
theorem d5_29 : decode B5 29 = .ok (.iconst 0, 1) := by decide +kernel
theorem d5_30 : decode B5 30 = .ok (.putfield 128, 3) := by decide +kernel
theorem d5_33 : decode B5 33 = .ok (.return_, 1) := by decide +kernel
def Q5 (Z : State) (o0 : Addr) (tl : Int32) (lA : Addr) (hA : Addr) (sA : Addr) (cA : Addr) (chA : Addr) (icA : Addr) (bA : Addr) (tvA : Addr) (twA : Addr) (tsA : Addr) (tzA : Addr) (h0 : Heap) (n0 : Nat) (v : Option Value) (h : Heap) (L : List Loc) : Prop := v = none ∧ Fr n0 L ∧ Keep h0 h [o0] ∧ Exa Z h o0 "com/example/whittle/whittle/engine/Domains" ∧ Fld Z h o0 "com/example/whittle/whittle/engine/Domains" "trailLength" "I" (.int tl) ∧ Fld Z h o0 "com/example/whittle/whittle/engine/Domains" "changedCount" "I" (.int 0) ∧ Fld Z h o0 "com/example/whittle/whittle/engine/Domains" "listener" "Lcom/example/whittle/whittle/engine/Domains$RemovalListener;" .null ∧ Fld Z h o0 "com/example/whittle/whittle/engine/Domains" "low" "[I" (.ref lA) ∧ Fld Z h o0 "com/example/whittle/whittle/engine/Domains" "high" "[I" (.ref hA) ∧ Fld Z h o0 "com/example/whittle/whittle/engine/Domains" "sizes" "[I" (.ref sA) ∧ Fld Z h o0 "com/example/whittle/whittle/engine/Domains" "capacities" "[I" (.ref cA) ∧ Fld Z h o0 "com/example/whittle/whittle/engine/Domains" "changed" "[I" (.ref chA) ∧ Fld Z h o0 "com/example/whittle/whittle/engine/Domains" "isChanged" "[Z" (.ref icA) ∧ Fld Z h o0 "com/example/whittle/whittle/engine/Domains" "bits" "[[J" (.ref bA) ∧ Fld Z h o0 "com/example/whittle/whittle/engine/Domains" "trailVariable" "[I" (.ref tvA) ∧ Fld Z h o0 "com/example/whittle/whittle/engine/Domains" "trailWord" "[I" (.ref twA) ∧ Fld Z h o0 "com/example/whittle/whittle/engine/Domains" "trailSaved" "[J" (.ref tsA) ∧ Fld Z h o0 "com/example/whittle/whittle/engine/Domains" "trailSize" "[I" (.ref tzA)
theorem ef_5_a (m : MethodId) (x0 : Addr) : entryFrame m #[(.ref x0)] 2 = mkF m 0 #[.val (.ref x0), .unset] [] := by first | (simp [entryFrame, mkF, argsToLocals, Value.category]; done) | rfl
theorem rm5 (l : Launch) (Z : State) (a0 : Array Value) (hw : HW a0 Z) (ws : List Jvm.Cond) (o0 : Addr) (tl : Int32) (lA : Addr) (hA : Addr) (sA : Addr) (cA : Addr) (chA : Addr) (icA : Addr) (bA : Addr) (tvA : Addr) (twA : Addr) (tsA : Addr) (tzA : Addr) (h0 : Heap) (n0 : Nat) (Z0 : n0 ≤ h0.size) (ha0 : Exa Z h0 o0 "com/example/whittle/whittle/engine/Domains") (ha1 : Fld Z h0 o0 "com/example/whittle/whittle/engine/Domains" "trailLength" "I" (.int tl)) (ha2 : Fld Z h0 o0 "com/example/whittle/whittle/engine/Domains" "changedCount" "I" (.int 0)) (ha3 : Fld Z h0 o0 "com/example/whittle/whittle/engine/Domains" "listener" "Lcom/example/whittle/whittle/engine/Domains$RemovalListener;" .null) (ha4 : Fld Z h0 o0 "com/example/whittle/whittle/engine/Domains" "low" "[I" (.ref lA)) (ha5 : Fld Z h0 o0 "com/example/whittle/whittle/engine/Domains" "high" "[I" (.ref hA)) (ha6 : Fld Z h0 o0 "com/example/whittle/whittle/engine/Domains" "sizes" "[I" (.ref sA)) (ha7 : Fld Z h0 o0 "com/example/whittle/whittle/engine/Domains" "capacities" "[I" (.ref cA)) (ha8 : Fld Z h0 o0 "com/example/whittle/whittle/engine/Domains" "changed" "[I" (.ref chA)) (ha9 : Fld Z h0 o0 "com/example/whittle/whittle/engine/Domains" "isChanged" "[Z" (.ref icA)) (ha10 : Fld Z h0 o0 "com/example/whittle/whittle/engine/Domains" "bits" "[[J" (.ref bA)) (ha11 : Fld Z h0 o0 "com/example/whittle/whittle/engine/Domains" "trailVariable" "[I" (.ref tvA)) (ha12 : Fld Z h0 o0 "com/example/whittle/whittle/engine/Domains" "trailWord" "[I" (.ref twA)) (ha13 : Fld Z h0 o0 "com/example/whittle/whittle/engine/Domains" "trailSaved" "[J" (.ref tsA)) (ha14 : Fld Z h0 o0 "com/example/whittle/whittle/engine/Domains" "trailSize" "[I" (.ref tzA)) (ha15 : n0 ≤ o0) :
    MetFree l y5 (head1 (Jvm.Cond.code y5 prog_22_method_18_code 2 none :: ws) RM_0_0_0_0) (fun a U => a = #[(.ref o0)] ∧ Z.Warmed39 U.vm ∧ U.heap = h0) (fun _ _ _ _ _ => True) (fun _ U o U' => ∃ v L, o = .returned v ∧ Q5 Z o0 tl lA hA sA cA chA icA bA tvA twA tsA tzA h0 n0 v U'.heap L ∧ FrameEnd U o U' L RM_0_0_0_0.cells RM_0_0_0_0.slots) := by
  refine MetFree.of_bodySF (plainFor_of_name pn_2) hisR ?_
  intro p e s m args below meth c s₁ Bd hml0 hP hK
  obtain ⟨rfl, hZ, hh⟩ := hP
  have hx := Bd.exec
  have hby := Bd.bytes
  have hml : c.maxLocals = 2 := hml0
  have hown : s.vm.findClass "com/example/whittle/whittle/engine/Domains" = some m.cls := findClass_of_methodNamed Bd.named
  have X0 : Stand p l e RM_0_0_0_0 s m _ below meth c s₁ [] 0 0 := Stand.of_body Bd
  have e0 : s₁.heap = h0 := by rw [← hh, Bd.state]; rfl
  have N0 := Fr.nil n0
  refine Go.into (P := fun oo uu => ∃ v L, oo = .returned v ∧ Q5 Z o0 tl lA hA sA cA chA icA bA tvA twA tsA tzA h0 n0 v uu.heap L ∧ FrameEnd s oo uu L RM_0_0_0_0.cells RM_0_0_0_0.slots) (ef_5_a m o0) ?_
  show Go p e below _ (s₁.setTop (mkF m 0 #[sR o0, .unset] []))
  refine Vi (s₁.setTop (mkF m 4 #[sR o0, sI 0] [(.ref o0), (.int 0)])) (fun tZ kZ => ?_) ?_
  · refine XS.iconst X0.here hx rfl (hb hby d5_0) ?_
    refine XS.istoreN X0.here hx rfl (hb hby d5_1) rfl (l' := #[sR o0, sI 0]) rfl ?_
    refine XS.iloadN X0.here hx rfl (hb hby d5_2) rfl ?_
    refine XS.aloadN X0.here hx rfl (hb hby d5_3) rfl rfl ?_
    exact kZ
  obtain ⟨T1, X1, e1, st1⟩ := getF X0 hx hZ hown (host := "") (Or.inl (wq hw 63 rfl)) Via.refl e0 ha2 (g := (mkF m 4 #[sR o0, sI 0] [(.ref o0), (.int 0)])) rfl rfl (hb hby d5_4)
  refine Go.via st1 ?_
  refine Vi (T1.setTop (mkF m 30 #[sR o0, sI 0] [(.int 0), (.ref o0)])) (fun tZ kZ => ?_) ?_
  · refine XS.icmpYes X1.here hx rfl (pc0 := 7) (pc' := 28) rfl (hb hby d5_7) rfl (flt (by decide)).2.1 (by decide) (by decide) ?_
    refine XS.aloadN X1.here hx rfl (hb hby d5_28) rfl rfl ?_
    refine XS.iconst X1.here hx rfl (hb hby d5_29) ?_
    exact kZ
  obtain ⟨T2, h2, X2, e2, W2, st2⟩ := putF X1 hx hZ hown (host := "") (Or.inl (wq hw 63 rfl)) Via.refl e1 ha2 ha0 (Or.inl (wq hw 64 rfl)) (wq hw 1 rfl) (ty := .int) (by decide) rfl rfl (g := (mkF m 30 #[sR o0, sI 0] [(.int 0), (.ref o0)])) rfl rfl (hb hby d5_30)
  have N2 := Fr.snoc X2 N0 ha15
  have c3_0 := ha0.wr W2
  have c3_1 := ha1.other W2 (Or.inr (slot_ne (Or.inl (wq hw 57 rfl)) (Or.inl (wq hw 64 rfl)) (by decide) (t := .int) (t' := .int) (by decide) (by decide)))
  have c3_3 := ha3.other W2 (Or.inr (slot_ne (Or.inl (wq hw 71 rfl)) (Or.inl (wq hw 64 rfl)) (by decide) (t := (.object "com/example/whittle/whittle/engine/Domains$RemovalListener")) (t' := .int) (by decide) (by decide)))
  have c3_4 := ha4.other W2 (Or.inr (slot_ne (Or.inr (wq hw 37 rfl)) (Or.inl (wq hw 64 rfl)) (by decide) (t := (.array .int)) (t' := .int) (by decide) (by decide)))
  have c3_5 := ha5.other W2 (Or.inr (slot_ne (Or.inr (wq hw 39 rfl)) (Or.inl (wq hw 64 rfl)) (by decide) (t := (.array .int)) (t' := .int) (by decide) (by decide)))
  have c3_6 := ha6.other W2 (Or.inr (slot_ne (Or.inr (wq hw 35 rfl)) (Or.inl (wq hw 64 rfl)) (by decide) (t := (.array .int)) (t' := .int) (by decide) (by decide)))
  have c3_7 := ha7.other W2 (Or.inr (slot_ne (Or.inr (wq hw 29 rfl)) (Or.inl (wq hw 64 rfl)) (by decide) (t := (.array .int)) (t' := .int) (by decide) (by decide)))
  have c3_8 := ha8.other W2 (Or.inr (slot_ne (Or.inr (wq hw 42 rfl)) (Or.inl (wq hw 64 rfl)) (by decide) (t := (.array .int)) (t' := .int) (by decide) (by decide)))
  have c3_9 := ha9.other W2 (Or.inr (slot_ne (Or.inr (wq hw 45 rfl)) (Or.inl (wq hw 64 rfl)) (by decide) (t := (.array .boolean)) (t' := .int) (by decide) (by decide)))
  have c3_10 := ha10.other W2 (Or.inr (slot_ne (Or.inr (wq hw 33 rfl)) (Or.inl (wq hw 64 rfl)) (by decide) (t := (.array (.array .long))) (t' := .int) (by decide) (by decide)))
  have c3_11 := ha11.other W2 (Or.inr (slot_ne (Or.inl (wq hw 11 rfl)) (Or.inl (wq hw 64 rfl)) (by decide) (t := (.array .int)) (t' := .int) (by decide) (by decide)))
  have c3_12 := ha12.other W2 (Or.inr (slot_ne (Or.inl (wq hw 13 rfl)) (Or.inl (wq hw 64 rfl)) (by decide) (t := (.array .int)) (t' := .int) (by decide) (by decide)))
  have c3_13 := ha13.other W2 (Or.inr (slot_ne (Or.inl (wq hw 16 rfl)) (Or.inl (wq hw 64 rfl)) (by decide) (t := (.array .long)) (t' := .int) (by decide) (by decide)))
  have c3_14 := ha14.other W2 (Or.inr (slot_ne (Or.inl (wq hw 18 rfl)) (Or.inl (wq hw 64 rfl)) (by decide) (t := (.array .int)) (t' := .int) (by decide) (by decide)))
  have K2 : Keep h0 h2 [o0] := (Keep.refl h0 [o0]).wr W2 (Or.inl (by simp))
  have Z2 := Nat.le_trans Z0 (Keep.of_wr W2).1
  have Fw2 := ha2.same W2
  refine Go.via st2 ?_
  refine Go.retV X2 hx Bd.notSynchronized Bd.returns (hb hby d5_33) (by decide) (by decide) ?_
  rw [e2]
  exact ⟨rfl, N2, K2, c3_0, c3_1, Fw2, c3_3, c3_4, c3_5, c3_6, c3_7, c3_8, c3_9, c3_10, c3_11, c3_12, c3_13, c3_14⟩
theorem d1_0 : decode B1 0 = .ok (.aload_n 0, 1) := by decide +kernel
theorem d1_1 : decode B1 1 = .ok (.invokespecial 1, 3) := by decide +kernel
theorem d1_4 : decode B1 4 = .ok (.aload_n 0, 1) := by decide +kernel
theorem d1_5 : decode B1 5 = .ok (.sipush 1024, 3) := by decide +kernel
theorem d1_8 : decode B1 8 = .ok (.newarray .int, 2) := by decide +kernel
theorem d1_10 : decode B1 10 = .ok (.putfield 7, 3) := by decide +kernel
theorem d1_13 : decode B1 13 = .ok (.aload_n 0, 1) := by decide +kernel
theorem d1_14 : decode B1 14 = .ok (.sipush 1024, 3) := by decide +kernel
theorem d1_17 : decode B1 17 = .ok (.newarray .int, 2) := by decide +kernel
theorem d1_19 : decode B1 19 = .ok (.putfield 13, 3) := by decide +kernel
theorem d1_22 : decode B1 22 = .ok (.aload_n 0, 1) := by decide +kernel
theorem d1_23 : decode B1 23 = .ok (.sipush 1024, 3) := by decide +kernel
theorem d1_26 : decode B1 26 = .ok (.newarray .long, 2) := by decide +kernel
theorem d1_28 : decode B1 28 = .ok (.putfield 16, 3) := by decide +kernel
theorem d1_31 : decode B1 31 = .ok (.aload_n 0, 1) := by decide +kernel
theorem d1_32 : decode B1 32 = .ok (.sipush 1024, 3) := by decide +kernel
theorem d1_35 : decode B1 35 = .ok (.newarray .int, 2) := by decide +kernel
theorem d1_37 : decode B1 37 = .ok (.putfield 20, 3) := by decide +kernel
theorem d1_40 : decode B1 40 = .ok (.aload_n 0, 1) := by decide +kernel
theorem d1_41 : decode B1 41 = .ok (.aload_n 1, 1) := by decide +kernel
theorem d1_42 : decode B1 42 = .ok (.invokevirtual 23, 3) := by decide +kernel
theorem d1_45 : decode B1 45 = .ok (.checkcast 24, 3) := by decide +kernel
theorem d1_48 : decode B1 48 = .ok (.putfield 28, 3) := by decide +kernel
theorem d1_51 : decode B1 51 = .ok (.aload_n 0, 1) := by decide +kernel
theorem d1_52 : decode B1 52 = .ok (.aload_n 1, 1) := by decide +kernel
theorem d1_53 : decode B1 53 = .ok (.arraylength, 1) := by decide +kernel
theorem d1_54 : decode B1 54 = .ok (.anewarray 31, 3) := by decide +kernel
theorem d1_57 : decode B1 57 = .ok (.putfield 32, 3) := by decide +kernel
theorem d1_60 : decode B1 60 = .ok (.aload_n 0, 1) := by decide +kernel
theorem d1_61 : decode B1 61 = .ok (.aload_n 1, 1) := by decide +kernel
theorem d1_62 : decode B1 62 = .ok (.arraylength, 1) := by decide +kernel
theorem d1_63 : decode B1 63 = .ok (.newarray .int, 2) := by decide +kernel
theorem d1_65 : decode B1 65 = .ok (.putfield 36, 3) := by decide +kernel
theorem d1_68 : decode B1 68 = .ok (.aload_n 0, 1) := by decide +kernel
theorem d1_69 : decode B1 69 = .ok (.aload_n 1, 1) := by decide +kernel
theorem d1_70 : decode B1 70 = .ok (.arraylength, 1) := by decide +kernel
theorem d1_71 : decode B1 71 = .ok (.newarray .int, 2) := by decide +kernel
theorem d1_73 : decode B1 73 = .ok (.putfield 39, 3) := by decide +kernel
theorem d1_76 : decode B1 76 = .ok (.aload_n 0, 1) := by decide +kernel
theorem d1_77 : decode B1 77 = .ok (.aload_n 1, 1) := by decide +kernel
theorem d1_78 : decode B1 78 = .ok (.arraylength, 1) := by decide +kernel
theorem d1_79 : decode B1 79 = .ok (.newarray .int, 2) := by decide +kernel
theorem d1_81 : decode B1 81 = .ok (.putfield 42, 3) := by decide +kernel
theorem d1_84 : decode B1 84 = .ok (.iconst 0, 1) := by decide +kernel
theorem d1_85 : decode B1 85 = .ok (.istore_n 2, 1) := by decide +kernel
theorem d1_86 : decode B1 86 = .ok (.iload_n 2, 1) := by decide +kernel
theorem d1_87 : decode B1 87 = .ok (.aload_n 1, 1) := by decide +kernel
theorem d1_88 : decode B1 88 = .ok (.arraylength, 1) := by decide +kernel
theorem d1_89 : decode B1 89 = .ok (.if_icmp .ge 26, 3) := by decide +kernel
theorem d1_92 : decode B1 92 = .ok (.aload_n 0, 1) := by decide +kernel
theorem d1_93 : decode B1 93 = .ok (.getfield 32, 3) := by decide +kernel
theorem d1_96 : decode B1 96 = .ok (.iload_n 2, 1) := by decide +kernel
theorem d1_97 : decode B1 97 = .ok (.aload_n 1, 1) := by decide +kernel
theorem d1_98 : decode B1 98 = .ok (.iload_n 2, 1) := by decide +kernel
theorem d1_99 : decode B1 99 = .ok (.iaload, 1) := by decide +kernel
theorem d1_100 : decode B1 100 = .ok (.bipush 63, 2) := by decide +kernel
theorem d1_102 : decode B1 102 = .ok (.iadd, 1) := by decide +kernel
theorem d1_103 : decode B1 103 = .ok (.bipush 6, 2) := by decide +kernel
theorem d1_105 : decode B1 105 = .ok (.iushr, 1) := by decide +kernel
theorem d1_106 : decode B1 106 = .ok (.newarray .long, 2) := by decide +kernel
theorem d1_108 : decode B1 108 = .ok (.aastore, 1) := by decide +kernel
theorem d1_109 : decode B1 109 = .ok (.iinc 2 1, 3) := by decide +kernel
theorem d1_112 : decode B1 112 = .ok (.goto (-26), 3) := by decide +kernel
theorem d1_115 : decode B1 115 = .ok (.aload_n 0, 1) := by decide +kernel
theorem d1_116 : decode B1 116 = .ok (.aload_n 1, 1) := by decide +kernel
theorem d1_117 : decode B1 117 = .ok (.arraylength, 1) := by decide +kernel
theorem d1_118 : decode B1 118 = .ok (.newarray .int, 2) := by decide +kernel
theorem d1_120 : decode B1 120 = .ok (.putfield 45, 3) := by decide +kernel
theorem d1_123 : decode B1 123 = .ok (.aload_n 0, 1) := by decide +kernel
theorem d1_124 : decode B1 124 = .ok (.aload_n 1, 1) := by decide +kernel
theorem d1_125 : decode B1 125 = .ok (.arraylength, 1) := by decide +kernel
theorem d1_126 : decode B1 126 = .ok (.newarray .boolean, 2) := by decide +kernel
theorem d1_128 : decode B1 128 = .ok (.putfield 48, 3) := by decide +kernel
theorem d1_131 : decode B1 131 = .ok (.return_, 1) := by decide +kernel
def Q1 (Z : State) (o0 : Addr) (o1 : Addr) (cF : Nat → Int32) (nW : Nat) (h0 : Heap) (n0 : Nat) (v : Option Value) (h : Heap) (L : List Loc) : Prop := v = none ∧ Fr n0 L ∧ ∃ b2 : Addr, ∃ b6 : Addr, ∃ b10 : Addr, ∃ b14 : Addr, ∃ b18 : Addr, ∃ b23 : Addr, ∃ b27 : Addr, ∃ b31 : Addr, ∃ b35 : Addr, ∃ b40 : Addr, ∃ b44 : Addr, ∃ b48 : Addr, h0.size ≤ b2 ∧ h0.size ≤ b6 ∧ h0.size ≤ b10 ∧ h0.size ≤ b14 ∧ h0.size ≤ b18 ∧ h0.size ≤ b23 ∧ h0.size ≤ b27 ∧ h0.size ≤ b31 ∧ h0.size ≤ b35 ∧ h0.size ≤ b40 ∧ h0.size ≤ b44 ∧ h0.size ≤ b48 ∧ b2 ≠ b6 ∧ b2 ≠ b10 ∧ b2 ≠ b14 ∧ b2 ≠ b18 ∧ b2 ≠ b23 ∧ b2 ≠ b27 ∧ b2 ≠ b31 ∧ b2 ≠ b35 ∧ b2 ≠ b40 ∧ b2 ≠ b44 ∧ b2 ≠ b48 ∧ b6 ≠ b10 ∧ b6 ≠ b14 ∧ b6 ≠ b18 ∧ b6 ≠ b23 ∧ b6 ≠ b27 ∧ b6 ≠ b31 ∧ b6 ≠ b35 ∧ b6 ≠ b40 ∧ b6 ≠ b44 ∧ b6 ≠ b48 ∧ b10 ≠ b14 ∧ b10 ≠ b18 ∧ b10 ≠ b23 ∧ b10 ≠ b27 ∧ b10 ≠ b31 ∧ b10 ≠ b35 ∧ b10 ≠ b40 ∧ b10 ≠ b44 ∧ b10 ≠ b48 ∧ b14 ≠ b18 ∧ b14 ≠ b23 ∧ b14 ≠ b27 ∧ b14 ≠ b31 ∧ b14 ≠ b35 ∧ b14 ≠ b40 ∧ b14 ≠ b44 ∧ b14 ≠ b48 ∧ b18 ≠ b23 ∧ b18 ≠ b27 ∧ b18 ≠ b31 ∧ b18 ≠ b35 ∧ b18 ≠ b40 ∧ b18 ≠ b44 ∧ b18 ≠ b48 ∧ b23 ≠ b27 ∧ b23 ≠ b31 ∧ b23 ≠ b35 ∧ b23 ≠ b40 ∧ b23 ≠ b44 ∧ b23 ≠ b48 ∧ b27 ≠ b31 ∧ b27 ≠ b35 ∧ b27 ≠ b40 ∧ b27 ≠ b44 ∧ b27 ≠ b48 ∧ b31 ≠ b35 ∧ b31 ≠ b40 ∧ b31 ≠ b44 ∧ b31 ≠ b48 ∧ b35 ≠ b40 ∧ b35 ≠ b44 ∧ b35 ≠ b48 ∧ b40 ≠ b44 ∧ b40 ≠ b48 ∧ b44 ≠ b48 ∧ Keep h0 h [o0] ∧ Exa Z h o0 "com/example/whittle/whittle/engine/Domains" ∧ Fld Z h o0 "com/example/whittle/whittle/engine/Domains" "trailLength" "I" (.int 0) ∧ Fld Z h o0 "com/example/whittle/whittle/engine/Domains" "changedCount" "I" (.int 0) ∧ Fld Z h o0 "com/example/whittle/whittle/engine/Domains" "listener" "Lcom/example/whittle/whittle/engine/Domains$RemovalListener;" .null ∧ Fld Z h o0 "com/example/whittle/whittle/engine/Domains" "low" "[I" (.ref b31) ∧ Fld Z h o0 "com/example/whittle/whittle/engine/Domains" "high" "[I" (.ref b35) ∧ Fld Z h o0 "com/example/whittle/whittle/engine/Domains" "sizes" "[I" (.ref b27) ∧ Fld Z h o0 "com/example/whittle/whittle/engine/Domains" "capacities" "[I" (.ref b18) ∧ Fld Z h o0 "com/example/whittle/whittle/engine/Domains" "changed" "[I" (.ref b44) ∧ Fld Z h o0 "com/example/whittle/whittle/engine/Domains" "isChanged" "[Z" (.ref b48) ∧ Fld Z h o0 "com/example/whittle/whittle/engine/Domains" "bits" "[[J" (.ref b23) ∧ Fld Z h o0 "com/example/whittle/whittle/engine/Domains" "trailVariable" "[I" (.ref b2) ∧ Fld Z h o0 "com/example/whittle/whittle/engine/Domains" "trailWord" "[I" (.ref b6) ∧ Fld Z h o0 "com/example/whittle/whittle/engine/Domains" "trailSaved" "[J" (.ref b10) ∧ Fld Z h o0 "com/example/whittle/whittle/engine/Domains" "trailSize" "[I" (.ref b14) ∧ Exa Z h o1 "[I" ∧ AV Z h o1 .int 1 (fun k => .int (cF k)) ∧ Exa Z h b2 "[I" ∧ AV Z h b2 .int 1024 (fun k => .int ((fun _ => (0 : Int32)) k)) ∧ Exa Z h b6 "[I" ∧ AV Z h b6 .int 1024 (fun k => .int ((fun _ => (0 : Int32)) k)) ∧ Exa Z h b10 "[J" ∧ AV Z h b10 .long 1024 (fun k => .long ((fun _ => (0 : Int64)) k)) ∧ Exa Z h b14 "[I" ∧ AV Z h b14 .int 1024 (fun k => .int ((fun _ => (0 : Int32)) k)) ∧ AV Z h b18 .int 1 (fun k => .int (cF k)) ∧ Exa Z h b18 "[I" ∧ AV Z h b23 (.array .long) 1 (up (fun _ => Value.null) (0 : Int32).toNatClampNeg (.ref b40)) ∧ Exa Z h b23 "[[J" ∧ OV Z h b23 .long "[J" ∧ Exa Z h b27 "[I" ∧ AV Z h b27 .int 1 (fun k => .int ((fun _ => (0 : Int32)) k)) ∧ Exa Z h b31 "[I" ∧ AV Z h b31 .int 1 (fun k => .int ((fun _ => (0 : Int32)) k)) ∧ Exa Z h b35 "[I" ∧ AV Z h b35 .int 1 (fun k => .int ((fun _ => (0 : Int32)) k)) ∧ Exa Z h b40 "[J" ∧ AV Z h b40 .long nW (fun k => .long ((fun _ => (0 : Int64)) k)) ∧ Exa Z h b44 "[I" ∧ AV Z h b44 .int 1 (fun k => .int ((fun _ => (0 : Int32)) k)) ∧ Exa Z h b48 "[Z" ∧ AV Z h b48 .boolean 1 (fun k => .int ((fun _ => (0 : Int32)) k))
abbrev RM_1_12_4111_15 : Room := { frames := 1, cells := 12, slots := 4111, locals := 15 }
theorem ef_1_aa (m : MethodId) (x0 : Addr) (x1 : Addr) : entryFrame m #[(.ref x0), (.ref x1)] 3 = mkF m 0 #[.val (.ref x0), .val (.ref x1), .unset] [] := by first | (simp [entryFrame, mkF, argsToLocals, Value.category]; done) | rfl
theorem rm1 (l : Launch) (Z : State) (a0 : Array Value) (hw : HW a0 Z) (ws : List Jvm.Cond) (o0 : Addr) (o1 : Addr) (cF : Nat → Int32) (nW : Nat) (h0 : Heap) (n0 : Nat) (Z0 : n0 ≤ h0.size) (ha0 : Exa Z h0 o0 "com/example/whittle/whittle/engine/Domains") (ha1 : Fld Z h0 o0 "com/example/whittle/whittle/engine/Domains" "trailLength" "I" (.int 0)) (ha2 : Fld Z h0 o0 "com/example/whittle/whittle/engine/Domains" "changedCount" "I" (.int 0)) (ha3 : Fld Z h0 o0 "com/example/whittle/whittle/engine/Domains" "listener" "Lcom/example/whittle/whittle/engine/Domains$RemovalListener;" .null) (ha4 : Fld Z h0 o0 "com/example/whittle/whittle/engine/Domains" "low" "[I" .null) (ha5 : Fld Z h0 o0 "com/example/whittle/whittle/engine/Domains" "high" "[I" .null) (ha6 : Fld Z h0 o0 "com/example/whittle/whittle/engine/Domains" "sizes" "[I" .null) (ha7 : Fld Z h0 o0 "com/example/whittle/whittle/engine/Domains" "capacities" "[I" .null) (ha8 : Fld Z h0 o0 "com/example/whittle/whittle/engine/Domains" "changed" "[I" .null) (ha9 : Fld Z h0 o0 "com/example/whittle/whittle/engine/Domains" "isChanged" "[Z" .null) (ha10 : Fld Z h0 o0 "com/example/whittle/whittle/engine/Domains" "bits" "[[J" .null) (ha11 : Fld Z h0 o0 "com/example/whittle/whittle/engine/Domains" "trailVariable" "[I" .null) (ha12 : Fld Z h0 o0 "com/example/whittle/whittle/engine/Domains" "trailWord" "[I" .null) (ha13 : Fld Z h0 o0 "com/example/whittle/whittle/engine/Domains" "trailSaved" "[J" .null) (ha14 : Fld Z h0 o0 "com/example/whittle/whittle/engine/Domains" "trailSize" "[I" .null) (ha15 : n0 ≤ o0) (ha16 : Exa Z h0 o1 "[I") (ha17 : AV Z h0 o1 .int 1 (fun k => .int (cF k))) (hne_o0_o1 : o0 ≠ o1) (hn0 : ¬ ((((cF (0 : Int32).toNatClampNeg) + (63 : Int32)).toUInt32 >>> ((6 : Int32) &&& 31).toUInt32).toInt32) < 0) (hn1 : ((((cF (0 : Int32).toNatClampNeg) + (63 : Int32)).toUInt32 >>> ((6 : Int32) &&& 31).toUInt32).toInt32).toNatClampNeg ≤ 8) (hn2 : ((((cF (0 : Int32).toNatClampNeg) + (63 : Int32)).toUInt32 >>> ((6 : Int32) &&& 31).toUInt32).toInt32).toNatClampNeg = nW) :
    MetFree l y1 (head1 (Jvm.Cond.code y1 prog_22_method_1_code 3 none :: ws) RM_1_12_4111_15) (fun a U => a = #[(.ref o0), (.ref o1)] ∧ Z.Warmed39 U.vm ∧ U.heap = h0) (fun _ _ _ _ _ => True) (fun _ U o U' => ∃ v L, o = .returned v ∧ Q1 Z o0 o1 cF nW h0 n0 v U'.heap L ∧ FrameEnd U o U' L RM_1_12_4111_15.cells RM_1_12_4111_15.slots) := by
  refine MetFree.of_bodySF (plainFor_of_name pn_2) hisR ?_
  intro p e s m args below meth c s₁ Bd hml0 hP hK
  obtain ⟨rfl, hZ, hh⟩ := hP
  have hx := Bd.exec
  have hby := Bd.bytes
  have hml : c.maxLocals = 3 := hml0
  have hown : s.vm.findClass "com/example/whittle/whittle/engine/Domains" = some m.cls := findClass_of_methodNamed Bd.named
  have hnm := (name_of_methodNamed Bd.named Bd.method).1
  have X0 : Stand p l e RM_1_12_4111_15 s m _ below meth c s₁ [] 0 0 := Stand.of_body Bd
  have e0 : s₁.heap = h0 := by rw [← hh, Bd.state]; rfl
  have N0 := Fr.nil n0
  refine Go.into (P := fun oo uu => ∃ v L, oo = .returned v ∧ Q1 Z o0 o1 cF nW h0 n0 v uu.heap L ∧ FrameEnd s oo uu L RM_1_12_4111_15.cells RM_1_12_4111_15.slots) (ef_1_aa m o0 o1) ?_
  show Go p e below _ (s₁.setTop (mkF m 0 #[sR o0, sR o1, .unset] []))
  refine Vi (s₁.setTop (mkF m 1 #[sR o0, sR o1, .unset] [(.ref o0)])) (fun tZ kZ => ?_) ?_
  · refine XS.aloadN X0.here hx rfl (hb hby d1_0) rfl rfl ?_
    exact kZ
  obtain ⟨T1, X1, e1, st1⟩ := initO X0 hx hZ hown (wq hw 7 rfl) (wq hw 8 rfl) (wq hw 9 rfl) e0 (g := (mkF m 1 #[sR o0, sR o1, .unset] [(.ref o0)])) rfl (by rw [hml]; rfl) rfl (hb hby d1_1) (by decide) (W := 0) (by show 2 * 0 + _ ≤ _; exact Nat.le_of_eq rfl) (by decide)
  refine Go.via st1 ?_
  refine Vi (T1.setTop (mkF m 8 #[sR o0, sR o1, .unset] [(.int 1024), (.ref o0)])) (fun tZ kZ => ?_) ?_
  · refine XS.aloadN X1.here hx rfl (hb hby d1_4) rfl rfl ?_
    refine XS.sipush X1.here hx rfl (hb hby d1_5) ?_
    exact kZ
  obtain ⟨T2, h2, k2, X2, e2, E2, A2, B2, st2⟩ := newPE X1 hx hZ (wq hw 3 rfl) e1 (g := (mkF m 8 #[sR o0, sR o1, .unset] [(.int 1024), (.ref o0)])) rfl (hb hby d1_8) rfl (by decide) (cap := 1024) (by decide) (by decide) (by decide) (by decide) (ad := "[I") rfl
  obtain ⟨b2, g2⟩ : ∃ z, z = h0.size := ⟨_, rfl⟩
  rw [← g2] at A2 B2 st2
  have g_b2 : n0 ≤ b2 := Nat.le_trans Z0 (Nat.le_of_eq g2.symm)
  have sz_b2 : h0.size ≤ b2 := Nat.le_trans ((Keep.refl h0 [o0])).1 (Nat.le_of_eq g2.symm)
  have ne_o0_b2 : o0 ≠ b2 := Nat.ne_of_lt (Nat.lt_of_lt_of_le ha0.lt (Nat.le_of_eq g2.symm))
  have ne_o1_b2 : o1 ≠ b2 := Nat.ne_of_lt (Nat.lt_of_lt_of_le ha16.lt (Nat.le_of_eq g2.symm))
  have c3_0 := ha0.ext E2
  have c3_1 := ha1.ext E2
  have c3_2 := ha2.ext E2
  have c3_3 := ha3.ext E2
  have c3_4 := ha4.ext E2
  have c3_5 := ha5.ext E2
  have c3_6 := ha6.ext E2
  have c3_7 := ha7.ext E2
  have c3_8 := ha8.ext E2
  have c3_9 := ha9.ext E2
  have c3_10 := ha10.ext E2
  have c3_11 := ha11.ext E2
  have c3_12 := ha12.ext E2
  have c3_13 := ha13.ext E2
  have c3_14 := ha14.ext E2
  have c3_16 := ha16.ext E2
  have c3_17 := ha17.ext E2
  have K2 : Keep h0 h2 [o0] := (Keep.refl h0 [o0]).ext E2
  have Z2 := Nat.le_trans Z0 E2.1
  have V2 : AV Z h2 b2 .int 1024 (fun k => .int ((fun _ => (0 : Int32)) k)) := by have q := AV.new A2; exact q
  refine Go.via st2 ?_
  obtain ⟨T4, h4, X4, e4, W4, st4⟩ := putF X2 hx hZ hown (host := "") (Or.inl (wq hw 10 rfl)) Via.refl e2 c3_11 c3_0 (Or.inl (wq hw 11 rfl)) (wq hw 1 rfl) (ty := (.array .int)) (by decide) rfl rfl (g := (mkF m 10 #[sR o0, sR o1, .unset] [(.ref b2), (.ref o0)])) rfl rfl (hb hby d1_10)
  have N4 := Fr.snoc X4 N0 ha15
  have c5_0 := c3_0.wr W4
  have c5_1 := c3_1.other W4 (Or.inr (slot_ne (Or.inl (wq hw 57 rfl)) (Or.inl (wq hw 11 rfl)) (by decide) (t := .int) (t' := (.array .int)) (by decide) (by decide)))
  have c5_2 := c3_2.other W4 (Or.inr (slot_ne (Or.inl (wq hw 64 rfl)) (Or.inl (wq hw 11 rfl)) (by decide) (t := .int) (t' := (.array .int)) (by decide) (by decide)))
  have c5_3 := c3_3.other W4 (Or.inr (slot_ne (Or.inl (wq hw 71 rfl)) (Or.inl (wq hw 11 rfl)) (by decide) (t := (.object "com/example/whittle/whittle/engine/Domains$RemovalListener")) (t' := (.array .int)) (by decide) (by decide)))
  have c5_4 := c3_4.other W4 (Or.inr (slot_ne (Or.inr (wq hw 37 rfl)) (Or.inl (wq hw 11 rfl)) (by decide) (t := (.array .int)) (t' := (.array .int)) (by decide) (by decide)))
  have c5_5 := c3_5.other W4 (Or.inr (slot_ne (Or.inr (wq hw 39 rfl)) (Or.inl (wq hw 11 rfl)) (by decide) (t := (.array .int)) (t' := (.array .int)) (by decide) (by decide)))
  have c5_6 := c3_6.other W4 (Or.inr (slot_ne (Or.inr (wq hw 35 rfl)) (Or.inl (wq hw 11 rfl)) (by decide) (t := (.array .int)) (t' := (.array .int)) (by decide) (by decide)))
  have c5_7 := c3_7.other W4 (Or.inr (slot_ne (Or.inr (wq hw 29 rfl)) (Or.inl (wq hw 11 rfl)) (by decide) (t := (.array .int)) (t' := (.array .int)) (by decide) (by decide)))
  have c5_8 := c3_8.other W4 (Or.inr (slot_ne (Or.inr (wq hw 42 rfl)) (Or.inl (wq hw 11 rfl)) (by decide) (t := (.array .int)) (t' := (.array .int)) (by decide) (by decide)))
  have c5_9 := c3_9.other W4 (Or.inr (slot_ne (Or.inr (wq hw 45 rfl)) (Or.inl (wq hw 11 rfl)) (by decide) (t := (.array .boolean)) (t' := (.array .int)) (by decide) (by decide)))
  have c5_10 := c3_10.other W4 (Or.inr (slot_ne (Or.inr (wq hw 33 rfl)) (Or.inl (wq hw 11 rfl)) (by decide) (t := (.array (.array .long))) (t' := (.array .int)) (by decide) (by decide)))
  have c5_12 := c3_12.other W4 (Or.inr (slot_ne (Or.inl (wq hw 13 rfl)) (Or.inl (wq hw 11 rfl)) (by decide) (t := (.array .int)) (t' := (.array .int)) (by decide) (by decide)))
  have c5_13 := c3_13.other W4 (Or.inr (slot_ne (Or.inl (wq hw 16 rfl)) (Or.inl (wq hw 11 rfl)) (by decide) (t := (.array .long)) (t' := (.array .int)) (by decide) (by decide)))
  have c5_14 := c3_14.other W4 (Or.inr (slot_ne (Or.inl (wq hw 18 rfl)) (Or.inl (wq hw 11 rfl)) (by decide) (t := (.array .int)) (t' := (.array .int)) (by decide) (by decide)))
  have c5_16 := c3_16.wr W4
  have c5_17 := c3_17.other W4 (Ne.symm hne_o0_o1)
  have c5_19 := B2.wr W4
  have c5_20 := V2.other W4 (Ne.symm ne_o0_b2)
  have K4 : Keep h0 h4 [o0] := K2.wr W4 (Or.inl (by simp))
  have Z4 := Nat.le_trans Z2 (Keep.of_wr W4).1
  have Fw4 := c3_11.same W4
  refine Go.via st4 ?_
  refine Vi (T4.setTop (mkF m 17 #[sR o0, sR o1, .unset] [(.int 1024), (.ref o0)])) (fun tZ kZ => ?_) ?_
  · refine XS.aloadN X4.here hx rfl (hb hby d1_13) rfl rfl ?_
    refine XS.sipush X4.here hx rfl (hb hby d1_14) ?_
    exact kZ
  obtain ⟨T6, h6, k6, X6, e6, E6, A6, B6, st6⟩ := newPE X4 hx hZ (wq hw 3 rfl) e4 (g := (mkF m 17 #[sR o0, sR o1, .unset] [(.int 1024), (.ref o0)])) rfl (hb hby d1_17) rfl (by decide) (cap := 1024) (by decide) (by decide) (by decide) (by decide) (ad := "[I") rfl
  obtain ⟨b6, g6⟩ : ∃ z, z = h4.size := ⟨_, rfl⟩
  rw [← g6] at A6 B6 st6
  have g_b6 : n0 ≤ b6 := Nat.le_trans Z4 (Nat.le_of_eq g6.symm)
  have sz_b6 : h0.size ≤ b6 := Nat.le_trans (K4).1 (Nat.le_of_eq g6.symm)
  have ne_o0_b6 : o0 ≠ b6 := Nat.ne_of_lt (Nat.lt_of_lt_of_le c5_0.lt (Nat.le_of_eq g6.symm))
  have ne_o1_b6 : o1 ≠ b6 := Nat.ne_of_lt (Nat.lt_of_lt_of_le c5_16.lt (Nat.le_of_eq g6.symm))
  have ne_b2_b6 : b2 ≠ b6 := Nat.ne_of_lt (Nat.lt_of_lt_of_le c5_19.lt (Nat.le_of_eq g6.symm))
  have c7_0 := c5_0.ext E6
  have c7_1 := c5_1.ext E6
  have c7_2 := c5_2.ext E6
  have c7_3 := c5_3.ext E6
  have c7_4 := c5_4.ext E6
  have c7_5 := c5_5.ext E6
  have c7_6 := c5_6.ext E6
  have c7_7 := c5_7.ext E6
  have c7_8 := c5_8.ext E6
  have c7_9 := c5_9.ext E6
  have c7_10 := c5_10.ext E6
  have c7_11 := Fw4.ext E6
  have c7_12 := c5_12.ext E6
  have c7_13 := c5_13.ext E6
  have c7_14 := c5_14.ext E6
  have c7_16 := c5_16.ext E6
  have c7_17 := c5_17.ext E6
  have c7_19 := c5_19.ext E6
  have c7_20 := c5_20.ext E6
  have K6 : Keep h0 h6 [o0] := K4.ext E6
  have Z6 := Nat.le_trans Z4 E6.1
  have V6 : AV Z h6 b6 .int 1024 (fun k => .int ((fun _ => (0 : Int32)) k)) := by have q := AV.new A6; exact q
  refine Go.via st6 ?_
  obtain ⟨T8, h8, X8, e8, W8, st8⟩ := putF X6 hx hZ hown (host := "") (Or.inl (wq hw 12 rfl)) Via.refl e6 c7_12 c7_0 (Or.inl (wq hw 13 rfl)) (wq hw 1 rfl) (ty := (.array .int)) (by decide) rfl rfl (g := (mkF m 19 #[sR o0, sR o1, .unset] [(.ref b6), (.ref o0)])) rfl rfl (hb hby d1_19)
  have N8 := Fr.snoc X8 N4 ha15
  have c9_0 := c7_0.wr W8
  have c9_1 := c7_1.other W8 (Or.inr (slot_ne (Or.inl (wq hw 57 rfl)) (Or.inl (wq hw 13 rfl)) (by decide) (t := .int) (t' := (.array .int)) (by decide) (by decide)))
  have c9_2 := c7_2.other W8 (Or.inr (slot_ne (Or.inl (wq hw 64 rfl)) (Or.inl (wq hw 13 rfl)) (by decide) (t := .int) (t' := (.array .int)) (by decide) (by decide)))
  have c9_3 := c7_3.other W8 (Or.inr (slot_ne (Or.inl (wq hw 71 rfl)) (Or.inl (wq hw 13 rfl)) (by decide) (t := (.object "com/example/whittle/whittle/engine/Domains$RemovalListener")) (t' := (.array .int)) (by decide) (by decide)))
  have c9_4 := c7_4.other W8 (Or.inr (slot_ne (Or.inr (wq hw 37 rfl)) (Or.inl (wq hw 13 rfl)) (by decide) (t := (.array .int)) (t' := (.array .int)) (by decide) (by decide)))
  have c9_5 := c7_5.other W8 (Or.inr (slot_ne (Or.inr (wq hw 39 rfl)) (Or.inl (wq hw 13 rfl)) (by decide) (t := (.array .int)) (t' := (.array .int)) (by decide) (by decide)))
  have c9_6 := c7_6.other W8 (Or.inr (slot_ne (Or.inr (wq hw 35 rfl)) (Or.inl (wq hw 13 rfl)) (by decide) (t := (.array .int)) (t' := (.array .int)) (by decide) (by decide)))
  have c9_7 := c7_7.other W8 (Or.inr (slot_ne (Or.inr (wq hw 29 rfl)) (Or.inl (wq hw 13 rfl)) (by decide) (t := (.array .int)) (t' := (.array .int)) (by decide) (by decide)))
  have c9_8 := c7_8.other W8 (Or.inr (slot_ne (Or.inr (wq hw 42 rfl)) (Or.inl (wq hw 13 rfl)) (by decide) (t := (.array .int)) (t' := (.array .int)) (by decide) (by decide)))
  have c9_9 := c7_9.other W8 (Or.inr (slot_ne (Or.inr (wq hw 45 rfl)) (Or.inl (wq hw 13 rfl)) (by decide) (t := (.array .boolean)) (t' := (.array .int)) (by decide) (by decide)))
  have c9_10 := c7_10.other W8 (Or.inr (slot_ne (Or.inr (wq hw 33 rfl)) (Or.inl (wq hw 13 rfl)) (by decide) (t := (.array (.array .long))) (t' := (.array .int)) (by decide) (by decide)))
  have c9_11 := c7_11.other W8 (Or.inr (slot_ne (Or.inl (wq hw 11 rfl)) (Or.inl (wq hw 13 rfl)) (by decide) (t := (.array .int)) (t' := (.array .int)) (by decide) (by decide)))
  have c9_13 := c7_13.other W8 (Or.inr (slot_ne (Or.inl (wq hw 16 rfl)) (Or.inl (wq hw 13 rfl)) (by decide) (t := (.array .long)) (t' := (.array .int)) (by decide) (by decide)))
  have c9_14 := c7_14.other W8 (Or.inr (slot_ne (Or.inl (wq hw 18 rfl)) (Or.inl (wq hw 13 rfl)) (by decide) (t := (.array .int)) (t' := (.array .int)) (by decide) (by decide)))
  have c9_16 := c7_16.wr W8
  have c9_17 := c7_17.other W8 (Ne.symm hne_o0_o1)
  have c9_19 := c7_19.wr W8
  have c9_20 := c7_20.other W8 (Ne.symm ne_o0_b2)
  have c9_22 := B6.wr W8
  have c9_23 := V6.other W8 (Ne.symm ne_o0_b6)
  have K8 : Keep h0 h8 [o0] := K6.wr W8 (Or.inl (by simp))
  have Z8 := Nat.le_trans Z6 (Keep.of_wr W8).1
  have Fw8 := c7_12.same W8
  refine Go.via st8 ?_
  refine Vi (T8.setTop (mkF m 26 #[sR o0, sR o1, .unset] [(.int 1024), (.ref o0)])) (fun tZ kZ => ?_) ?_
  · refine XS.aloadN X8.here hx rfl (hb hby d1_22) rfl rfl ?_
    refine XS.sipush X8.here hx rfl (hb hby d1_23) ?_
    exact kZ
  obtain ⟨T10, h10, k10, X10, e10, E10, A10, B10, st10⟩ := newPE X8 hx hZ (wq hw 14 rfl) e8 (g := (mkF m 26 #[sR o0, sR o1, .unset] [(.int 1024), (.ref o0)])) rfl (hb hby d1_26) rfl (by decide) (cap := 1024) (by decide) (by decide) (by decide) (by decide) (ad := "[J") rfl
  obtain ⟨b10, g10⟩ : ∃ z, z = h8.size := ⟨_, rfl⟩
  rw [← g10] at A10 B10 st10
  have g_b10 : n0 ≤ b10 := Nat.le_trans Z8 (Nat.le_of_eq g10.symm)
  have sz_b10 : h0.size ≤ b10 := Nat.le_trans (K8).1 (Nat.le_of_eq g10.symm)
  have ne_o0_b10 : o0 ≠ b10 := Nat.ne_of_lt (Nat.lt_of_lt_of_le c9_0.lt (Nat.le_of_eq g10.symm))
  have ne_o1_b10 : o1 ≠ b10 := Nat.ne_of_lt (Nat.lt_of_lt_of_le c9_16.lt (Nat.le_of_eq g10.symm))
  have ne_b2_b10 : b2 ≠ b10 := Nat.ne_of_lt (Nat.lt_of_lt_of_le c9_19.lt (Nat.le_of_eq g10.symm))
  have ne_b6_b10 : b6 ≠ b10 := Nat.ne_of_lt (Nat.lt_of_lt_of_le c9_22.lt (Nat.le_of_eq g10.symm))
  have c11_0 := c9_0.ext E10
  have c11_1 := c9_1.ext E10
  have c11_2 := c9_2.ext E10
  have c11_3 := c9_3.ext E10
  have c11_4 := c9_4.ext E10
  have c11_5 := c9_5.ext E10
  have c11_6 := c9_6.ext E10
  have c11_7 := c9_7.ext E10
  have c11_8 := c9_8.ext E10
  have c11_9 := c9_9.ext E10
  have c11_10 := c9_10.ext E10
  have c11_11 := c9_11.ext E10
  have c11_12 := Fw8.ext E10
  have c11_13 := c9_13.ext E10
  have c11_14 := c9_14.ext E10
  have c11_16 := c9_16.ext E10
  have c11_17 := c9_17.ext E10
  have c11_19 := c9_19.ext E10
  have c11_20 := c9_20.ext E10
  have c11_22 := c9_22.ext E10
  have c11_23 := c9_23.ext E10
  have K10 : Keep h0 h10 [o0] := K8.ext E10
  have Z10 := Nat.le_trans Z8 E10.1
  have V10 : AV Z h10 b10 .long 1024 (fun k => .long ((fun _ => (0 : Int64)) k)) := by have q := AV.new A10; exact q
  refine Go.via st10 ?_
  obtain ⟨T12, h12, X12, e12, W12, st12⟩ := putF X10 hx hZ hown (host := "") (Or.inl (wq hw 15 rfl)) Via.refl e10 c11_13 c11_0 (Or.inl (wq hw 16 rfl)) (wq hw 1 rfl) (ty := (.array .long)) (by decide) rfl rfl (g := (mkF m 28 #[sR o0, sR o1, .unset] [(.ref b10), (.ref o0)])) rfl rfl (hb hby d1_28)
  have N12 := Fr.snoc X12 N8 ha15
  have c13_0 := c11_0.wr W12
  have c13_1 := c11_1.other W12 (Or.inr (slot_ne (Or.inl (wq hw 57 rfl)) (Or.inl (wq hw 16 rfl)) (by decide) (t := .int) (t' := (.array .long)) (by decide) (by decide)))
  have c13_2 := c11_2.other W12 (Or.inr (slot_ne (Or.inl (wq hw 64 rfl)) (Or.inl (wq hw 16 rfl)) (by decide) (t := .int) (t' := (.array .long)) (by decide) (by decide)))
  have c13_3 := c11_3.other W12 (Or.inr (slot_ne (Or.inl (wq hw 71 rfl)) (Or.inl (wq hw 16 rfl)) (by decide) (t := (.object "com/example/whittle/whittle/engine/Domains$RemovalListener")) (t' := (.array .long)) (by decide) (by decide)))
  have c13_4 := c11_4.other W12 (Or.inr (slot_ne (Or.inr (wq hw 37 rfl)) (Or.inl (wq hw 16 rfl)) (by decide) (t := (.array .int)) (t' := (.array .long)) (by decide) (by decide)))
  have c13_5 := c11_5.other W12 (Or.inr (slot_ne (Or.inr (wq hw 39 rfl)) (Or.inl (wq hw 16 rfl)) (by decide) (t := (.array .int)) (t' := (.array .long)) (by decide) (by decide)))
  have c13_6 := c11_6.other W12 (Or.inr (slot_ne (Or.inr (wq hw 35 rfl)) (Or.inl (wq hw 16 rfl)) (by decide) (t := (.array .int)) (t' := (.array .long)) (by decide) (by decide)))
  have c13_7 := c11_7.other W12 (Or.inr (slot_ne (Or.inr (wq hw 29 rfl)) (Or.inl (wq hw 16 rfl)) (by decide) (t := (.array .int)) (t' := (.array .long)) (by decide) (by decide)))
  have c13_8 := c11_8.other W12 (Or.inr (slot_ne (Or.inr (wq hw 42 rfl)) (Or.inl (wq hw 16 rfl)) (by decide) (t := (.array .int)) (t' := (.array .long)) (by decide) (by decide)))
  have c13_9 := c11_9.other W12 (Or.inr (slot_ne (Or.inr (wq hw 45 rfl)) (Or.inl (wq hw 16 rfl)) (by decide) (t := (.array .boolean)) (t' := (.array .long)) (by decide) (by decide)))
  have c13_10 := c11_10.other W12 (Or.inr (slot_ne (Or.inr (wq hw 33 rfl)) (Or.inl (wq hw 16 rfl)) (by decide) (t := (.array (.array .long))) (t' := (.array .long)) (by decide) (by decide)))
  have c13_11 := c11_11.other W12 (Or.inr (slot_ne (Or.inl (wq hw 11 rfl)) (Or.inl (wq hw 16 rfl)) (by decide) (t := (.array .int)) (t' := (.array .long)) (by decide) (by decide)))
  have c13_12 := c11_12.other W12 (Or.inr (slot_ne (Or.inl (wq hw 13 rfl)) (Or.inl (wq hw 16 rfl)) (by decide) (t := (.array .int)) (t' := (.array .long)) (by decide) (by decide)))
  have c13_14 := c11_14.other W12 (Or.inr (slot_ne (Or.inl (wq hw 18 rfl)) (Or.inl (wq hw 16 rfl)) (by decide) (t := (.array .int)) (t' := (.array .long)) (by decide) (by decide)))
  have c13_16 := c11_16.wr W12
  have c13_17 := c11_17.other W12 (Ne.symm hne_o0_o1)
  have c13_19 := c11_19.wr W12
  have c13_20 := c11_20.other W12 (Ne.symm ne_o0_b2)
  have c13_22 := c11_22.wr W12
  have c13_23 := c11_23.other W12 (Ne.symm ne_o0_b6)
  have c13_25 := B10.wr W12
  have c13_26 := V10.other W12 (Ne.symm ne_o0_b10)
  have K12 : Keep h0 h12 [o0] := K10.wr W12 (Or.inl (by simp))
  have Z12 := Nat.le_trans Z10 (Keep.of_wr W12).1
  have Fw12 := c11_13.same W12
  refine Go.via st12 ?_
  refine Vi (T12.setTop (mkF m 35 #[sR o0, sR o1, .unset] [(.int 1024), (.ref o0)])) (fun tZ kZ => ?_) ?_
  · refine XS.aloadN X12.here hx rfl (hb hby d1_31) rfl rfl ?_
    refine XS.sipush X12.here hx rfl (hb hby d1_32) ?_
    exact kZ
  obtain ⟨T14, h14, k14, X14, e14, E14, A14, B14, st14⟩ := newPE X12 hx hZ (wq hw 3 rfl) e12 (g := (mkF m 35 #[sR o0, sR o1, .unset] [(.int 1024), (.ref o0)])) rfl (hb hby d1_35) rfl (by decide) (cap := 1024) (by decide) (by decide) (by decide) (by decide) (ad := "[I") rfl
  obtain ⟨b14, g14⟩ : ∃ z, z = h12.size := ⟨_, rfl⟩
  rw [← g14] at A14 B14 st14
  have g_b14 : n0 ≤ b14 := Nat.le_trans Z12 (Nat.le_of_eq g14.symm)
  have sz_b14 : h0.size ≤ b14 := Nat.le_trans (K12).1 (Nat.le_of_eq g14.symm)
  have ne_o0_b14 : o0 ≠ b14 := Nat.ne_of_lt (Nat.lt_of_lt_of_le c13_0.lt (Nat.le_of_eq g14.symm))
  have ne_o1_b14 : o1 ≠ b14 := Nat.ne_of_lt (Nat.lt_of_lt_of_le c13_16.lt (Nat.le_of_eq g14.symm))
  have ne_b2_b14 : b2 ≠ b14 := Nat.ne_of_lt (Nat.lt_of_lt_of_le c13_19.lt (Nat.le_of_eq g14.symm))
  have ne_b6_b14 : b6 ≠ b14 := Nat.ne_of_lt (Nat.lt_of_lt_of_le c13_22.lt (Nat.le_of_eq g14.symm))
  have ne_b10_b14 : b10 ≠ b14 := Nat.ne_of_lt (Nat.lt_of_lt_of_le c13_25.lt (Nat.le_of_eq g14.symm))
  have c15_0 := c13_0.ext E14
  have c15_1 := c13_1.ext E14
  have c15_2 := c13_2.ext E14
  have c15_3 := c13_3.ext E14
  have c15_4 := c13_4.ext E14
  have c15_5 := c13_5.ext E14
  have c15_6 := c13_6.ext E14
  have c15_7 := c13_7.ext E14
  have c15_8 := c13_8.ext E14
  have c15_9 := c13_9.ext E14
  have c15_10 := c13_10.ext E14
  have c15_11 := c13_11.ext E14
  have c15_12 := c13_12.ext E14
  have c15_13 := Fw12.ext E14
  have c15_14 := c13_14.ext E14
  have c15_16 := c13_16.ext E14
  have c15_17 := c13_17.ext E14
  have c15_19 := c13_19.ext E14
  have c15_20 := c13_20.ext E14
  have c15_22 := c13_22.ext E14
  have c15_23 := c13_23.ext E14
  have c15_25 := c13_25.ext E14
  have c15_26 := c13_26.ext E14
  have K14 : Keep h0 h14 [o0] := K12.ext E14
  have Z14 := Nat.le_trans Z12 E14.1
  have V14 : AV Z h14 b14 .int 1024 (fun k => .int ((fun _ => (0 : Int32)) k)) := by have q := AV.new A14; exact q
  refine Go.via st14 ?_
  obtain ⟨T16, h16, X16, e16, W16, st16⟩ := putF X14 hx hZ hown (host := "") (Or.inl (wq hw 17 rfl)) Via.refl e14 c15_14 c15_0 (Or.inl (wq hw 18 rfl)) (wq hw 1 rfl) (ty := (.array .int)) (by decide) rfl rfl (g := (mkF m 37 #[sR o0, sR o1, .unset] [(.ref b14), (.ref o0)])) rfl rfl (hb hby d1_37)
  have N16 := Fr.snoc X16 N12 ha15
  have c17_0 := c15_0.wr W16
  have c17_1 := c15_1.other W16 (Or.inr (slot_ne (Or.inl (wq hw 57 rfl)) (Or.inl (wq hw 18 rfl)) (by decide) (t := .int) (t' := (.array .int)) (by decide) (by decide)))
  have c17_2 := c15_2.other W16 (Or.inr (slot_ne (Or.inl (wq hw 64 rfl)) (Or.inl (wq hw 18 rfl)) (by decide) (t := .int) (t' := (.array .int)) (by decide) (by decide)))
  have c17_3 := c15_3.other W16 (Or.inr (slot_ne (Or.inl (wq hw 71 rfl)) (Or.inl (wq hw 18 rfl)) (by decide) (t := (.object "com/example/whittle/whittle/engine/Domains$RemovalListener")) (t' := (.array .int)) (by decide) (by decide)))
  have c17_4 := c15_4.other W16 (Or.inr (slot_ne (Or.inr (wq hw 37 rfl)) (Or.inl (wq hw 18 rfl)) (by decide) (t := (.array .int)) (t' := (.array .int)) (by decide) (by decide)))
  have c17_5 := c15_5.other W16 (Or.inr (slot_ne (Or.inr (wq hw 39 rfl)) (Or.inl (wq hw 18 rfl)) (by decide) (t := (.array .int)) (t' := (.array .int)) (by decide) (by decide)))
  have c17_6 := c15_6.other W16 (Or.inr (slot_ne (Or.inr (wq hw 35 rfl)) (Or.inl (wq hw 18 rfl)) (by decide) (t := (.array .int)) (t' := (.array .int)) (by decide) (by decide)))
  have c17_7 := c15_7.other W16 (Or.inr (slot_ne (Or.inr (wq hw 29 rfl)) (Or.inl (wq hw 18 rfl)) (by decide) (t := (.array .int)) (t' := (.array .int)) (by decide) (by decide)))
  have c17_8 := c15_8.other W16 (Or.inr (slot_ne (Or.inr (wq hw 42 rfl)) (Or.inl (wq hw 18 rfl)) (by decide) (t := (.array .int)) (t' := (.array .int)) (by decide) (by decide)))
  have c17_9 := c15_9.other W16 (Or.inr (slot_ne (Or.inr (wq hw 45 rfl)) (Or.inl (wq hw 18 rfl)) (by decide) (t := (.array .boolean)) (t' := (.array .int)) (by decide) (by decide)))
  have c17_10 := c15_10.other W16 (Or.inr (slot_ne (Or.inr (wq hw 33 rfl)) (Or.inl (wq hw 18 rfl)) (by decide) (t := (.array (.array .long))) (t' := (.array .int)) (by decide) (by decide)))
  have c17_11 := c15_11.other W16 (Or.inr (slot_ne (Or.inl (wq hw 11 rfl)) (Or.inl (wq hw 18 rfl)) (by decide) (t := (.array .int)) (t' := (.array .int)) (by decide) (by decide)))
  have c17_12 := c15_12.other W16 (Or.inr (slot_ne (Or.inl (wq hw 13 rfl)) (Or.inl (wq hw 18 rfl)) (by decide) (t := (.array .int)) (t' := (.array .int)) (by decide) (by decide)))
  have c17_13 := c15_13.other W16 (Or.inr (slot_ne (Or.inl (wq hw 16 rfl)) (Or.inl (wq hw 18 rfl)) (by decide) (t := (.array .long)) (t' := (.array .int)) (by decide) (by decide)))
  have c17_16 := c15_16.wr W16
  have c17_17 := c15_17.other W16 (Ne.symm hne_o0_o1)
  have c17_19 := c15_19.wr W16
  have c17_20 := c15_20.other W16 (Ne.symm ne_o0_b2)
  have c17_22 := c15_22.wr W16
  have c17_23 := c15_23.other W16 (Ne.symm ne_o0_b6)
  have c17_25 := c15_25.wr W16
  have c17_26 := c15_26.other W16 (Ne.symm ne_o0_b10)
  have c17_28 := B14.wr W16
  have c17_29 := V14.other W16 (Ne.symm ne_o0_b14)
  have K16 : Keep h0 h16 [o0] := K14.wr W16 (Or.inl (by simp))
  have Z16 := Nat.le_trans Z14 (Keep.of_wr W16).1
  have Fw16 := c15_14.same W16
  refine Go.via st16 ?_
  refine Vi (T16.setTop (mkF m 42 #[sR o0, sR o1, .unset] [(.ref o1), (.ref o0)])) (fun tZ kZ => ?_) ?_
  · refine XS.aloadN X16.here hx rfl (hb hby d1_40) rfl rfl ?_
    refine XS.aloadN X16.here hx rfl (hb hby d1_41) rfl rfl ?_
    exact kZ
  obtain ⟨T18, h18, X18, e18, E18, V18, B18, st18⟩ := AV.clone c17_17 (fun _ _ => rfl) X16 hx hZ hown (wq hw 19 rfl) (wq hw 20 rfl) (wq hw 24 rfl) (wq hw 22 rfl) (wq hw 23 rfl) (wq hw 25 rfl) e16 c17_16 (g := (mkF m 42 #[sR o0, sR o1, .unset] [(.ref o1), (.ref o0)])) rfl (by rw [hml]; rfl) (rest := [(.ref o0)]) rfl (hb hby d1_42) (by decide) (W := 1) (cap := 1) (by show 2 * 0 + _ ≤ _; exact Nat.le_of_eq rfl) (by decide) (by decide) (by decide) (by decide)
  obtain ⟨b18, g18⟩ : ∃ z, z = h16.size := ⟨_, rfl⟩
  rw [← g18] at V18 B18 st18
  have g_b18 : n0 ≤ b18 := Nat.le_trans Z16 (Nat.le_of_eq g18.symm)
  have sz_b18 : h0.size ≤ b18 := Nat.le_trans (K16).1 (Nat.le_of_eq g18.symm)
  have ne_o0_b18 : o0 ≠ b18 := Nat.ne_of_lt (Nat.lt_of_lt_of_le c17_0.lt (Nat.le_of_eq g18.symm))
  have ne_o1_b18 : o1 ≠ b18 := Nat.ne_of_lt (Nat.lt_of_lt_of_le c17_16.lt (Nat.le_of_eq g18.symm))
  have ne_b2_b18 : b2 ≠ b18 := Nat.ne_of_lt (Nat.lt_of_lt_of_le c17_19.lt (Nat.le_of_eq g18.symm))
  have ne_b6_b18 : b6 ≠ b18 := Nat.ne_of_lt (Nat.lt_of_lt_of_le c17_22.lt (Nat.le_of_eq g18.symm))
  have ne_b10_b18 : b10 ≠ b18 := Nat.ne_of_lt (Nat.lt_of_lt_of_le c17_25.lt (Nat.le_of_eq g18.symm))
  have ne_b14_b18 : b14 ≠ b18 := Nat.ne_of_lt (Nat.lt_of_lt_of_le c17_28.lt (Nat.le_of_eq g18.symm))
  have c19_0 := c17_0.ext E18
  have c19_1 := c17_1.ext E18
  have c19_2 := c17_2.ext E18
  have c19_3 := c17_3.ext E18
  have c19_4 := c17_4.ext E18
  have c19_5 := c17_5.ext E18
  have c19_6 := c17_6.ext E18
  have c19_7 := c17_7.ext E18
  have c19_8 := c17_8.ext E18
  have c19_9 := c17_9.ext E18
  have c19_10 := c17_10.ext E18
  have c19_11 := c17_11.ext E18
  have c19_12 := c17_12.ext E18
  have c19_13 := c17_13.ext E18
  have c19_14 := Fw16.ext E18
  have c19_16 := c17_16.ext E18
  have c19_17 := c17_17.ext E18
  have c19_19 := c17_19.ext E18
  have c19_20 := c17_20.ext E18
  have c19_22 := c17_22.ext E18
  have c19_23 := c17_23.ext E18
  have c19_25 := c17_25.ext E18
  have c19_26 := c17_26.ext E18
  have c19_28 := c17_28.ext E18
  have c19_29 := c17_29.ext E18
  have K18 : Keep h0 h18 [o0] := K16.ext E18
  have Z18 := Nat.le_trans Z16 E18.1
  refine Go.via st18 ?_
  obtain ⟨T20, X20, e20, st20⟩ := castY X18 hx hZ hown (wq hw 26 rfl) e18 (Ins.self B18) (g := (mkF m 45 #[sR o0, sR o1, .unset] [(.ref b18), (.ref o0)])) rfl rfl (hb hby d1_45)
  refine Go.via st20 ?_
  obtain ⟨T21, h21, X21, e21, W21, st21⟩ := putF X20 hx hZ hown (host := "") (Or.inl (wq hw 28 rfl)) Via.refl e20 c19_7 c19_0 (Or.inr ⟨(wq hw 29 rfl), rfl, hnm⟩) (wq hw 1 rfl) (ty := (.array .int)) (by decide) rfl rfl (g := (mkF m 48 #[sR o0, sR o1, .unset] [(.ref b18), (.ref o0)])) rfl rfl (hb hby d1_48)
  have N21 := Fr.snoc X21 N16 ha15
  have c22_0 := c19_0.wr W21
  have c22_1 := c19_1.other W21 (Or.inr (slot_ne (Or.inl (wq hw 57 rfl)) (Or.inr (wq hw 29 rfl)) (by decide) (t := .int) (t' := (.array .int)) (by decide) (by decide)))
  have c22_2 := c19_2.other W21 (Or.inr (slot_ne (Or.inl (wq hw 64 rfl)) (Or.inr (wq hw 29 rfl)) (by decide) (t := .int) (t' := (.array .int)) (by decide) (by decide)))
  have c22_3 := c19_3.other W21 (Or.inr (slot_ne (Or.inl (wq hw 71 rfl)) (Or.inr (wq hw 29 rfl)) (by decide) (t := (.object "com/example/whittle/whittle/engine/Domains$RemovalListener")) (t' := (.array .int)) (by decide) (by decide)))
  have c22_4 := c19_4.other W21 (Or.inr (slot_ne (Or.inr (wq hw 37 rfl)) (Or.inr (wq hw 29 rfl)) (by decide) (t := (.array .int)) (t' := (.array .int)) (by decide) (by decide)))
  have c22_5 := c19_5.other W21 (Or.inr (slot_ne (Or.inr (wq hw 39 rfl)) (Or.inr (wq hw 29 rfl)) (by decide) (t := (.array .int)) (t' := (.array .int)) (by decide) (by decide)))
  have c22_6 := c19_6.other W21 (Or.inr (slot_ne (Or.inr (wq hw 35 rfl)) (Or.inr (wq hw 29 rfl)) (by decide) (t := (.array .int)) (t' := (.array .int)) (by decide) (by decide)))
  have c22_8 := c19_8.other W21 (Or.inr (slot_ne (Or.inr (wq hw 42 rfl)) (Or.inr (wq hw 29 rfl)) (by decide) (t := (.array .int)) (t' := (.array .int)) (by decide) (by decide)))
  have c22_9 := c19_9.other W21 (Or.inr (slot_ne (Or.inr (wq hw 45 rfl)) (Or.inr (wq hw 29 rfl)) (by decide) (t := (.array .boolean)) (t' := (.array .int)) (by decide) (by decide)))
  have c22_10 := c19_10.other W21 (Or.inr (slot_ne (Or.inr (wq hw 33 rfl)) (Or.inr (wq hw 29 rfl)) (by decide) (t := (.array (.array .long))) (t' := (.array .int)) (by decide) (by decide)))
  have c22_11 := c19_11.other W21 (Or.inr (slot_ne (Or.inl (wq hw 11 rfl)) (Or.inr (wq hw 29 rfl)) (by decide) (t := (.array .int)) (t' := (.array .int)) (by decide) (by decide)))
  have c22_12 := c19_12.other W21 (Or.inr (slot_ne (Or.inl (wq hw 13 rfl)) (Or.inr (wq hw 29 rfl)) (by decide) (t := (.array .int)) (t' := (.array .int)) (by decide) (by decide)))
  have c22_13 := c19_13.other W21 (Or.inr (slot_ne (Or.inl (wq hw 16 rfl)) (Or.inr (wq hw 29 rfl)) (by decide) (t := (.array .long)) (t' := (.array .int)) (by decide) (by decide)))
  have c22_14 := c19_14.other W21 (Or.inr (slot_ne (Or.inl (wq hw 18 rfl)) (Or.inr (wq hw 29 rfl)) (by decide) (t := (.array .int)) (t' := (.array .int)) (by decide) (by decide)))
  have c22_16 := c19_16.wr W21
  have c22_17 := c19_17.other W21 (Ne.symm hne_o0_o1)
  have c22_19 := c19_19.wr W21
  have c22_20 := c19_20.other W21 (Ne.symm ne_o0_b2)
  have c22_22 := c19_22.wr W21
  have c22_23 := c19_23.other W21 (Ne.symm ne_o0_b6)
  have c22_25 := c19_25.wr W21
  have c22_26 := c19_26.other W21 (Ne.symm ne_o0_b10)
  have c22_28 := c19_28.wr W21
  have c22_29 := c19_29.other W21 (Ne.symm ne_o0_b14)
  have c22_31 := V18.other W21 (Ne.symm ne_o0_b18)
  have c22_32 := B18.wr W21
  have K21 : Keep h0 h21 [o0] := K18.wr W21 (Or.inl (by simp))
  have Z21 := Nat.le_trans Z18 (Keep.of_wr W21).1
  have Fw21 := c19_7.same W21
  refine Go.via st21 ?_
  refine Vi (T21.setTop (mkF m 54 #[sR o0, sR o1, .unset] [(.int 1), (.ref o0)])) (fun tZ kZ => ?_) ?_
  · refine XS.aloadN X21.here hx rfl (hb hby d1_51) rfl rfl ?_
    refine XS.aloadN X21.here hx rfl (hb hby d1_52) rfl rfl ?_
    refine AV.len c22_17 X21 hx hZ e21 (hb hby d1_53) ?_
    exact kZ
  obtain ⟨T23, h23, k23, X23, e23, E23, A23, B23, O23, st23⟩ := newRA X21 hx hZ hown (C := "[J") (ty := .long) rfl (wq hw 30 rfl) (wq hw 31 rfl) e21 (g := (mkF m 54 #[sR o0, sR o1, .unset] [(.int 1), (.ref o0)])) rfl (hb hby d1_54) rfl (by decide) (cap := 1) (by decide) (by decide) (by decide) (by decide) (ad := "[[J") rfl
  obtain ⟨b23, g23⟩ : ∃ z, z = h21.size := ⟨_, rfl⟩
  rw [← g23] at A23 B23 st23
  have g_b23 : n0 ≤ b23 := Nat.le_trans Z21 (Nat.le_of_eq g23.symm)
  have sz_b23 : h0.size ≤ b23 := Nat.le_trans (K21).1 (Nat.le_of_eq g23.symm)
  have ne_o0_b23 : o0 ≠ b23 := Nat.ne_of_lt (Nat.lt_of_lt_of_le c22_0.lt (Nat.le_of_eq g23.symm))
  have ne_o1_b23 : o1 ≠ b23 := Nat.ne_of_lt (Nat.lt_of_lt_of_le c22_16.lt (Nat.le_of_eq g23.symm))
  have ne_b2_b23 : b2 ≠ b23 := Nat.ne_of_lt (Nat.lt_of_lt_of_le c22_19.lt (Nat.le_of_eq g23.symm))
  have ne_b6_b23 : b6 ≠ b23 := Nat.ne_of_lt (Nat.lt_of_lt_of_le c22_22.lt (Nat.le_of_eq g23.symm))
  have ne_b10_b23 : b10 ≠ b23 := Nat.ne_of_lt (Nat.lt_of_lt_of_le c22_25.lt (Nat.le_of_eq g23.symm))
  have ne_b14_b23 : b14 ≠ b23 := Nat.ne_of_lt (Nat.lt_of_lt_of_le c22_28.lt (Nat.le_of_eq g23.symm))
  have ne_b18_b23 : b18 ≠ b23 := Nat.ne_of_lt (Nat.lt_of_lt_of_le c22_31.lt (Nat.le_of_eq g23.symm))
  have c24_0 := c22_0.ext E23
  have c24_1 := c22_1.ext E23
  have c24_2 := c22_2.ext E23
  have c24_3 := c22_3.ext E23
  have c24_4 := c22_4.ext E23
  have c24_5 := c22_5.ext E23
  have c24_6 := c22_6.ext E23
  have c24_7 := Fw21.ext E23
  have c24_8 := c22_8.ext E23
  have c24_9 := c22_9.ext E23
  have c24_10 := c22_10.ext E23
  have c24_11 := c22_11.ext E23
  have c24_12 := c22_12.ext E23
  have c24_13 := c22_13.ext E23
  have c24_14 := c22_14.ext E23
  have c24_16 := c22_16.ext E23
  have c24_17 := c22_17.ext E23
  have c24_19 := c22_19.ext E23
  have c24_20 := c22_20.ext E23
  have c24_22 := c22_22.ext E23
  have c24_23 := c22_23.ext E23
  have c24_25 := c22_25.ext E23
  have c24_26 := c22_26.ext E23
  have c24_28 := c22_28.ext E23
  have c24_29 := c22_29.ext E23
  have c24_31 := c22_31.ext E23
  have c24_32 := c22_32.ext E23
  have K23 : Keep h0 h23 [o0] := K21.ext E23
  have Z23 := Nat.le_trans Z21 E23.1
  have V23 : AV Z h23 b23 (.array .long) 1 (fun _ => Value.null) := by have q := AV.new A23; exact q
  have OV23 : OV Z h23 b23 .long "[J" := ⟨_, A23.1, O23⟩
  refine Go.via st23 ?_
  obtain ⟨T25, h25, X25, e25, W25, st25⟩ := putF X23 hx hZ hown (host := "") (Or.inl (wq hw 32 rfl)) Via.refl e23 c24_10 c24_0 (Or.inr ⟨(wq hw 33 rfl), rfl, hnm⟩) (wq hw 1 rfl) (ty := (.array (.array .long))) (by decide) rfl rfl (g := (mkF m 57 #[sR o0, sR o1, .unset] [(.ref b23), (.ref o0)])) rfl rfl (hb hby d1_57)
  have N25 := Fr.snoc X25 N21 ha15
  have c26_0 := c24_0.wr W25
  have c26_1 := c24_1.other W25 (Or.inr (slot_ne (Or.inl (wq hw 57 rfl)) (Or.inr (wq hw 33 rfl)) (by decide) (t := .int) (t' := (.array (.array .long))) (by decide) (by decide)))
  have c26_2 := c24_2.other W25 (Or.inr (slot_ne (Or.inl (wq hw 64 rfl)) (Or.inr (wq hw 33 rfl)) (by decide) (t := .int) (t' := (.array (.array .long))) (by decide) (by decide)))
  have c26_3 := c24_3.other W25 (Or.inr (slot_ne (Or.inl (wq hw 71 rfl)) (Or.inr (wq hw 33 rfl)) (by decide) (t := (.object "com/example/whittle/whittle/engine/Domains$RemovalListener")) (t' := (.array (.array .long))) (by decide) (by decide)))
  have c26_4 := c24_4.other W25 (Or.inr (slot_ne (Or.inr (wq hw 37 rfl)) (Or.inr (wq hw 33 rfl)) (by decide) (t := (.array .int)) (t' := (.array (.array .long))) (by decide) (by decide)))
  have c26_5 := c24_5.other W25 (Or.inr (slot_ne (Or.inr (wq hw 39 rfl)) (Or.inr (wq hw 33 rfl)) (by decide) (t := (.array .int)) (t' := (.array (.array .long))) (by decide) (by decide)))
  have c26_6 := c24_6.other W25 (Or.inr (slot_ne (Or.inr (wq hw 35 rfl)) (Or.inr (wq hw 33 rfl)) (by decide) (t := (.array .int)) (t' := (.array (.array .long))) (by decide) (by decide)))
  have c26_7 := c24_7.other W25 (Or.inr (slot_ne (Or.inr (wq hw 29 rfl)) (Or.inr (wq hw 33 rfl)) (by decide) (t := (.array .int)) (t' := (.array (.array .long))) (by decide) (by decide)))
  have c26_8 := c24_8.other W25 (Or.inr (slot_ne (Or.inr (wq hw 42 rfl)) (Or.inr (wq hw 33 rfl)) (by decide) (t := (.array .int)) (t' := (.array (.array .long))) (by decide) (by decide)))
  have c26_9 := c24_9.other W25 (Or.inr (slot_ne (Or.inr (wq hw 45 rfl)) (Or.inr (wq hw 33 rfl)) (by decide) (t := (.array .boolean)) (t' := (.array (.array .long))) (by decide) (by decide)))
  have c26_11 := c24_11.other W25 (Or.inr (slot_ne (Or.inl (wq hw 11 rfl)) (Or.inr (wq hw 33 rfl)) (by decide) (t := (.array .int)) (t' := (.array (.array .long))) (by decide) (by decide)))
  have c26_12 := c24_12.other W25 (Or.inr (slot_ne (Or.inl (wq hw 13 rfl)) (Or.inr (wq hw 33 rfl)) (by decide) (t := (.array .int)) (t' := (.array (.array .long))) (by decide) (by decide)))
  have c26_13 := c24_13.other W25 (Or.inr (slot_ne (Or.inl (wq hw 16 rfl)) (Or.inr (wq hw 33 rfl)) (by decide) (t := (.array .long)) (t' := (.array (.array .long))) (by decide) (by decide)))
  have c26_14 := c24_14.other W25 (Or.inr (slot_ne (Or.inl (wq hw 18 rfl)) (Or.inr (wq hw 33 rfl)) (by decide) (t := (.array .int)) (t' := (.array (.array .long))) (by decide) (by decide)))
  have c26_16 := c24_16.wr W25
  have c26_17 := c24_17.other W25 (Ne.symm hne_o0_o1)
  have c26_19 := c24_19.wr W25
  have c26_20 := c24_20.other W25 (Ne.symm ne_o0_b2)
  have c26_22 := c24_22.wr W25
  have c26_23 := c24_23.other W25 (Ne.symm ne_o0_b6)
  have c26_25 := c24_25.wr W25
  have c26_26 := c24_26.other W25 (Ne.symm ne_o0_b10)
  have c26_28 := c24_28.wr W25
  have c26_29 := c24_29.other W25 (Ne.symm ne_o0_b14)
  have c26_31 := c24_31.other W25 (Ne.symm ne_o0_b18)
  have c26_32 := c24_32.wr W25
  have c26_34 := V23.other W25 (Ne.symm ne_o0_b23)
  have c26_35 := B23.wr W25
  have c26_36 := OV23.wr W25
  have K25 : Keep h0 h25 [o0] := K23.wr W25 (Or.inl (by simp))
  have Z25 := Nat.le_trans Z23 (Keep.of_wr W25).1
  have Fw25 := c24_10.same W25
  refine Go.via st25 ?_
  refine Vi (T25.setTop (mkF m 63 #[sR o0, sR o1, .unset] [(.int 1), (.ref o0)])) (fun tZ kZ => ?_) ?_
  · refine XS.aloadN X25.here hx rfl (hb hby d1_60) rfl rfl ?_
    refine XS.aloadN X25.here hx rfl (hb hby d1_61) rfl rfl ?_
    refine AV.len c26_17 X25 hx hZ e25 (hb hby d1_62) ?_
    exact kZ
  obtain ⟨T27, h27, k27, X27, e27, E27, A27, B27, st27⟩ := newPE X25 hx hZ (wq hw 3 rfl) e25 (g := (mkF m 63 #[sR o0, sR o1, .unset] [(.int 1), (.ref o0)])) rfl (hb hby d1_63) rfl (by decide) (cap := 1) (by decide) (by decide) (by decide) (by decide) (ad := "[I") rfl
  obtain ⟨b27, g27⟩ : ∃ z, z = h25.size := ⟨_, rfl⟩
  rw [← g27] at A27 B27 st27
  have g_b27 : n0 ≤ b27 := Nat.le_trans Z25 (Nat.le_of_eq g27.symm)
  have sz_b27 : h0.size ≤ b27 := Nat.le_trans (K25).1 (Nat.le_of_eq g27.symm)
  have ne_o0_b27 : o0 ≠ b27 := Nat.ne_of_lt (Nat.lt_of_lt_of_le c26_0.lt (Nat.le_of_eq g27.symm))
  have ne_o1_b27 : o1 ≠ b27 := Nat.ne_of_lt (Nat.lt_of_lt_of_le c26_16.lt (Nat.le_of_eq g27.symm))
  have ne_b2_b27 : b2 ≠ b27 := Nat.ne_of_lt (Nat.lt_of_lt_of_le c26_19.lt (Nat.le_of_eq g27.symm))
  have ne_b6_b27 : b6 ≠ b27 := Nat.ne_of_lt (Nat.lt_of_lt_of_le c26_22.lt (Nat.le_of_eq g27.symm))
  have ne_b10_b27 : b10 ≠ b27 := Nat.ne_of_lt (Nat.lt_of_lt_of_le c26_25.lt (Nat.le_of_eq g27.symm))
  have ne_b14_b27 : b14 ≠ b27 := Nat.ne_of_lt (Nat.lt_of_lt_of_le c26_28.lt (Nat.le_of_eq g27.symm))
  have ne_b18_b27 : b18 ≠ b27 := Nat.ne_of_lt (Nat.lt_of_lt_of_le c26_31.lt (Nat.le_of_eq g27.symm))
  have ne_b23_b27 : b23 ≠ b27 := Nat.ne_of_lt (Nat.lt_of_lt_of_le c26_34.lt (Nat.le_of_eq g27.symm))
  have c28_0 := c26_0.ext E27
  have c28_1 := c26_1.ext E27
  have c28_2 := c26_2.ext E27
  have c28_3 := c26_3.ext E27
  have c28_4 := c26_4.ext E27
  have c28_5 := c26_5.ext E27
  have c28_6 := c26_6.ext E27
  have c28_7 := c26_7.ext E27
  have c28_8 := c26_8.ext E27
  have c28_9 := c26_9.ext E27
  have c28_10 := Fw25.ext E27
  have c28_11 := c26_11.ext E27
  have c28_12 := c26_12.ext E27
  have c28_13 := c26_13.ext E27
  have c28_14 := c26_14.ext E27
  have c28_16 := c26_16.ext E27
  have c28_17 := c26_17.ext E27
  have c28_19 := c26_19.ext E27
  have c28_20 := c26_20.ext E27
  have c28_22 := c26_22.ext E27
  have c28_23 := c26_23.ext E27
  have c28_25 := c26_25.ext E27
  have c28_26 := c26_26.ext E27
  have c28_28 := c26_28.ext E27
  have c28_29 := c26_29.ext E27
  have c28_31 := c26_31.ext E27
  have c28_32 := c26_32.ext E27
  have c28_34 := c26_34.ext E27
  have c28_35 := c26_35.ext E27
  have c28_36 := c26_36.ext E27
  have K27 : Keep h0 h27 [o0] := K25.ext E27
  have Z27 := Nat.le_trans Z25 E27.1
  have V27 : AV Z h27 b27 .int 1 (fun k => .int ((fun _ => (0 : Int32)) k)) := by have q := AV.new A27; exact q
  refine Go.via st27 ?_
  obtain ⟨T29, h29, X29, e29, W29, st29⟩ := putF X27 hx hZ hown (host := "") (Or.inl (wq hw 34 rfl)) Via.refl e27 c28_6 c28_0 (Or.inr ⟨(wq hw 35 rfl), rfl, hnm⟩) (wq hw 1 rfl) (ty := (.array .int)) (by decide) rfl rfl (g := (mkF m 65 #[sR o0, sR o1, .unset] [(.ref b27), (.ref o0)])) rfl rfl (hb hby d1_65)
  have N29 := Fr.snoc X29 N25 ha15
  have c30_0 := c28_0.wr W29
  have c30_1 := c28_1.other W29 (Or.inr (slot_ne (Or.inl (wq hw 57 rfl)) (Or.inr (wq hw 35 rfl)) (by decide) (t := .int) (t' := (.array .int)) (by decide) (by decide)))
  have c30_2 := c28_2.other W29 (Or.inr (slot_ne (Or.inl (wq hw 64 rfl)) (Or.inr (wq hw 35 rfl)) (by decide) (t := .int) (t' := (.array .int)) (by decide) (by decide)))
  have c30_3 := c28_3.other W29 (Or.inr (slot_ne (Or.inl (wq hw 71 rfl)) (Or.inr (wq hw 35 rfl)) (by decide) (t := (.object "com/example/whittle/whittle/engine/Domains$RemovalListener")) (t' := (.array .int)) (by decide) (by decide)))
  have c30_4 := c28_4.other W29 (Or.inr (slot_ne (Or.inr (wq hw 37 rfl)) (Or.inr (wq hw 35 rfl)) (by decide) (t := (.array .int)) (t' := (.array .int)) (by decide) (by decide)))
  have c30_5 := c28_5.other W29 (Or.inr (slot_ne (Or.inr (wq hw 39 rfl)) (Or.inr (wq hw 35 rfl)) (by decide) (t := (.array .int)) (t' := (.array .int)) (by decide) (by decide)))
  have c30_7 := c28_7.other W29 (Or.inr (slot_ne (Or.inr (wq hw 29 rfl)) (Or.inr (wq hw 35 rfl)) (by decide) (t := (.array .int)) (t' := (.array .int)) (by decide) (by decide)))
  have c30_8 := c28_8.other W29 (Or.inr (slot_ne (Or.inr (wq hw 42 rfl)) (Or.inr (wq hw 35 rfl)) (by decide) (t := (.array .int)) (t' := (.array .int)) (by decide) (by decide)))
  have c30_9 := c28_9.other W29 (Or.inr (slot_ne (Or.inr (wq hw 45 rfl)) (Or.inr (wq hw 35 rfl)) (by decide) (t := (.array .boolean)) (t' := (.array .int)) (by decide) (by decide)))
  have c30_10 := c28_10.other W29 (Or.inr (slot_ne (Or.inr (wq hw 33 rfl)) (Or.inr (wq hw 35 rfl)) (by decide) (t := (.array (.array .long))) (t' := (.array .int)) (by decide) (by decide)))
  have c30_11 := c28_11.other W29 (Or.inr (slot_ne (Or.inl (wq hw 11 rfl)) (Or.inr (wq hw 35 rfl)) (by decide) (t := (.array .int)) (t' := (.array .int)) (by decide) (by decide)))
  have c30_12 := c28_12.other W29 (Or.inr (slot_ne (Or.inl (wq hw 13 rfl)) (Or.inr (wq hw 35 rfl)) (by decide) (t := (.array .int)) (t' := (.array .int)) (by decide) (by decide)))
  have c30_13 := c28_13.other W29 (Or.inr (slot_ne (Or.inl (wq hw 16 rfl)) (Or.inr (wq hw 35 rfl)) (by decide) (t := (.array .long)) (t' := (.array .int)) (by decide) (by decide)))
  have c30_14 := c28_14.other W29 (Or.inr (slot_ne (Or.inl (wq hw 18 rfl)) (Or.inr (wq hw 35 rfl)) (by decide) (t := (.array .int)) (t' := (.array .int)) (by decide) (by decide)))
  have c30_16 := c28_16.wr W29
  have c30_17 := c28_17.other W29 (Ne.symm hne_o0_o1)
  have c30_19 := c28_19.wr W29
  have c30_20 := c28_20.other W29 (Ne.symm ne_o0_b2)
  have c30_22 := c28_22.wr W29
  have c30_23 := c28_23.other W29 (Ne.symm ne_o0_b6)
  have c30_25 := c28_25.wr W29
  have c30_26 := c28_26.other W29 (Ne.symm ne_o0_b10)
  have c30_28 := c28_28.wr W29
  have c30_29 := c28_29.other W29 (Ne.symm ne_o0_b14)
  have c30_31 := c28_31.other W29 (Ne.symm ne_o0_b18)
  have c30_32 := c28_32.wr W29
  have c30_34 := c28_34.other W29 (Ne.symm ne_o0_b23)
  have c30_35 := c28_35.wr W29
  have c30_36 := c28_36.wr W29
  have c30_38 := B27.wr W29
  have c30_39 := V27.other W29 (Ne.symm ne_o0_b27)
  have K29 : Keep h0 h29 [o0] := K27.wr W29 (Or.inl (by simp))
  have Z29 := Nat.le_trans Z27 (Keep.of_wr W29).1
  have Fw29 := c28_6.same W29
  refine Go.via st29 ?_
  refine Vi (T29.setTop (mkF m 71 #[sR o0, sR o1, .unset] [(.int 1), (.ref o0)])) (fun tZ kZ => ?_) ?_
  · refine XS.aloadN X29.here hx rfl (hb hby d1_68) rfl rfl ?_
    refine XS.aloadN X29.here hx rfl (hb hby d1_69) rfl rfl ?_
    refine AV.len c30_17 X29 hx hZ e29 (hb hby d1_70) ?_
    exact kZ
  obtain ⟨T31, h31, k31, X31, e31, E31, A31, B31, st31⟩ := newPE X29 hx hZ (wq hw 3 rfl) e29 (g := (mkF m 71 #[sR o0, sR o1, .unset] [(.int 1), (.ref o0)])) rfl (hb hby d1_71) rfl (by decide) (cap := 1) (by decide) (by decide) (by decide) (by decide) (ad := "[I") rfl
  obtain ⟨b31, g31⟩ : ∃ z, z = h29.size := ⟨_, rfl⟩
  rw [← g31] at A31 B31 st31
  have g_b31 : n0 ≤ b31 := Nat.le_trans Z29 (Nat.le_of_eq g31.symm)
  have sz_b31 : h0.size ≤ b31 := Nat.le_trans (K29).1 (Nat.le_of_eq g31.symm)
  have ne_o0_b31 : o0 ≠ b31 := Nat.ne_of_lt (Nat.lt_of_lt_of_le c30_0.lt (Nat.le_of_eq g31.symm))
  have ne_o1_b31 : o1 ≠ b31 := Nat.ne_of_lt (Nat.lt_of_lt_of_le c30_16.lt (Nat.le_of_eq g31.symm))
  have ne_b2_b31 : b2 ≠ b31 := Nat.ne_of_lt (Nat.lt_of_lt_of_le c30_19.lt (Nat.le_of_eq g31.symm))
  have ne_b6_b31 : b6 ≠ b31 := Nat.ne_of_lt (Nat.lt_of_lt_of_le c30_22.lt (Nat.le_of_eq g31.symm))
  have ne_b10_b31 : b10 ≠ b31 := Nat.ne_of_lt (Nat.lt_of_lt_of_le c30_25.lt (Nat.le_of_eq g31.symm))
  have ne_b14_b31 : b14 ≠ b31 := Nat.ne_of_lt (Nat.lt_of_lt_of_le c30_28.lt (Nat.le_of_eq g31.symm))
  have ne_b18_b31 : b18 ≠ b31 := Nat.ne_of_lt (Nat.lt_of_lt_of_le c30_31.lt (Nat.le_of_eq g31.symm))
  have ne_b23_b31 : b23 ≠ b31 := Nat.ne_of_lt (Nat.lt_of_lt_of_le c30_34.lt (Nat.le_of_eq g31.symm))
  have ne_b27_b31 : b27 ≠ b31 := Nat.ne_of_lt (Nat.lt_of_lt_of_le c30_38.lt (Nat.le_of_eq g31.symm))
  have c32_0 := c30_0.ext E31
  have c32_1 := c30_1.ext E31
  have c32_2 := c30_2.ext E31
  have c32_3 := c30_3.ext E31
  have c32_4 := c30_4.ext E31
  have c32_5 := c30_5.ext E31
  have c32_6 := Fw29.ext E31
  have c32_7 := c30_7.ext E31
  have c32_8 := c30_8.ext E31
  have c32_9 := c30_9.ext E31
  have c32_10 := c30_10.ext E31
  have c32_11 := c30_11.ext E31
  have c32_12 := c30_12.ext E31
  have c32_13 := c30_13.ext E31
  have c32_14 := c30_14.ext E31
  have c32_16 := c30_16.ext E31
  have c32_17 := c30_17.ext E31
  have c32_19 := c30_19.ext E31
  have c32_20 := c30_20.ext E31
  have c32_22 := c30_22.ext E31
  have c32_23 := c30_23.ext E31
  have c32_25 := c30_25.ext E31
  have c32_26 := c30_26.ext E31
  have c32_28 := c30_28.ext E31
  have c32_29 := c30_29.ext E31
  have c32_31 := c30_31.ext E31
  have c32_32 := c30_32.ext E31
  have c32_34 := c30_34.ext E31
  have c32_35 := c30_35.ext E31
  have c32_36 := c30_36.ext E31
  have c32_38 := c30_38.ext E31
  have c32_39 := c30_39.ext E31
  have K31 : Keep h0 h31 [o0] := K29.ext E31
  have Z31 := Nat.le_trans Z29 E31.1
  have V31 : AV Z h31 b31 .int 1 (fun k => .int ((fun _ => (0 : Int32)) k)) := by have q := AV.new A31; exact q
  refine Go.via st31 ?_
  obtain ⟨T33, h33, X33, e33, W33, st33⟩ := putF X31 hx hZ hown (host := "") (Or.inl (wq hw 36 rfl)) Via.refl e31 c32_4 c32_0 (Or.inr ⟨(wq hw 37 rfl), rfl, hnm⟩) (wq hw 1 rfl) (ty := (.array .int)) (by decide) rfl rfl (g := (mkF m 73 #[sR o0, sR o1, .unset] [(.ref b31), (.ref o0)])) rfl rfl (hb hby d1_73)
  have N33 := Fr.snoc X33 N29 ha15
  have c34_0 := c32_0.wr W33
  have c34_1 := c32_1.other W33 (Or.inr (slot_ne (Or.inl (wq hw 57 rfl)) (Or.inr (wq hw 37 rfl)) (by decide) (t := .int) (t' := (.array .int)) (by decide) (by decide)))
  have c34_2 := c32_2.other W33 (Or.inr (slot_ne (Or.inl (wq hw 64 rfl)) (Or.inr (wq hw 37 rfl)) (by decide) (t := .int) (t' := (.array .int)) (by decide) (by decide)))
  have c34_3 := c32_3.other W33 (Or.inr (slot_ne (Or.inl (wq hw 71 rfl)) (Or.inr (wq hw 37 rfl)) (by decide) (t := (.object "com/example/whittle/whittle/engine/Domains$RemovalListener")) (t' := (.array .int)) (by decide) (by decide)))
  have c34_5 := c32_5.other W33 (Or.inr (slot_ne (Or.inr (wq hw 39 rfl)) (Or.inr (wq hw 37 rfl)) (by decide) (t := (.array .int)) (t' := (.array .int)) (by decide) (by decide)))
  have c34_6 := c32_6.other W33 (Or.inr (slot_ne (Or.inr (wq hw 35 rfl)) (Or.inr (wq hw 37 rfl)) (by decide) (t := (.array .int)) (t' := (.array .int)) (by decide) (by decide)))
  have c34_7 := c32_7.other W33 (Or.inr (slot_ne (Or.inr (wq hw 29 rfl)) (Or.inr (wq hw 37 rfl)) (by decide) (t := (.array .int)) (t' := (.array .int)) (by decide) (by decide)))
  have c34_8 := c32_8.other W33 (Or.inr (slot_ne (Or.inr (wq hw 42 rfl)) (Or.inr (wq hw 37 rfl)) (by decide) (t := (.array .int)) (t' := (.array .int)) (by decide) (by decide)))
  have c34_9 := c32_9.other W33 (Or.inr (slot_ne (Or.inr (wq hw 45 rfl)) (Or.inr (wq hw 37 rfl)) (by decide) (t := (.array .boolean)) (t' := (.array .int)) (by decide) (by decide)))
  have c34_10 := c32_10.other W33 (Or.inr (slot_ne (Or.inr (wq hw 33 rfl)) (Or.inr (wq hw 37 rfl)) (by decide) (t := (.array (.array .long))) (t' := (.array .int)) (by decide) (by decide)))
  have c34_11 := c32_11.other W33 (Or.inr (slot_ne (Or.inl (wq hw 11 rfl)) (Or.inr (wq hw 37 rfl)) (by decide) (t := (.array .int)) (t' := (.array .int)) (by decide) (by decide)))
  have c34_12 := c32_12.other W33 (Or.inr (slot_ne (Or.inl (wq hw 13 rfl)) (Or.inr (wq hw 37 rfl)) (by decide) (t := (.array .int)) (t' := (.array .int)) (by decide) (by decide)))
  have c34_13 := c32_13.other W33 (Or.inr (slot_ne (Or.inl (wq hw 16 rfl)) (Or.inr (wq hw 37 rfl)) (by decide) (t := (.array .long)) (t' := (.array .int)) (by decide) (by decide)))
  have c34_14 := c32_14.other W33 (Or.inr (slot_ne (Or.inl (wq hw 18 rfl)) (Or.inr (wq hw 37 rfl)) (by decide) (t := (.array .int)) (t' := (.array .int)) (by decide) (by decide)))
  have c34_16 := c32_16.wr W33
  have c34_17 := c32_17.other W33 (Ne.symm hne_o0_o1)
  have c34_19 := c32_19.wr W33
  have c34_20 := c32_20.other W33 (Ne.symm ne_o0_b2)
  have c34_22 := c32_22.wr W33
  have c34_23 := c32_23.other W33 (Ne.symm ne_o0_b6)
  have c34_25 := c32_25.wr W33
  have c34_26 := c32_26.other W33 (Ne.symm ne_o0_b10)
  have c34_28 := c32_28.wr W33
  have c34_29 := c32_29.other W33 (Ne.symm ne_o0_b14)
  have c34_31 := c32_31.other W33 (Ne.symm ne_o0_b18)
  have c34_32 := c32_32.wr W33
  have c34_34 := c32_34.other W33 (Ne.symm ne_o0_b23)
  have c34_35 := c32_35.wr W33
  have c34_36 := c32_36.wr W33
  have c34_38 := c32_38.wr W33
  have c34_39 := c32_39.other W33 (Ne.symm ne_o0_b27)
  have c34_41 := B31.wr W33
  have c34_42 := V31.other W33 (Ne.symm ne_o0_b31)
  have K33 : Keep h0 h33 [o0] := K31.wr W33 (Or.inl (by simp))
  have Z33 := Nat.le_trans Z31 (Keep.of_wr W33).1
  have Fw33 := c32_4.same W33
  refine Go.via st33 ?_
  refine Vi (T33.setTop (mkF m 79 #[sR o0, sR o1, .unset] [(.int 1), (.ref o0)])) (fun tZ kZ => ?_) ?_
  · refine XS.aloadN X33.here hx rfl (hb hby d1_76) rfl rfl ?_
    refine XS.aloadN X33.here hx rfl (hb hby d1_77) rfl rfl ?_
    refine AV.len c34_17 X33 hx hZ e33 (hb hby d1_78) ?_
    exact kZ
  obtain ⟨T35, h35, k35, X35, e35, E35, A35, B35, st35⟩ := newPE X33 hx hZ (wq hw 3 rfl) e33 (g := (mkF m 79 #[sR o0, sR o1, .unset] [(.int 1), (.ref o0)])) rfl (hb hby d1_79) rfl (by decide) (cap := 1) (by decide) (by decide) (by decide) (by decide) (ad := "[I") rfl
  obtain ⟨b35, g35⟩ : ∃ z, z = h33.size := ⟨_, rfl⟩
  rw [← g35] at A35 B35 st35
  have g_b35 : n0 ≤ b35 := Nat.le_trans Z33 (Nat.le_of_eq g35.symm)
  have sz_b35 : h0.size ≤ b35 := Nat.le_trans (K33).1 (Nat.le_of_eq g35.symm)
  have ne_o0_b35 : o0 ≠ b35 := Nat.ne_of_lt (Nat.lt_of_lt_of_le c34_0.lt (Nat.le_of_eq g35.symm))
  have ne_o1_b35 : o1 ≠ b35 := Nat.ne_of_lt (Nat.lt_of_lt_of_le c34_16.lt (Nat.le_of_eq g35.symm))
  have ne_b2_b35 : b2 ≠ b35 := Nat.ne_of_lt (Nat.lt_of_lt_of_le c34_19.lt (Nat.le_of_eq g35.symm))
  have ne_b6_b35 : b6 ≠ b35 := Nat.ne_of_lt (Nat.lt_of_lt_of_le c34_22.lt (Nat.le_of_eq g35.symm))
  have ne_b10_b35 : b10 ≠ b35 := Nat.ne_of_lt (Nat.lt_of_lt_of_le c34_25.lt (Nat.le_of_eq g35.symm))
  have ne_b14_b35 : b14 ≠ b35 := Nat.ne_of_lt (Nat.lt_of_lt_of_le c34_28.lt (Nat.le_of_eq g35.symm))
  have ne_b18_b35 : b18 ≠ b35 := Nat.ne_of_lt (Nat.lt_of_lt_of_le c34_31.lt (Nat.le_of_eq g35.symm))
  have ne_b23_b35 : b23 ≠ b35 := Nat.ne_of_lt (Nat.lt_of_lt_of_le c34_34.lt (Nat.le_of_eq g35.symm))
  have ne_b27_b35 : b27 ≠ b35 := Nat.ne_of_lt (Nat.lt_of_lt_of_le c34_38.lt (Nat.le_of_eq g35.symm))
  have ne_b31_b35 : b31 ≠ b35 := Nat.ne_of_lt (Nat.lt_of_lt_of_le c34_41.lt (Nat.le_of_eq g35.symm))
  have c36_0 := c34_0.ext E35
  have c36_1 := c34_1.ext E35
  have c36_2 := c34_2.ext E35
  have c36_3 := c34_3.ext E35
  have c36_4 := Fw33.ext E35
  have c36_5 := c34_5.ext E35
  have c36_6 := c34_6.ext E35
  have c36_7 := c34_7.ext E35
  have c36_8 := c34_8.ext E35
  have c36_9 := c34_9.ext E35
  have c36_10 := c34_10.ext E35
  have c36_11 := c34_11.ext E35
  have c36_12 := c34_12.ext E35
  have c36_13 := c34_13.ext E35
  have c36_14 := c34_14.ext E35
  have c36_16 := c34_16.ext E35
  have c36_17 := c34_17.ext E35
  have c36_19 := c34_19.ext E35
  have c36_20 := c34_20.ext E35
  have c36_22 := c34_22.ext E35
  have c36_23 := c34_23.ext E35
  have c36_25 := c34_25.ext E35
  have c36_26 := c34_26.ext E35
  have c36_28 := c34_28.ext E35
  have c36_29 := c34_29.ext E35
  have c36_31 := c34_31.ext E35
  have c36_32 := c34_32.ext E35
  have c36_34 := c34_34.ext E35
  have c36_35 := c34_35.ext E35
  have c36_36 := c34_36.ext E35
  have c36_38 := c34_38.ext E35
  have c36_39 := c34_39.ext E35
  have c36_41 := c34_41.ext E35
  have c36_42 := c34_42.ext E35
  have K35 : Keep h0 h35 [o0] := K33.ext E35
  have Z35 := Nat.le_trans Z33 E35.1
  have V35 : AV Z h35 b35 .int 1 (fun k => .int ((fun _ => (0 : Int32)) k)) := by have q := AV.new A35; exact q
  refine Go.via st35 ?_
  obtain ⟨T37, h37, X37, e37, W37, st37⟩ := putF X35 hx hZ hown (host := "") (Or.inl (wq hw 38 rfl)) Via.refl e35 c36_5 c36_0 (Or.inr ⟨(wq hw 39 rfl), rfl, hnm⟩) (wq hw 1 rfl) (ty := (.array .int)) (by decide) rfl rfl (g := (mkF m 81 #[sR o0, sR o1, .unset] [(.ref b35), (.ref o0)])) rfl rfl (hb hby d1_81)
  have N37 := Fr.snoc X37 N33 ha15
  have c38_0 := c36_0.wr W37
  have c38_1 := c36_1.other W37 (Or.inr (slot_ne (Or.inl (wq hw 57 rfl)) (Or.inr (wq hw 39 rfl)) (by decide) (t := .int) (t' := (.array .int)) (by decide) (by decide)))
  have c38_2 := c36_2.other W37 (Or.inr (slot_ne (Or.inl (wq hw 64 rfl)) (Or.inr (wq hw 39 rfl)) (by decide) (t := .int) (t' := (.array .int)) (by decide) (by decide)))
  have c38_3 := c36_3.other W37 (Or.inr (slot_ne (Or.inl (wq hw 71 rfl)) (Or.inr (wq hw 39 rfl)) (by decide) (t := (.object "com/example/whittle/whittle/engine/Domains$RemovalListener")) (t' := (.array .int)) (by decide) (by decide)))
  have c38_4 := c36_4.other W37 (Or.inr (slot_ne (Or.inr (wq hw 37 rfl)) (Or.inr (wq hw 39 rfl)) (by decide) (t := (.array .int)) (t' := (.array .int)) (by decide) (by decide)))
  have c38_6 := c36_6.other W37 (Or.inr (slot_ne (Or.inr (wq hw 35 rfl)) (Or.inr (wq hw 39 rfl)) (by decide) (t := (.array .int)) (t' := (.array .int)) (by decide) (by decide)))
  have c38_7 := c36_7.other W37 (Or.inr (slot_ne (Or.inr (wq hw 29 rfl)) (Or.inr (wq hw 39 rfl)) (by decide) (t := (.array .int)) (t' := (.array .int)) (by decide) (by decide)))
  have c38_8 := c36_8.other W37 (Or.inr (slot_ne (Or.inr (wq hw 42 rfl)) (Or.inr (wq hw 39 rfl)) (by decide) (t := (.array .int)) (t' := (.array .int)) (by decide) (by decide)))
  have c38_9 := c36_9.other W37 (Or.inr (slot_ne (Or.inr (wq hw 45 rfl)) (Or.inr (wq hw 39 rfl)) (by decide) (t := (.array .boolean)) (t' := (.array .int)) (by decide) (by decide)))
  have c38_10 := c36_10.other W37 (Or.inr (slot_ne (Or.inr (wq hw 33 rfl)) (Or.inr (wq hw 39 rfl)) (by decide) (t := (.array (.array .long))) (t' := (.array .int)) (by decide) (by decide)))
  have c38_11 := c36_11.other W37 (Or.inr (slot_ne (Or.inl (wq hw 11 rfl)) (Or.inr (wq hw 39 rfl)) (by decide) (t := (.array .int)) (t' := (.array .int)) (by decide) (by decide)))
  have c38_12 := c36_12.other W37 (Or.inr (slot_ne (Or.inl (wq hw 13 rfl)) (Or.inr (wq hw 39 rfl)) (by decide) (t := (.array .int)) (t' := (.array .int)) (by decide) (by decide)))
  have c38_13 := c36_13.other W37 (Or.inr (slot_ne (Or.inl (wq hw 16 rfl)) (Or.inr (wq hw 39 rfl)) (by decide) (t := (.array .long)) (t' := (.array .int)) (by decide) (by decide)))
  have c38_14 := c36_14.other W37 (Or.inr (slot_ne (Or.inl (wq hw 18 rfl)) (Or.inr (wq hw 39 rfl)) (by decide) (t := (.array .int)) (t' := (.array .int)) (by decide) (by decide)))
  have c38_16 := c36_16.wr W37
  have c38_17 := c36_17.other W37 (Ne.symm hne_o0_o1)
  have c38_19 := c36_19.wr W37
  have c38_20 := c36_20.other W37 (Ne.symm ne_o0_b2)
  have c38_22 := c36_22.wr W37
  have c38_23 := c36_23.other W37 (Ne.symm ne_o0_b6)
  have c38_25 := c36_25.wr W37
  have c38_26 := c36_26.other W37 (Ne.symm ne_o0_b10)
  have c38_28 := c36_28.wr W37
  have c38_29 := c36_29.other W37 (Ne.symm ne_o0_b14)
  have c38_31 := c36_31.other W37 (Ne.symm ne_o0_b18)
  have c38_32 := c36_32.wr W37
  have c38_34 := c36_34.other W37 (Ne.symm ne_o0_b23)
  have c38_35 := c36_35.wr W37
  have c38_36 := c36_36.wr W37
  have c38_38 := c36_38.wr W37
  have c38_39 := c36_39.other W37 (Ne.symm ne_o0_b27)
  have c38_41 := c36_41.wr W37
  have c38_42 := c36_42.other W37 (Ne.symm ne_o0_b31)
  have c38_44 := B35.wr W37
  have c38_45 := V35.other W37 (Ne.symm ne_o0_b35)
  have K37 : Keep h0 h37 [o0] := K35.wr W37 (Or.inl (by simp))
  have Z37 := Nat.le_trans Z35 (Keep.of_wr W37).1
  have Fw37 := c36_5.same W37
  refine Go.via st37 ?_
  refine Vi (T37.setTop (mkF m 93 #[sR o0, sR o1, sI 0] [(.ref o0)])) (fun tZ kZ => ?_) ?_
  · refine XS.iconst X37.here hx rfl (hb hby d1_84) ?_
    refine XS.istoreN X37.here hx rfl (hb hby d1_85) rfl (l' := #[sR o0, sR o1, sI 0]) rfl ?_
    refine XS.iloadN X37.here hx rfl (hb hby d1_86) rfl ?_
    refine XS.aloadN X37.here hx rfl (hb hby d1_87) rfl rfl ?_
    refine AV.len c38_17 X37 hx hZ e37 (hb hby d1_88) ?_
    refine XS.icmpNo X37.here hx rfl (hb hby d1_89) rfl (tlt (by decide)).2.1 ?_
    refine XS.aloadN X37.here hx rfl (hb hby d1_92) rfl rfl ?_
    exact kZ
  obtain ⟨T39, X39, e39, st39⟩ := getF X37 hx hZ hown (host := "") (Or.inl (wq hw 32 rfl)) Via.refl e37 c38_10 (g := (mkF m 93 #[sR o0, sR o1, sI 0] [(.ref o0)])) rfl rfl (hb hby d1_93)
  refine Go.via st39 ?_
  refine Vi (T39.setTop (mkF m 106 #[sR o0, sR o1, sI 0] [(.int ((((cF (0 : Int32).toNatClampNeg) + (63 : Int32)).toUInt32 >>> ((6 : Int32) &&& 31).toUInt32).toInt32)), (.int 0), (.ref b23)])) (fun tZ kZ => ?_) ?_
  · refine XS.iloadN X39.here hx rfl (hb hby d1_96) rfl ?_
    refine XS.aloadN X39.here hx rfl (hb hby d1_97) rfl rfl ?_
    refine XS.iloadN X39.here hx rfl (hb hby d1_98) rfl ?_
    refine AV.iaload c38_17 X39 hx hZ e39 (j := (0 : Int32)) (by decide) (hb hby d1_99) ?_
    refine XS.bipush X39.here hx rfl (hb hby d1_100) ?_
    refine XS.iadd X39.here hx rfl (hb hby d1_102) rfl ?_
    refine XS.bipush X39.here hx rfl (hb hby d1_103) ?_
    refine XS.iushr X39.here hx rfl (hb hby d1_105) rfl ?_
    exact kZ
  obtain ⟨T40, h40, k40, X40, e40, E40, A40, B40, st40⟩ := newPE X39 hx hZ (wq hw 14 rfl) e39 (g := (mkF m 106 #[sR o0, sR o1, sI 0] [(.int ((((cF (0 : Int32).toNatClampNeg) + (63 : Int32)).toUInt32 >>> ((6 : Int32) &&& 31).toUInt32).toInt32)), (.int 0), (.ref b23)])) rfl (hb hby d1_106) rfl hn0 (cap := 8) hn1 (by decide) (by decide) (by decide) (ad := "[J") rfl
  obtain ⟨b40, g40⟩ : ∃ z, z = h37.size := ⟨_, rfl⟩
  rw [← g40] at A40 B40 st40
  have g_b40 : n0 ≤ b40 := Nat.le_trans Z37 (Nat.le_of_eq g40.symm)
  have sz_b40 : h0.size ≤ b40 := Nat.le_trans (K37).1 (Nat.le_of_eq g40.symm)
  have ne_o0_b40 : o0 ≠ b40 := Nat.ne_of_lt (Nat.lt_of_lt_of_le c38_0.lt (Nat.le_of_eq g40.symm))
  have ne_o1_b40 : o1 ≠ b40 := Nat.ne_of_lt (Nat.lt_of_lt_of_le c38_16.lt (Nat.le_of_eq g40.symm))
  have ne_b2_b40 : b2 ≠ b40 := Nat.ne_of_lt (Nat.lt_of_lt_of_le c38_19.lt (Nat.le_of_eq g40.symm))
  have ne_b6_b40 : b6 ≠ b40 := Nat.ne_of_lt (Nat.lt_of_lt_of_le c38_22.lt (Nat.le_of_eq g40.symm))
  have ne_b10_b40 : b10 ≠ b40 := Nat.ne_of_lt (Nat.lt_of_lt_of_le c38_25.lt (Nat.le_of_eq g40.symm))
  have ne_b14_b40 : b14 ≠ b40 := Nat.ne_of_lt (Nat.lt_of_lt_of_le c38_28.lt (Nat.le_of_eq g40.symm))
  have ne_b18_b40 : b18 ≠ b40 := Nat.ne_of_lt (Nat.lt_of_lt_of_le c38_31.lt (Nat.le_of_eq g40.symm))
  have ne_b23_b40 : b23 ≠ b40 := Nat.ne_of_lt (Nat.lt_of_lt_of_le c38_34.lt (Nat.le_of_eq g40.symm))
  have ne_b27_b40 : b27 ≠ b40 := Nat.ne_of_lt (Nat.lt_of_lt_of_le c38_38.lt (Nat.le_of_eq g40.symm))
  have ne_b31_b40 : b31 ≠ b40 := Nat.ne_of_lt (Nat.lt_of_lt_of_le c38_41.lt (Nat.le_of_eq g40.symm))
  have ne_b35_b40 : b35 ≠ b40 := Nat.ne_of_lt (Nat.lt_of_lt_of_le c38_44.lt (Nat.le_of_eq g40.symm))
  have c41_0 := c38_0.ext E40
  have c41_1 := c38_1.ext E40
  have c41_2 := c38_2.ext E40
  have c41_3 := c38_3.ext E40
  have c41_4 := c38_4.ext E40
  have c41_5 := Fw37.ext E40
  have c41_6 := c38_6.ext E40
  have c41_7 := c38_7.ext E40
  have c41_8 := c38_8.ext E40
  have c41_9 := c38_9.ext E40
  have c41_10 := c38_10.ext E40
  have c41_11 := c38_11.ext E40
  have c41_12 := c38_12.ext E40
  have c41_13 := c38_13.ext E40
  have c41_14 := c38_14.ext E40
  have c41_16 := c38_16.ext E40
  have c41_17 := c38_17.ext E40
  have c41_19 := c38_19.ext E40
  have c41_20 := c38_20.ext E40
  have c41_22 := c38_22.ext E40
  have c41_23 := c38_23.ext E40
  have c41_25 := c38_25.ext E40
  have c41_26 := c38_26.ext E40
  have c41_28 := c38_28.ext E40
  have c41_29 := c38_29.ext E40
  have c41_31 := c38_31.ext E40
  have c41_32 := c38_32.ext E40
  have c41_34 := c38_34.ext E40
  have c41_35 := c38_35.ext E40
  have c41_36 := c38_36.ext E40
  have c41_38 := c38_38.ext E40
  have c41_39 := c38_39.ext E40
  have c41_41 := c38_41.ext E40
  have c41_42 := c38_42.ext E40
  have c41_44 := c38_44.ext E40
  have c41_45 := c38_45.ext E40
  have K40 : Keep h0 h40 [o0] := K37.ext E40
  have Z40 := Nat.le_trans Z37 E40.1
  have V40 : AV Z h40 b40 .long nW (fun k => .long ((fun _ => (0 : Int64)) k)) := by have q := AV.new A40; rw [hn2] at q; exact q
  refine Go.via st40 ?_
  obtain ⟨T42, h42, X42, e42, W42, V42, st42⟩ := AV.aastore c41_34 rfl (OV.sto c41_36 c41_34 (Ins.self B40)) X40 hx hZ e40 (j := (0 : Int32)) (by decide) (Ls := #[sR o0, sR o1, sI 0]) (rest := []) (hb hby d1_108) (v := (.ref b40))
  have N42 := Fr.snoc X42 N37 g_b23
  have c43_0 := c41_0.wr W42
  have c43_1 := c41_1.other W42 (Or.inl ne_o0_b23)
  have c43_2 := c41_2.other W42 (Or.inl ne_o0_b23)
  have c43_3 := c41_3.other W42 (Or.inl ne_o0_b23)
  have c43_4 := c41_4.other W42 (Or.inl ne_o0_b23)
  have c43_5 := c41_5.other W42 (Or.inl ne_o0_b23)
  have c43_6 := c41_6.other W42 (Or.inl ne_o0_b23)
  have c43_7 := c41_7.other W42 (Or.inl ne_o0_b23)
  have c43_8 := c41_8.other W42 (Or.inl ne_o0_b23)
  have c43_9 := c41_9.other W42 (Or.inl ne_o0_b23)
  have c43_10 := c41_10.other W42 (Or.inl ne_o0_b23)
  have c43_11 := c41_11.other W42 (Or.inl ne_o0_b23)
  have c43_12 := c41_12.other W42 (Or.inl ne_o0_b23)
  have c43_13 := c41_13.other W42 (Or.inl ne_o0_b23)
  have c43_14 := c41_14.other W42 (Or.inl ne_o0_b23)
  have c43_16 := c41_16.wr W42
  have c43_17 := c41_17.other W42 ne_o1_b23
  have c43_19 := c41_19.wr W42
  have c43_20 := c41_20.other W42 ne_b2_b23
  have c43_22 := c41_22.wr W42
  have c43_23 := c41_23.other W42 ne_b6_b23
  have c43_25 := c41_25.wr W42
  have c43_26 := c41_26.other W42 ne_b10_b23
  have c43_28 := c41_28.wr W42
  have c43_29 := c41_29.other W42 ne_b14_b23
  have c43_31 := c41_31.other W42 ne_b18_b23
  have c43_32 := c41_32.wr W42
  have c43_35 := c41_35.wr W42
  have c43_36 := c41_36.wr W42
  have c43_38 := c41_38.wr W42
  have c43_39 := c41_39.other W42 (Ne.symm ne_b23_b27)
  have c43_41 := c41_41.wr W42
  have c43_42 := c41_42.other W42 (Ne.symm ne_b23_b31)
  have c43_44 := c41_44.wr W42
  have c43_45 := c41_45.other W42 (Ne.symm ne_b23_b35)
  have c43_47 := B40.wr W42
  have c43_48 := V40.other W42 (Ne.symm ne_b23_b40)
  have K42 : Keep h0 h42 [o0] := K40.wr W42 (Or.inr sz_b23)
  have Z42 := Nat.le_trans Z40 (Keep.of_wr W42).1
  refine Go.via st42 ?_
  refine Vi (T42.setTop (mkF m 118 #[sR o0, sR o1, sI 1] [(.int 1), (.ref o0)])) (fun tZ kZ => ?_) ?_
  · refine XS.iinc X42.here hx rfl (hb hby d1_109) rfl (l' := #[sR o0, sR o1, sI 1]) rfl ?_
    refine XS.goto X42.here hx rfl (pc0 := 112) (pc' := 86) rfl (hb hby d1_112) (by decide) (by decide) ?_
    refine XS.iloadN X42.here hx rfl (hb hby d1_86) rfl ?_
    refine XS.aloadN X42.here hx rfl (hb hby d1_87) rfl rfl ?_
    refine AV.len c43_17 X42 hx hZ e42 (hb hby d1_88) ?_
    refine XS.icmpYes X42.here hx rfl (pc0 := 89) (pc' := 115) rfl (hb hby d1_89) rfl (flt (by decide)).2.1 (by decide) (by decide) ?_
    refine XS.aloadN X42.here hx rfl (hb hby d1_115) rfl rfl ?_
    refine XS.aloadN X42.here hx rfl (hb hby d1_116) rfl rfl ?_
    refine AV.len c43_17 X42 hx hZ e42 (hb hby d1_117) ?_
    exact kZ
  obtain ⟨T44, h44, k44, X44, e44, E44, A44, B44, st44⟩ := newPE X42 hx hZ (wq hw 3 rfl) e42 (g := (mkF m 118 #[sR o0, sR o1, sI 1] [(.int 1), (.ref o0)])) rfl (hb hby d1_118) rfl (by decide) (cap := 1) (by decide) (by decide) (by decide) (by decide) (ad := "[I") rfl
  obtain ⟨b44, g44⟩ : ∃ z, z = h42.size := ⟨_, rfl⟩
  rw [← g44] at A44 B44 st44
  have g_b44 : n0 ≤ b44 := Nat.le_trans Z42 (Nat.le_of_eq g44.symm)
  have sz_b44 : h0.size ≤ b44 := Nat.le_trans (K42).1 (Nat.le_of_eq g44.symm)
  have ne_o0_b44 : o0 ≠ b44 := Nat.ne_of_lt (Nat.lt_of_lt_of_le c43_0.lt (Nat.le_of_eq g44.symm))
  have ne_o1_b44 : o1 ≠ b44 := Nat.ne_of_lt (Nat.lt_of_lt_of_le c43_16.lt (Nat.le_of_eq g44.symm))
  have ne_b2_b44 : b2 ≠ b44 := Nat.ne_of_lt (Nat.lt_of_lt_of_le c43_19.lt (Nat.le_of_eq g44.symm))
  have ne_b6_b44 : b6 ≠ b44 := Nat.ne_of_lt (Nat.lt_of_lt_of_le c43_22.lt (Nat.le_of_eq g44.symm))
  have ne_b10_b44 : b10 ≠ b44 := Nat.ne_of_lt (Nat.lt_of_lt_of_le c43_25.lt (Nat.le_of_eq g44.symm))
  have ne_b14_b44 : b14 ≠ b44 := Nat.ne_of_lt (Nat.lt_of_lt_of_le c43_28.lt (Nat.le_of_eq g44.symm))
  have ne_b18_b44 : b18 ≠ b44 := Nat.ne_of_lt (Nat.lt_of_lt_of_le c43_31.lt (Nat.le_of_eq g44.symm))
  have ne_b23_b44 : b23 ≠ b44 := Nat.ne_of_lt (Nat.lt_of_lt_of_le V42.lt (Nat.le_of_eq g44.symm))
  have ne_b27_b44 : b27 ≠ b44 := Nat.ne_of_lt (Nat.lt_of_lt_of_le c43_38.lt (Nat.le_of_eq g44.symm))
  have ne_b31_b44 : b31 ≠ b44 := Nat.ne_of_lt (Nat.lt_of_lt_of_le c43_41.lt (Nat.le_of_eq g44.symm))
  have ne_b35_b44 : b35 ≠ b44 := Nat.ne_of_lt (Nat.lt_of_lt_of_le c43_44.lt (Nat.le_of_eq g44.symm))
  have ne_b40_b44 : b40 ≠ b44 := Nat.ne_of_lt (Nat.lt_of_lt_of_le c43_47.lt (Nat.le_of_eq g44.symm))
  have c45_0 := c43_0.ext E44
  have c45_1 := c43_1.ext E44
  have c45_2 := c43_2.ext E44
  have c45_3 := c43_3.ext E44
  have c45_4 := c43_4.ext E44
  have c45_5 := c43_5.ext E44
  have c45_6 := c43_6.ext E44
  have c45_7 := c43_7.ext E44
  have c45_8 := c43_8.ext E44
  have c45_9 := c43_9.ext E44
  have c45_10 := c43_10.ext E44
  have c45_11 := c43_11.ext E44
  have c45_12 := c43_12.ext E44
  have c45_13 := c43_13.ext E44
  have c45_14 := c43_14.ext E44
  have c45_16 := c43_16.ext E44
  have c45_17 := c43_17.ext E44
  have c45_19 := c43_19.ext E44
  have c45_20 := c43_20.ext E44
  have c45_22 := c43_22.ext E44
  have c45_23 := c43_23.ext E44
  have c45_25 := c43_25.ext E44
  have c45_26 := c43_26.ext E44
  have c45_28 := c43_28.ext E44
  have c45_29 := c43_29.ext E44
  have c45_31 := c43_31.ext E44
  have c45_32 := c43_32.ext E44
  have c45_34 := V42.ext E44
  have c45_35 := c43_35.ext E44
  have c45_36 := c43_36.ext E44
  have c45_38 := c43_38.ext E44
  have c45_39 := c43_39.ext E44
  have c45_41 := c43_41.ext E44
  have c45_42 := c43_42.ext E44
  have c45_44 := c43_44.ext E44
  have c45_45 := c43_45.ext E44
  have c45_47 := c43_47.ext E44
  have c45_48 := c43_48.ext E44
  have K44 : Keep h0 h44 [o0] := K42.ext E44
  have Z44 := Nat.le_trans Z42 E44.1
  have V44 : AV Z h44 b44 .int 1 (fun k => .int ((fun _ => (0 : Int32)) k)) := by have q := AV.new A44; exact q
  refine Go.via st44 ?_
  obtain ⟨T46, h46, X46, e46, W46, st46⟩ := putF X44 hx hZ hown (host := "") (Or.inl (wq hw 41 rfl)) Via.refl e44 c45_8 c45_0 (Or.inr ⟨(wq hw 42 rfl), rfl, hnm⟩) (wq hw 1 rfl) (ty := (.array .int)) (by decide) rfl rfl (g := (mkF m 120 #[sR o0, sR o1, sI 1] [(.ref b44), (.ref o0)])) rfl rfl (hb hby d1_120)
  have N46 := Fr.snoc X46 N42 ha15
  have c47_0 := c45_0.wr W46
  have c47_1 := c45_1.other W46 (Or.inr (slot_ne (Or.inl (wq hw 57 rfl)) (Or.inr (wq hw 42 rfl)) (by decide) (t := .int) (t' := (.array .int)) (by decide) (by decide)))
  have c47_2 := c45_2.other W46 (Or.inr (slot_ne (Or.inl (wq hw 64 rfl)) (Or.inr (wq hw 42 rfl)) (by decide) (t := .int) (t' := (.array .int)) (by decide) (by decide)))
  have c47_3 := c45_3.other W46 (Or.inr (slot_ne (Or.inl (wq hw 71 rfl)) (Or.inr (wq hw 42 rfl)) (by decide) (t := (.object "com/example/whittle/whittle/engine/Domains$RemovalListener")) (t' := (.array .int)) (by decide) (by decide)))
  have c47_4 := c45_4.other W46 (Or.inr (slot_ne (Or.inr (wq hw 37 rfl)) (Or.inr (wq hw 42 rfl)) (by decide) (t := (.array .int)) (t' := (.array .int)) (by decide) (by decide)))
  have c47_5 := c45_5.other W46 (Or.inr (slot_ne (Or.inr (wq hw 39 rfl)) (Or.inr (wq hw 42 rfl)) (by decide) (t := (.array .int)) (t' := (.array .int)) (by decide) (by decide)))
  have c47_6 := c45_6.other W46 (Or.inr (slot_ne (Or.inr (wq hw 35 rfl)) (Or.inr (wq hw 42 rfl)) (by decide) (t := (.array .int)) (t' := (.array .int)) (by decide) (by decide)))
  have c47_7 := c45_7.other W46 (Or.inr (slot_ne (Or.inr (wq hw 29 rfl)) (Or.inr (wq hw 42 rfl)) (by decide) (t := (.array .int)) (t' := (.array .int)) (by decide) (by decide)))
  have c47_9 := c45_9.other W46 (Or.inr (slot_ne (Or.inr (wq hw 45 rfl)) (Or.inr (wq hw 42 rfl)) (by decide) (t := (.array .boolean)) (t' := (.array .int)) (by decide) (by decide)))
  have c47_10 := c45_10.other W46 (Or.inr (slot_ne (Or.inr (wq hw 33 rfl)) (Or.inr (wq hw 42 rfl)) (by decide) (t := (.array (.array .long))) (t' := (.array .int)) (by decide) (by decide)))
  have c47_11 := c45_11.other W46 (Or.inr (slot_ne (Or.inl (wq hw 11 rfl)) (Or.inr (wq hw 42 rfl)) (by decide) (t := (.array .int)) (t' := (.array .int)) (by decide) (by decide)))
  have c47_12 := c45_12.other W46 (Or.inr (slot_ne (Or.inl (wq hw 13 rfl)) (Or.inr (wq hw 42 rfl)) (by decide) (t := (.array .int)) (t' := (.array .int)) (by decide) (by decide)))
  have c47_13 := c45_13.other W46 (Or.inr (slot_ne (Or.inl (wq hw 16 rfl)) (Or.inr (wq hw 42 rfl)) (by decide) (t := (.array .long)) (t' := (.array .int)) (by decide) (by decide)))
  have c47_14 := c45_14.other W46 (Or.inr (slot_ne (Or.inl (wq hw 18 rfl)) (Or.inr (wq hw 42 rfl)) (by decide) (t := (.array .int)) (t' := (.array .int)) (by decide) (by decide)))
  have c47_16 := c45_16.wr W46
  have c47_17 := c45_17.other W46 (Ne.symm hne_o0_o1)
  have c47_19 := c45_19.wr W46
  have c47_20 := c45_20.other W46 (Ne.symm ne_o0_b2)
  have c47_22 := c45_22.wr W46
  have c47_23 := c45_23.other W46 (Ne.symm ne_o0_b6)
  have c47_25 := c45_25.wr W46
  have c47_26 := c45_26.other W46 (Ne.symm ne_o0_b10)
  have c47_28 := c45_28.wr W46
  have c47_29 := c45_29.other W46 (Ne.symm ne_o0_b14)
  have c47_31 := c45_31.other W46 (Ne.symm ne_o0_b18)
  have c47_32 := c45_32.wr W46
  have c47_34 := c45_34.other W46 (Ne.symm ne_o0_b23)
  have c47_35 := c45_35.wr W46
  have c47_36 := c45_36.wr W46
  have c47_38 := c45_38.wr W46
  have c47_39 := c45_39.other W46 (Ne.symm ne_o0_b27)
  have c47_41 := c45_41.wr W46
  have c47_42 := c45_42.other W46 (Ne.symm ne_o0_b31)
  have c47_44 := c45_44.wr W46
  have c47_45 := c45_45.other W46 (Ne.symm ne_o0_b35)
  have c47_47 := c45_47.wr W46
  have c47_48 := c45_48.other W46 (Ne.symm ne_o0_b40)
  have c47_50 := B44.wr W46
  have c47_51 := V44.other W46 (Ne.symm ne_o0_b44)
  have K46 : Keep h0 h46 [o0] := K44.wr W46 (Or.inl (by simp))
  have Z46 := Nat.le_trans Z44 (Keep.of_wr W46).1
  have Fw46 := c45_8.same W46
  refine Go.via st46 ?_
  refine Vi (T46.setTop (mkF m 126 #[sR o0, sR o1, sI 1] [(.int 1), (.ref o0)])) (fun tZ kZ => ?_) ?_
  · refine XS.aloadN X46.here hx rfl (hb hby d1_123) rfl rfl ?_
    refine XS.aloadN X46.here hx rfl (hb hby d1_124) rfl rfl ?_
    refine AV.len c47_17 X46 hx hZ e46 (hb hby d1_125) ?_
    exact kZ
  obtain ⟨T48, h48, k48, X48, e48, E48, A48, B48, st48⟩ := newPE X46 hx hZ (wq hw 43 rfl) e46 (g := (mkF m 126 #[sR o0, sR o1, sI 1] [(.int 1), (.ref o0)])) rfl (hb hby d1_126) rfl (by decide) (cap := 1) (by decide) (by decide) (by decide) (by decide) (ad := "[Z") rfl
  obtain ⟨b48, g48⟩ : ∃ z, z = h46.size := ⟨_, rfl⟩
  rw [← g48] at A48 B48 st48
  have g_b48 : n0 ≤ b48 := Nat.le_trans Z46 (Nat.le_of_eq g48.symm)
  have sz_b48 : h0.size ≤ b48 := Nat.le_trans (K46).1 (Nat.le_of_eq g48.symm)
  have ne_o0_b48 : o0 ≠ b48 := Nat.ne_of_lt (Nat.lt_of_lt_of_le c47_0.lt (Nat.le_of_eq g48.symm))
  have ne_o1_b48 : o1 ≠ b48 := Nat.ne_of_lt (Nat.lt_of_lt_of_le c47_16.lt (Nat.le_of_eq g48.symm))
  have ne_b2_b48 : b2 ≠ b48 := Nat.ne_of_lt (Nat.lt_of_lt_of_le c47_19.lt (Nat.le_of_eq g48.symm))
  have ne_b6_b48 : b6 ≠ b48 := Nat.ne_of_lt (Nat.lt_of_lt_of_le c47_22.lt (Nat.le_of_eq g48.symm))
  have ne_b10_b48 : b10 ≠ b48 := Nat.ne_of_lt (Nat.lt_of_lt_of_le c47_25.lt (Nat.le_of_eq g48.symm))
  have ne_b14_b48 : b14 ≠ b48 := Nat.ne_of_lt (Nat.lt_of_lt_of_le c47_28.lt (Nat.le_of_eq g48.symm))
  have ne_b18_b48 : b18 ≠ b48 := Nat.ne_of_lt (Nat.lt_of_lt_of_le c47_31.lt (Nat.le_of_eq g48.symm))
  have ne_b23_b48 : b23 ≠ b48 := Nat.ne_of_lt (Nat.lt_of_lt_of_le c47_34.lt (Nat.le_of_eq g48.symm))
  have ne_b27_b48 : b27 ≠ b48 := Nat.ne_of_lt (Nat.lt_of_lt_of_le c47_38.lt (Nat.le_of_eq g48.symm))
  have ne_b31_b48 : b31 ≠ b48 := Nat.ne_of_lt (Nat.lt_of_lt_of_le c47_41.lt (Nat.le_of_eq g48.symm))
  have ne_b35_b48 : b35 ≠ b48 := Nat.ne_of_lt (Nat.lt_of_lt_of_le c47_44.lt (Nat.le_of_eq g48.symm))
  have ne_b40_b48 : b40 ≠ b48 := Nat.ne_of_lt (Nat.lt_of_lt_of_le c47_47.lt (Nat.le_of_eq g48.symm))
  have ne_b44_b48 : b44 ≠ b48 := Nat.ne_of_lt (Nat.lt_of_lt_of_le c47_50.lt (Nat.le_of_eq g48.symm))
  have c49_0 := c47_0.ext E48
  have c49_1 := c47_1.ext E48
  have c49_2 := c47_2.ext E48
  have c49_3 := c47_3.ext E48
  have c49_4 := c47_4.ext E48
  have c49_5 := c47_5.ext E48
  have c49_6 := c47_6.ext E48
  have c49_7 := c47_7.ext E48
  have c49_8 := Fw46.ext E48
  have c49_9 := c47_9.ext E48
  have c49_10 := c47_10.ext E48
  have c49_11 := c47_11.ext E48
  have c49_12 := c47_12.ext E48
  have c49_13 := c47_13.ext E48
  have c49_14 := c47_14.ext E48
  have c49_16 := c47_16.ext E48
  have c49_17 := c47_17.ext E48
  have c49_19 := c47_19.ext E48
  have c49_20 := c47_20.ext E48
  have c49_22 := c47_22.ext E48
  have c49_23 := c47_23.ext E48
  have c49_25 := c47_25.ext E48
  have c49_26 := c47_26.ext E48
  have c49_28 := c47_28.ext E48
  have c49_29 := c47_29.ext E48
  have c49_31 := c47_31.ext E48
  have c49_32 := c47_32.ext E48
  have c49_34 := c47_34.ext E48
  have c49_35 := c47_35.ext E48
  have c49_36 := c47_36.ext E48
  have c49_38 := c47_38.ext E48
  have c49_39 := c47_39.ext E48
  have c49_41 := c47_41.ext E48
  have c49_42 := c47_42.ext E48
  have c49_44 := c47_44.ext E48
  have c49_45 := c47_45.ext E48
  have c49_47 := c47_47.ext E48
  have c49_48 := c47_48.ext E48
  have c49_50 := c47_50.ext E48
  have c49_51 := c47_51.ext E48
  have K48 : Keep h0 h48 [o0] := K46.ext E48
  have Z48 := Nat.le_trans Z46 E48.1
  have V48 : AV Z h48 b48 .boolean 1 (fun k => .int ((fun _ => (0 : Int32)) k)) := by have q := AV.new A48; exact q
  refine Go.via st48 ?_
  obtain ⟨T50, h50, X50, e50, W50, st50⟩ := putF X48 hx hZ hown (host := "") (Or.inl (wq hw 44 rfl)) Via.refl e48 c49_9 c49_0 (Or.inr ⟨(wq hw 45 rfl), rfl, hnm⟩) (wq hw 1 rfl) (ty := (.array .boolean)) (by decide) rfl rfl (g := (mkF m 128 #[sR o0, sR o1, sI 1] [(.ref b48), (.ref o0)])) rfl rfl (hb hby d1_128)
  have N50 := Fr.snoc X50 N46 ha15
  have c51_0 := c49_0.wr W50
  have c51_1 := c49_1.other W50 (Or.inr (slot_ne (Or.inl (wq hw 57 rfl)) (Or.inr (wq hw 45 rfl)) (by decide) (t := .int) (t' := (.array .boolean)) (by decide) (by decide)))
  have c51_2 := c49_2.other W50 (Or.inr (slot_ne (Or.inl (wq hw 64 rfl)) (Or.inr (wq hw 45 rfl)) (by decide) (t := .int) (t' := (.array .boolean)) (by decide) (by decide)))
  have c51_3 := c49_3.other W50 (Or.inr (slot_ne (Or.inl (wq hw 71 rfl)) (Or.inr (wq hw 45 rfl)) (by decide) (t := (.object "com/example/whittle/whittle/engine/Domains$RemovalListener")) (t' := (.array .boolean)) (by decide) (by decide)))
  have c51_4 := c49_4.other W50 (Or.inr (slot_ne (Or.inr (wq hw 37 rfl)) (Or.inr (wq hw 45 rfl)) (by decide) (t := (.array .int)) (t' := (.array .boolean)) (by decide) (by decide)))
  have c51_5 := c49_5.other W50 (Or.inr (slot_ne (Or.inr (wq hw 39 rfl)) (Or.inr (wq hw 45 rfl)) (by decide) (t := (.array .int)) (t' := (.array .boolean)) (by decide) (by decide)))
  have c51_6 := c49_6.other W50 (Or.inr (slot_ne (Or.inr (wq hw 35 rfl)) (Or.inr (wq hw 45 rfl)) (by decide) (t := (.array .int)) (t' := (.array .boolean)) (by decide) (by decide)))
  have c51_7 := c49_7.other W50 (Or.inr (slot_ne (Or.inr (wq hw 29 rfl)) (Or.inr (wq hw 45 rfl)) (by decide) (t := (.array .int)) (t' := (.array .boolean)) (by decide) (by decide)))
  have c51_8 := c49_8.other W50 (Or.inr (slot_ne (Or.inr (wq hw 42 rfl)) (Or.inr (wq hw 45 rfl)) (by decide) (t := (.array .int)) (t' := (.array .boolean)) (by decide) (by decide)))
  have c51_10 := c49_10.other W50 (Or.inr (slot_ne (Or.inr (wq hw 33 rfl)) (Or.inr (wq hw 45 rfl)) (by decide) (t := (.array (.array .long))) (t' := (.array .boolean)) (by decide) (by decide)))
  have c51_11 := c49_11.other W50 (Or.inr (slot_ne (Or.inl (wq hw 11 rfl)) (Or.inr (wq hw 45 rfl)) (by decide) (t := (.array .int)) (t' := (.array .boolean)) (by decide) (by decide)))
  have c51_12 := c49_12.other W50 (Or.inr (slot_ne (Or.inl (wq hw 13 rfl)) (Or.inr (wq hw 45 rfl)) (by decide) (t := (.array .int)) (t' := (.array .boolean)) (by decide) (by decide)))
  have c51_13 := c49_13.other W50 (Or.inr (slot_ne (Or.inl (wq hw 16 rfl)) (Or.inr (wq hw 45 rfl)) (by decide) (t := (.array .long)) (t' := (.array .boolean)) (by decide) (by decide)))
  have c51_14 := c49_14.other W50 (Or.inr (slot_ne (Or.inl (wq hw 18 rfl)) (Or.inr (wq hw 45 rfl)) (by decide) (t := (.array .int)) (t' := (.array .boolean)) (by decide) (by decide)))
  have c51_16 := c49_16.wr W50
  have c51_17 := c49_17.other W50 (Ne.symm hne_o0_o1)
  have c51_19 := c49_19.wr W50
  have c51_20 := c49_20.other W50 (Ne.symm ne_o0_b2)
  have c51_22 := c49_22.wr W50
  have c51_23 := c49_23.other W50 (Ne.symm ne_o0_b6)
  have c51_25 := c49_25.wr W50
  have c51_26 := c49_26.other W50 (Ne.symm ne_o0_b10)
  have c51_28 := c49_28.wr W50
  have c51_29 := c49_29.other W50 (Ne.symm ne_o0_b14)
  have c51_31 := c49_31.other W50 (Ne.symm ne_o0_b18)
  have c51_32 := c49_32.wr W50
  have c51_34 := c49_34.other W50 (Ne.symm ne_o0_b23)
  have c51_35 := c49_35.wr W50
  have c51_36 := c49_36.wr W50
  have c51_38 := c49_38.wr W50
  have c51_39 := c49_39.other W50 (Ne.symm ne_o0_b27)
  have c51_41 := c49_41.wr W50
  have c51_42 := c49_42.other W50 (Ne.symm ne_o0_b31)
  have c51_44 := c49_44.wr W50
  have c51_45 := c49_45.other W50 (Ne.symm ne_o0_b35)
  have c51_47 := c49_47.wr W50
  have c51_48 := c49_48.other W50 (Ne.symm ne_o0_b40)
  have c51_50 := c49_50.wr W50
  have c51_51 := c49_51.other W50 (Ne.symm ne_o0_b44)
  have c51_53 := B48.wr W50
  have c51_54 := V48.other W50 (Ne.symm ne_o0_b48)
  have K50 : Keep h0 h50 [o0] := K48.wr W50 (Or.inl (by simp))
  have Z50 := Nat.le_trans Z48 (Keep.of_wr W50).1
  have Fw50 := c49_9.same W50
  refine Go.via st50 ?_
  refine Go.retV X50 hx Bd.notSynchronized Bd.returns (hb hby d1_131) (by decide) (by decide) ?_
  rw [e50]
  exact ⟨rfl, N50, b2, b6, b10, b14, b18, b23, b27, b31, b35, b40, b44, b48, sz_b2, sz_b6, sz_b10, sz_b14, sz_b18, sz_b23, sz_b27, sz_b31, sz_b35, sz_b40, sz_b44, sz_b48, ne_b2_b6, ne_b2_b10, ne_b2_b14, ne_b2_b18, ne_b2_b23, ne_b2_b27, ne_b2_b31, ne_b2_b35, ne_b2_b40, ne_b2_b44, ne_b2_b48, ne_b6_b10, ne_b6_b14, ne_b6_b18, ne_b6_b23, ne_b6_b27, ne_b6_b31, ne_b6_b35, ne_b6_b40, ne_b6_b44, ne_b6_b48, ne_b10_b14, ne_b10_b18, ne_b10_b23, ne_b10_b27, ne_b10_b31, ne_b10_b35, ne_b10_b40, ne_b10_b44, ne_b10_b48, ne_b14_b18, ne_b14_b23, ne_b14_b27, ne_b14_b31, ne_b14_b35, ne_b14_b40, ne_b14_b44, ne_b14_b48, ne_b18_b23, ne_b18_b27, ne_b18_b31, ne_b18_b35, ne_b18_b40, ne_b18_b44, ne_b18_b48, ne_b23_b27, ne_b23_b31, ne_b23_b35, ne_b23_b40, ne_b23_b44, ne_b23_b48, ne_b27_b31, ne_b27_b35, ne_b27_b40, ne_b27_b44, ne_b27_b48, ne_b31_b35, ne_b31_b40, ne_b31_b44, ne_b31_b48, ne_b35_b40, ne_b35_b44, ne_b35_b48, ne_b40_b44, ne_b40_b48, ne_b44_b48, K50, c51_0, c51_1, c51_2, c51_3, c51_4, c51_5, c51_6, c51_7, c51_8, Fw50, c51_10, c51_11, c51_12, c51_13, c51_14, c51_16, c51_17, c51_19, c51_20, c51_22, c51_23, c51_25, c51_26, c51_28, c51_29, c51_31, c51_32, c51_34, c51_35, c51_36, c51_38, c51_39, c51_41, c51_42, c51_44, c51_45, c51_47, c51_48, c51_50, c51_51, c51_53, c51_54⟩
theorem own_n {i : Nat} (h : i < 2 ^ 31) : (Int32.ofNat i).toNatClampNeg = i := by simp only [Int32.toNatClampNeg, len_toInt h]; rfl
theorem own_nn {i : Nat} (h : i < 2 ^ 31) : ¬ (Int32.ofNat i) < 0 := by rw [Int32.lt_iff_toInt_lt, len_toInt h]; show ¬ ((i : Int) < 0); omega
theorem own_nlt {i n : Nat} (h : n < 2 ^ 31) (q : i < n) : (Int32.ofNat i) < (Int32.ofNat n) := by rw [Int32.lt_iff_toInt_lt, len_toInt h, len_toInt (by omega)]; omega
theorem own_nge {n : Nat} : ¬ (Int32.ofNat n) < (Int32.ofNat n) := by rw [Int32.lt_iff_toInt_lt]; omega
theorem own_ns {i : Nat} : (Int32.ofNat i) + (1 : Int32) = Int32.ofNat (i + 1) := by rw [show (1 : Int32) = Int32.ofNat 1 from rfl, ← Int32.ofNat_add]
theorem d4_6 : decode B4 6 = .ok (.iload_n 3, 1) := by decide +kernel
theorem d4_7 : decode B4 7 = .ok (.iload 4, 2) := by decide +kernel
theorem d4_9 : decode B4 9 = .ok (.if_icmp .ge 13, 3) := by decide +kernel
theorem d4_12 : decode B4 12 = .ok (.aload_n 0, 1) := by decide +kernel
theorem d4_13 : decode B4 13 = .ok (.iload_n 3, 1) := by decide +kernel
theorem d4_14 : decode B4 14 = .ok (.lload_n 1, 1) := by decide +kernel
theorem d4_15 : decode B4 15 = .ok (.lastore, 1) := by decide +kernel
theorem d4_16 : decode B4 16 = .ok (.iinc 3 1, 3) := by decide +kernel
theorem d4_19 : decode B4 19 = .ok (.goto (-13), 3) := by decide +kernel
theorem lp4 {p : Program} {l : Launch} {e : Env} {R : Room} {s : State} {m : MethodId} {args : Array Value} {below : List Frame} {meth : Method} {c : Code} {cells0 slots0 : Nat} {P : Outcome → State → Prop} {Z : State} (hx : p.tables.exec = Jvm.exec) (hby : c.code = jdk_65_method_101_code) (hZ : Z.Warmed39 s.vm) (o0 : Addr) (q1 : Int64) (nW : Nat) (h31 : nW < 2 ^ 31) (n0 : Nat) (g0 : n0 ≤ o0) (hs : Heap) (hk : ∀ T h locs Ls, Stand p l e R s m args below meth c T locs cells0 slots0 → T.heap = h → Fr n0 locs → n0 ≤ h.size → Keep hs h [o0] → AV Z h o0 .long nW (fun _ => .long q1) → Go p e below P (T.setTop (mkF m 22 Ls []))) :
    ∀ (k i : Nat) (fF : Nat → Int64) (T0 : State) (h0 : Heap) (locs0 : List Loc), i + k = nW → (∀ j, j < i → fF j = q1) → Stand p l e R s m args below meth c T0 locs0 cells0 slots0 → T0.heap = h0 → Fr n0 locs0 → n0 ≤ h0.size → Keep hs h0 [o0] → AV Z h0 o0 .long nW (fun k => .long (fF k)) → Go p e below P (T0.setTop (mkF m 6 #[.val (.ref o0), .val (.long q1), .second, .val (.int (Int32.ofNat i)), .val (.int (Int32.ofNat nW))] [])) := by
  intro k
  induction k with
  | zero =>
    intro i fF T0 h0 locs0 hik hf X0 e0 N0 Z0 hK V0
    obtain rfl : i = nW := by omega
    show Go p e below _ (T0.setTop (mkF m 6 #[sR o0, .val (.long q1), .second, sI (Int32.ofNat i), sI (Int32.ofNat i)] []))
    refine Vi (T0.setTop (mkF m 22 #[sR o0, .val (.long q1), .second, sI (Int32.ofNat i), sI (Int32.ofNat i)] [])) (fun tZ kZ => ?_) ?_
    · refine XS.iloadN X0.here hx rfl (hb hby d4_6) rfl ?_
      refine XS.iload X0.here hx rfl (hb hby d4_7) rfl ?_
      refine XS.icmpYes X0.here hx rfl (pc0 := 9) (pc' := 22) rfl (hb hby d4_9) rfl (flt own_nge).2.1 (by decide) (by decide) ?_
      exact kZ
    exact hk _ _ _ _ X0 e0 N0 Z0 hK (V0.congr fun j hj => by rw [hf j (by omega)])
  | succ k ih =>
    intro i fF T0 h0 locs0 hik hf X0 e0 N0 Z0 hK V0
    show Go p e below _ (T0.setTop (mkF m 6 #[sR o0, .val (.long q1), .second, sI (Int32.ofNat i), sI (Int32.ofNat nW)] []))
    refine Vi (T0.setTop (mkF m 15 #[sR o0, .val (.long q1), .second, sI (Int32.ofNat i), sI (Int32.ofNat nW)] [(.long q1), (.int (Int32.ofNat i)), (.ref o0)])) (fun tZ kZ => ?_) ?_
    · refine XS.iloadN X0.here hx rfl (hb hby d4_6) rfl ?_
      refine XS.iload X0.here hx rfl (hb hby d4_7) rfl ?_
      refine XS.icmpNo X0.here hx rfl (hb hby d4_9) rfl (tlt (own_nlt h31 (by omega))).2.1 ?_
      refine XS.aloadN X0.here hx rfl (hb hby d4_12) rfl rfl ?_
      refine XS.iloadN X0.here hx rfl (hb hby d4_13) rfl ?_
      refine XS.lloadN X0.here hx rfl (hb hby d4_14) rfl ?_
      exact kZ
    obtain ⟨T1, h1, X1, e1, W1, V1, st1⟩ := AV.lastore V0 X0 hx hZ e0 (j := (Int32.ofNat i)) ⟨own_nn (by omega), by rw [own_n (by omega)]; omega⟩ (Ls := #[sR o0, .val (.long q1), .second, sI (Int32.ofNat i), sI (Int32.ofNat nW)]) (rest := []) (hb hby d4_15) (x := q1)
    have N1 := Fr.snoc X1 N0 g0
    have K1 : Keep h0 h1 [o0] := (Keep.refl h0 [o0]).wr W1 (Or.inl (by simp))
    have Z1 := Nat.le_trans Z0 (Keep.of_wr W1).1
    refine Go.via st1 ?_
    refine Vi (T1.setTop (mkF m 6 #[sR o0, .val (.long q1), .second, sI ((Int32.ofNat i) + (1 : Int32)), sI (Int32.ofNat nW)] [])) (fun tZ kZ => ?_) ?_
    · refine XS.iinc X1.here hx rfl (hb hby d4_16) rfl (l' := #[sR o0, .val (.long q1), .second, sI ((Int32.ofNat i) + (1 : Int32)), sI (Int32.ofNat nW)]) rfl ?_
      refine XS.goto X1.here hx rfl (pc0 := 19) (pc' := 6) rfl (hb hby d4_19) (by decide) (by decide) ?_
      exact kZ
    rw [own_ns]
    exact ih (i + 1) _ _ _ _ (by omega) (fun j hj => by unfold up; rw [own_n (by omega)]; split; rfl; exact hf j (by omega)) X1 e1 N1 Z1 (hK.trans K1 (allS (Or.inl (by simp)) all0)) V1
theorem d4_0 : decode B4 0 = .ok (.iconst 0, 1) := by decide +kernel
theorem d4_1 : decode B4 1 = .ok (.istore_n 3, 1) := by decide +kernel
theorem d4_2 : decode B4 2 = .ok (.aload_n 0, 1) := by decide +kernel
theorem d4_3 : decode B4 3 = .ok (.arraylength, 1) := by decide +kernel
theorem d4_4 : decode B4 4 = .ok (.istore 4, 2) := by decide +kernel
theorem d4_22 : decode B4 22 = .ok (.return_, 1) := by decide +kernel
def Q4 (Z : State) (o0 : Addr) (q1 : Int64) (nW : Nat) (fF : Nat → Int64) (h0 : Heap) (n0 : Nat) (v : Option Value) (h : Heap) (L : List Loc) : Prop := v = none ∧ Fr n0 L ∧ Keep h0 h [o0] ∧ AV Z h o0 .long nW (fun k => .long ((fun _ => q1) k))
theorem pn_3 : plainName "java/util/Arrays" = true := by first | (simp [plainName, overriddenIn]; done) | decide +kernel
theorem ef_4_aa (m : MethodId) (x0 : Addr) (x1 : Int64) : entryFrame m #[(.ref x0), (.long x1)] 5 = mkF m 0 #[.val (.ref x0), .val (.long x1), .second, .unset, .unset] [] := by first | (simp [entryFrame, mkF, argsToLocals, Value.category]; done) | rfl
theorem rm4 (l : Launch) (Z : State) (a0 : Array Value) (hw : HW a0 Z) (ws : List Jvm.Cond) (o0 : Addr) (q1 : Int64) (nW : Nat) (fF : Nat → Int64) (h0 : Heap) (n0 : Nat) (Z0 : n0 ≤ h0.size) (ha0 : AV Z h0 o0 .long nW (fun k => .long (fF k))) (ha1 : n0 ≤ o0) :
    MetFree l y4 (head1 (Jvm.Cond.code y4 jdk_65_method_101_code 5 none :: ws) RM_0_0_0_0) (fun a U => a = #[(.ref o0), (.long q1)] ∧ Z.Warmed39 U.vm ∧ U.heap = h0) (fun _ _ _ _ _ => True) (fun _ U o U' => ∃ v L, o = .returned v ∧ Q4 Z o0 q1 nW fF h0 n0 v U'.heap L ∧ FrameEnd U o U' L RM_0_0_0_0.cells RM_0_0_0_0.slots) := by
  refine MetFree.of_bodySF (plainFor_of_name pn_3) hisR ?_
  intro p e s m args below meth c s₁ Bd hml0 hP hK
  obtain ⟨rfl, hZ, hh⟩ := hP
  have hx := Bd.exec
  have hby := Bd.bytes
  have hml : c.maxLocals = 5 := hml0
  have hown : s.vm.findClass "java/util/Arrays" = some m.cls := findClass_of_methodNamed Bd.named
  have X0 : Stand p l e RM_0_0_0_0 s m _ below meth c s₁ [] 0 0 := Stand.of_body Bd
  have e0 : s₁.heap = h0 := by rw [← hh, Bd.state]; rfl
  have N0 := Fr.nil n0
  refine Go.into (P := fun oo uu => ∃ v L, oo = .returned v ∧ Q4 Z o0 q1 nW fF h0 n0 v uu.heap L ∧ FrameEnd s oo uu L RM_0_0_0_0.cells RM_0_0_0_0.slots) (ef_4_aa m o0 q1) ?_
  show Go p e below _ (s₁.setTop (mkF m 0 #[sR o0, .val (.long q1), .second, .unset, .unset] []))
  refine Vi (s₁.setTop (mkF m 6 #[sR o0, .val (.long q1), .second, sI 0, sI (Int32.ofNat nW)] [])) (fun tZ kZ => ?_) ?_
  · refine XS.iconst X0.here hx rfl (hb hby d4_0) ?_
    refine XS.istoreN X0.here hx rfl (hb hby d4_1) rfl (l' := #[sR o0, .val (.long q1), .second, sI 0, .unset]) rfl ?_
    refine XS.aloadN X0.here hx rfl (hb hby d4_2) rfl rfl ?_
    refine AV.len ha0 X0 hx hZ e0 (hb hby d4_3) ?_
    refine XS.istore X0.here hx rfl (hb hby d4_4) rfl (l' := #[sR o0, .val (.long q1), .second, sI 0, sI (Int32.ofNat nW)]) rfl ?_
    exact kZ
  refine lp4 hx hby hZ o0 q1 nW ha0.1 n0 ha1 h0 ?_ nW 0 fF _ _ _ (by omega) (fun j hj => absurd hj (Nat.not_lt_zero j)) X0 e0 N0 Z0 (Keep.refl h0 [o0]) ha0
  intro T h locs Ls XT eT NT ZT KT VT
  refine Go.retV XT hx Bd.notSynchronized Bd.returns (hb hby d4_22) (by decide) (by decide) ?_
  rw [eT]
  exact ⟨rfl, NT, KT, VT⟩
theorem d3_0 : decode B3 0 = .ok (.iconst 0, 1) := by decide +kernel
theorem d3_1 : decode B3 1 = .ok (.istore_n 1, 1) := by decide +kernel
theorem d3_2 : decode B3 2 = .ok (.iload_n 1, 1) := by decide +kernel
theorem d3_3 : decode B3 3 = .ok (.aload_n 0, 1) := by decide +kernel
theorem d3_4 : decode B3 4 = .ok (.getfield 28, 3) := by decide +kernel
theorem d3_7 : decode B3 7 = .ok (.arraylength, 1) := by decide +kernel
theorem d3_8 : decode B3 8 = .ok (.if_icmp .ge 54, 3) := by decide +kernel
theorem d3_11 : decode B3 11 = .ok (.aload_n 0, 1) := by decide +kernel
theorem d3_12 : decode B3 12 = .ok (.getfield 32, 3) := by decide +kernel
theorem d3_15 : decode B3 15 = .ok (.iload_n 1, 1) := by decide +kernel
theorem d3_16 : decode B3 16 = .ok (.aaload, 1) := by decide +kernel
theorem d3_17 : decode B3 17 = .ok (.ldc2_w 52, 3) := by decide +kernel
theorem pd_3 : parseMethodDescriptor "([JJ)V" = some ⟨[(.array .long), .long], none⟩ := by decide +kernel
theorem d3_20 : decode B3 20 = .ok (.invokestatic 54, 3) := by decide +kernel
theorem d3_23 : decode B3 23 = .ok (.aload_n 0, 1) := by decide +kernel
theorem d3_24 : decode B3 24 = .ok (.getfield 36, 3) := by decide +kernel
theorem d3_27 : decode B3 27 = .ok (.iload_n 1, 1) := by decide +kernel
theorem d3_28 : decode B3 28 = .ok (.aload_n 0, 1) := by decide +kernel
theorem d3_29 : decode B3 29 = .ok (.getfield 28, 3) := by decide +kernel
theorem d3_32 : decode B3 32 = .ok (.iload_n 1, 1) := by decide +kernel
theorem d3_33 : decode B3 33 = .ok (.iaload, 1) := by decide +kernel
theorem d3_34 : decode B3 34 = .ok (.iastore, 1) := by decide +kernel
theorem d3_35 : decode B3 35 = .ok (.aload_n 0, 1) := by decide +kernel
theorem d3_36 : decode B3 36 = .ok (.getfield 39, 3) := by decide +kernel
theorem d3_39 : decode B3 39 = .ok (.iload_n 1, 1) := by decide +kernel
theorem d3_40 : decode B3 40 = .ok (.iconst 0, 1) := by decide +kernel
theorem d3_41 : decode B3 41 = .ok (.iastore, 1) := by decide +kernel
theorem d3_42 : decode B3 42 = .ok (.aload_n 0, 1) := by decide +kernel
theorem d3_43 : decode B3 43 = .ok (.getfield 42, 3) := by decide +kernel
theorem d3_46 : decode B3 46 = .ok (.iload_n 1, 1) := by decide +kernel
theorem d3_47 : decode B3 47 = .ok (.aload_n 0, 1) := by decide +kernel
theorem d3_48 : decode B3 48 = .ok (.getfield 28, 3) := by decide +kernel
theorem d3_51 : decode B3 51 = .ok (.iload_n 1, 1) := by decide +kernel
theorem d3_52 : decode B3 52 = .ok (.iaload, 1) := by decide +kernel
theorem d3_53 : decode B3 53 = .ok (.iconst 1, 1) := by decide +kernel
theorem d3_54 : decode B3 54 = .ok (.isub, 1) := by decide +kernel
theorem d3_55 : decode B3 55 = .ok (.iastore, 1) := by decide +kernel
theorem d3_56 : decode B3 56 = .ok (.iinc 1 1, 3) := by decide +kernel
theorem d3_59 : decode B3 59 = .ok (.goto (-57), 3) := by decide +kernel
theorem d3_62 : decode B3 62 = .ok (.aload_n 0, 1) := by decide +kernel
theorem d3_63 : decode B3 63 = .ok (.iconst 0, 1) := by decide +kernel
theorem d3_64 : decode B3 64 = .ok (.putfield 60, 3) := by decide +kernel
theorem d3_67 : decode B3 67 = .ok (.aload_n 0, 1) := by decide +kernel
theorem pd_1 : parseMethodDescriptor "()V" = some ⟨[], none⟩ := by decide +kernel
theorem d3_68 : decode B3 68 = .ok (.invokevirtual 64, 3) := by decide +kernel
theorem d3_71 : decode B3 71 = .ok (.return_, 1) := by decide +kernel
def Q3 (Z : State) (o0 : Addr) (lA : Addr) (hA : Addr) (sA : Addr) (cA : Addr) (chA : Addr) (icA : Addr) (bA : Addr) (tvA : Addr) (twA : Addr) (tsA : Addr) (tzA : Addr) (wA : Addr) (nW : Nat) (wF : Nat → Int64) (sF : Nat → Int32) (lF : Nat → Int32) (hF : Nat → Int32) (cF : Nat → Int32) (h0 : Heap) (n0 : Nat) (v : Option Value) (h : Heap) (L : List Loc) : Prop := v = none ∧ Fr n0 L ∧ Keep h0 h [wA, sA, lA, hA, o0] ∧ Exa Z h o0 "com/example/whittle/whittle/engine/Domains" ∧ Fld Z h o0 "com/example/whittle/whittle/engine/Domains" "listener" "Lcom/example/whittle/whittle/engine/Domains$RemovalListener;" .null ∧ Fld Z h o0 "com/example/whittle/whittle/engine/Domains" "low" "[I" (.ref lA) ∧ Fld Z h o0 "com/example/whittle/whittle/engine/Domains" "high" "[I" (.ref hA) ∧ Fld Z h o0 "com/example/whittle/whittle/engine/Domains" "sizes" "[I" (.ref sA) ∧ Fld Z h o0 "com/example/whittle/whittle/engine/Domains" "capacities" "[I" (.ref cA) ∧ Fld Z h o0 "com/example/whittle/whittle/engine/Domains" "changed" "[I" (.ref chA) ∧ Fld Z h o0 "com/example/whittle/whittle/engine/Domains" "isChanged" "[Z" (.ref icA) ∧ Fld Z h o0 "com/example/whittle/whittle/engine/Domains" "bits" "[[J" (.ref bA) ∧ Fld Z h o0 "com/example/whittle/whittle/engine/Domains" "trailVariable" "[I" (.ref tvA) ∧ Fld Z h o0 "com/example/whittle/whittle/engine/Domains" "trailWord" "[I" (.ref twA) ∧ Fld Z h o0 "com/example/whittle/whittle/engine/Domains" "trailSaved" "[J" (.ref tsA) ∧ Fld Z h o0 "com/example/whittle/whittle/engine/Domains" "trailSize" "[I" (.ref tzA) ∧ AV Z h bA (.array .long) 1 (fun _ => Value.ref wA) ∧ AV Z h wA .long nW (fun k => .long ((fun _ => (-1 : Int64)) k)) ∧ AV Z h sA .int 1 (fun k => .int ((up sF (0 : Int32).toNatClampNeg (cF (0 : Int32).toNatClampNeg)) k)) ∧ AV Z h lA .int 1 (fun k => .int ((up lF (0 : Int32).toNatClampNeg (0 : Int32)) k)) ∧ AV Z h hA .int 1 (fun k => .int ((up hF (0 : Int32).toNatClampNeg ((cF (0 : Int32).toNatClampNeg) - (1 : Int32))) k)) ∧ AV Z h cA .int 1 (fun k => .int (cF k)) ∧ Fld Z h o0 "com/example/whittle/whittle/engine/Domains" "trailLength" "I" (.int 0) ∧ Fld Z h o0 "com/example/whittle/whittle/engine/Domains" "changedCount" "I" (.int 0)
abbrev RM_1_0_0_16 : Room := { frames := 1, cells := 0, slots := 0, locals := 16 }
theorem ef_3_a (m : MethodId) (x0 : Addr) : entryFrame m #[(.ref x0)] 2 = mkF m 0 #[.val (.ref x0), .unset] [] := by first | (simp [entryFrame, mkF, argsToLocals, Value.category]; done) | rfl
theorem rm3 (l : Launch) (Z : State) (a0 : Array Value) (hw : HW a0 Z) (ws : List Jvm.Cond) (o0 : Addr) (lA : Addr) (hA : Addr) (sA : Addr) (cA : Addr) (chA : Addr) (icA : Addr) (bA : Addr) (tvA : Addr) (twA : Addr) (tsA : Addr) (tzA : Addr) (wA : Addr) (nW : Nat) (wF : Nat → Int64) (sF : Nat → Int32) (lF : Nat → Int32) (hF : Nat → Int32) (cF : Nat → Int32) (h0 : Heap) (n0 : Nat) (Z0 : n0 ≤ h0.size) (ha0 : Exa Z h0 o0 "com/example/whittle/whittle/engine/Domains") (ha1 : Fld Z h0 o0 "com/example/whittle/whittle/engine/Domains" "listener" "Lcom/example/whittle/whittle/engine/Domains$RemovalListener;" .null) (ha2 : Fld Z h0 o0 "com/example/whittle/whittle/engine/Domains" "low" "[I" (.ref lA)) (ha3 : Fld Z h0 o0 "com/example/whittle/whittle/engine/Domains" "high" "[I" (.ref hA)) (ha4 : Fld Z h0 o0 "com/example/whittle/whittle/engine/Domains" "sizes" "[I" (.ref sA)) (ha5 : Fld Z h0 o0 "com/example/whittle/whittle/engine/Domains" "capacities" "[I" (.ref cA)) (ha6 : Fld Z h0 o0 "com/example/whittle/whittle/engine/Domains" "changed" "[I" (.ref chA)) (ha7 : Fld Z h0 o0 "com/example/whittle/whittle/engine/Domains" "isChanged" "[Z" (.ref icA)) (ha8 : Fld Z h0 o0 "com/example/whittle/whittle/engine/Domains" "bits" "[[J" (.ref bA)) (ha9 : Fld Z h0 o0 "com/example/whittle/whittle/engine/Domains" "trailVariable" "[I" (.ref tvA)) (ha10 : Fld Z h0 o0 "com/example/whittle/whittle/engine/Domains" "trailWord" "[I" (.ref twA)) (ha11 : Fld Z h0 o0 "com/example/whittle/whittle/engine/Domains" "trailSaved" "[J" (.ref tsA)) (ha12 : Fld Z h0 o0 "com/example/whittle/whittle/engine/Domains" "trailSize" "[I" (.ref tzA)) (ha13 : AV Z h0 bA (.array .long) 1 (fun _ => Value.ref wA)) (ha14 : AV Z h0 wA .long nW (fun k => .long (wF k))) (ha15 : AV Z h0 sA .int 1 (fun k => .int (sF k))) (ha16 : AV Z h0 lA .int 1 (fun k => .int (lF k))) (ha17 : AV Z h0 hA .int 1 (fun k => .int (hF k))) (ha18 : AV Z h0 cA .int 1 (fun k => .int (cF k))) (ha19 : Fld Z h0 o0 "com/example/whittle/whittle/engine/Domains" "trailLength" "I" (.int 0)) (ha20 : Fld Z h0 o0 "com/example/whittle/whittle/engine/Domains" "changedCount" "I" (.int 0)) (ha21 : n0 ≤ o0) (ha22 : n0 ≤ wA) (ha23 : n0 ≤ sA) (ha24 : n0 ≤ lA) (ha25 : n0 ≤ hA) (hne_o0_cA : o0 ≠ cA) (hne_o0_bA : o0 ≠ bA) (hne_o0_wA : o0 ≠ wA) (hne_o0_sA : o0 ≠ sA) (hne_o0_lA : o0 ≠ lA) (hne_o0_hA : o0 ≠ hA) (hne_cA_bA : cA ≠ bA) (hne_cA_wA : cA ≠ wA) (hne_cA_sA : cA ≠ sA) (hne_cA_lA : cA ≠ lA) (hne_cA_hA : cA ≠ hA) (hne_bA_wA : bA ≠ wA) (hne_bA_sA : bA ≠ sA) (hne_bA_lA : bA ≠ lA) (hne_bA_hA : bA ≠ hA) (hne_wA_sA : wA ≠ sA) (hne_wA_lA : wA ≠ lA) (hne_wA_hA : wA ≠ hA) (hne_sA_lA : sA ≠ lA) (hne_sA_hA : sA ≠ hA) (hne_lA_hA : lA ≠ hA) :
    MetFree l y3 (head1 (Jvm.Cond.code y3 prog_22_method_2_code 2 none :: ws) RM_1_0_0_16) (fun a U => a = #[(.ref o0)] ∧ Z.Warmed39 U.vm ∧ U.heap = h0) (fun _ _ _ _ _ => True) (fun _ U o U' => ∃ v L, o = .returned v ∧ Q3 Z o0 lA hA sA cA chA icA bA tvA twA tsA tzA wA nW wF sF lF hF cF h0 n0 v U'.heap L ∧ FrameEnd U o U' L RM_1_0_0_16.cells RM_1_0_0_16.slots) := by
  refine MetFree.of_bodySF (plainFor_of_name pn_2) hisR ?_
  intro p e s m args below meth c s₁ Bd hml0 hP hK
  obtain ⟨rfl, hZ, hh⟩ := hP
  have hx := Bd.exec
  have hby := Bd.bytes
  have hml : c.maxLocals = 2 := hml0
  have hown : s.vm.findClass "com/example/whittle/whittle/engine/Domains" = some m.cls := findClass_of_methodNamed Bd.named
  have X0 : Stand p l e RM_1_0_0_16 s m _ below meth c s₁ [] 0 0 := Stand.of_body Bd
  have e0 : s₁.heap = h0 := by rw [← hh, Bd.state]; rfl
  have N0 := Fr.nil n0
  refine Go.into (P := fun oo uu => ∃ v L, oo = .returned v ∧ Q3 Z o0 lA hA sA cA chA icA bA tvA twA tsA tzA wA nW wF sF lF hF cF h0 n0 v uu.heap L ∧ FrameEnd s oo uu L RM_1_0_0_16.cells RM_1_0_0_16.slots) (ef_3_a m o0) ?_
  show Go p e below _ (s₁.setTop (mkF m 0 #[sR o0, .unset] []))
  refine Vi (s₁.setTop (mkF m 4 #[sR o0, sI 0] [(.ref o0), (.int 0)])) (fun tZ kZ => ?_) ?_
  · refine XS.iconst X0.here hx rfl (hb hby d3_0) ?_
    refine XS.istoreN X0.here hx rfl (hb hby d3_1) rfl (l' := #[sR o0, sI 0]) rfl ?_
    refine XS.iloadN X0.here hx rfl (hb hby d3_2) rfl ?_
    refine XS.aloadN X0.here hx rfl (hb hby d3_3) rfl rfl ?_
    exact kZ
  obtain ⟨T1, X1, e1, st1⟩ := getF X0 hx hZ hown (host := "") (Or.inl (wq hw 28 rfl)) Via.refl e0 ha5 (g := (mkF m 4 #[sR o0, sI 0] [(.ref o0), (.int 0)])) rfl rfl (hb hby d3_4)
  refine Go.via st1 ?_
  refine Vi (T1.setTop (mkF m 12 #[sR o0, sI 0] [(.ref o0)])) (fun tZ kZ => ?_) ?_
  · refine AV.len ha18 X1 hx hZ e1 (hb hby d3_7) ?_
    refine XS.icmpNo X1.here hx rfl (hb hby d3_8) rfl (tlt (by decide)).2.1 ?_
    refine XS.aloadN X1.here hx rfl (hb hby d3_11) rfl rfl ?_
    exact kZ
  obtain ⟨T2, X2, e2, st2⟩ := getF X1 hx hZ hown (host := "") (Or.inl (wq hw 32 rfl)) Via.refl e1 ha8 (g := (mkF m 12 #[sR o0, sI 0] [(.ref o0)])) rfl rfl (hb hby d3_12)
  refine Go.via st2 ?_
  refine Vi (T2.setTop (mkF m 20 #[sR o0, sI 0] [(.long (-1 : Int64)), (.ref wA)])) (fun tZ kZ => ?_) ?_
  · refine XS.iloadN X2.here hx rfl (hb hby d3_15) rfl ?_
    refine AV.aaload ha13 rfl X2 hx hZ e2 (j := (0 : Int32)) (by decide) (hb hby d3_16) ?_
    refine X2.ldc2Long hx hown (wz hZ hw 51 rfl) (g := (mkF m 17 #[sR o0, sI 0] [(.ref wA)])) rfl (hb hby d3_17) _ ?_
    exact kZ
  obtain ⟨_, _, ⟨T3, L3, k3, n3⟩, -, X3, ⟨Lc3, hQ3, l3, y3, z3⟩, st3⟩ := Jvm.LawKit.callS X2 hx (y := y4) hown (wz hZ hw 52 rfl) (wz hZ hw 53 rfl) (wz hZ hw 54 rfl) (wz hZ hw 55 rfl) (by decide) (backOf (W := 0) (rm4 l Z a0 hw [] wA (-1 : Int64) nW wF h0 n0 Z0 ha14 ha22) hZ (wq hw 55 rfl) (wq hw 54 rfl) (by decide) (by decide)) (g := (mkF m 20 #[sR o0, sI 0] [(.long (-1 : Int64)), (.ref wA)])) rfl (by rw [hml]; rfl) (argsL := [(.ref wA), (.long (-1 : Int64))]) (rest := []) (lenOf pd_3 rfl) rfl (leW rfl) (hb hby d3_20) (fun _ _ => ⟨rfl, e2, (by decide : 0 + 0 ≤ _), (by decide : 0 + 0 ≤ _)⟩)
  dsimp only [Pt.U, Pt.locs, Pt.cells, Pt.slots] at X3 l3 y3 z3 st3 hQ3
  subst l3 y3 z3
  obtain ⟨rfl, N3q, Kq3, f3_0⟩ := hQ3
  have c4_0 := ha0.keep Kq3
  have c4_1 := ha1.keep Kq3 (ninS hne_o0_wA nin0)
  have c4_2 := ha2.keep Kq3 (ninS hne_o0_wA nin0)
  have c4_3 := ha3.keep Kq3 (ninS hne_o0_wA nin0)
  have c4_4 := ha4.keep Kq3 (ninS hne_o0_wA nin0)
  have c4_5 := ha5.keep Kq3 (ninS hne_o0_wA nin0)
  have c4_6 := ha6.keep Kq3 (ninS hne_o0_wA nin0)
  have c4_7 := ha7.keep Kq3 (ninS hne_o0_wA nin0)
  have c4_8 := ha8.keep Kq3 (ninS hne_o0_wA nin0)
  have c4_9 := ha9.keep Kq3 (ninS hne_o0_wA nin0)
  have c4_10 := ha10.keep Kq3 (ninS hne_o0_wA nin0)
  have c4_11 := ha11.keep Kq3 (ninS hne_o0_wA nin0)
  have c4_12 := ha12.keep Kq3 (ninS hne_o0_wA nin0)
  have c4_13 := ha13.keep Kq3 (ninS hne_bA_wA nin0)
  have c4_15 := ha15.keep Kq3 (ninS (Ne.symm hne_wA_sA) nin0)
  have c4_16 := ha16.keep Kq3 (ninS (Ne.symm hne_wA_lA) nin0)
  have c4_17 := ha17.keep Kq3 (ninS (Ne.symm hne_wA_hA) nin0)
  have c4_18 := ha18.keep Kq3 (ninS hne_cA_wA nin0)
  have c4_19 := ha19.keep Kq3 (ninS hne_o0_wA nin0)
  have c4_20 := ha20.keep Kq3 (ninS hne_o0_wA nin0)
  have K3 : Keep h0 T3.heap [wA, sA, lA, hA, o0] := (Keep.refl h0 [wA, sA, lA, hA, o0]).trans Kq3 (allS (Or.inl (by simp)) all0)
  have Z3 := Nat.le_trans Z0 Kq3.1
  have N3 := Fr.app N0 N3q
  refine Go.via st3 ?_
  refine Vi (T3.setTop (mkF m 24 #[sR o0, sI 0] [(.ref o0)])) (fun tZ kZ => ?_) ?_
  · refine XS.aloadN X3.here hx rfl (hb hby d3_23) rfl rfl ?_
    exact kZ
  obtain ⟨T5, X5, e5, st5⟩ := getF X3 hx hZ hown (host := "") (Or.inl (wq hw 34 rfl)) Via.refl rfl c4_4 (g := (mkF m 24 #[sR o0, sI 0] [(.ref o0)])) rfl rfl (hb hby d3_24)
  refine Go.via st5 ?_
  refine Vi (T5.setTop (mkF m 29 #[sR o0, sI 0] [(.ref o0), (.int 0), (.ref sA)])) (fun tZ kZ => ?_) ?_
  · refine XS.iloadN X5.here hx rfl (hb hby d3_27) rfl ?_
    refine XS.aloadN X5.here hx rfl (hb hby d3_28) rfl rfl ?_
    exact kZ
  obtain ⟨T6, X6, e6, st6⟩ := getF X5 hx hZ hown (host := "") (Or.inl (wq hw 28 rfl)) Via.refl e5 c4_5 (g := (mkF m 29 #[sR o0, sI 0] [(.ref o0), (.int 0), (.ref sA)])) rfl rfl (hb hby d3_29)
  refine Go.via st6 ?_
  refine Vi (T6.setTop (mkF m 34 #[sR o0, sI 0] [(.int (cF (0 : Int32).toNatClampNeg)), (.int 0), (.ref sA)])) (fun tZ kZ => ?_) ?_
  · refine XS.iloadN X6.here hx rfl (hb hby d3_32) rfl ?_
    refine AV.iaload c4_18 X6 hx hZ e6 (j := (0 : Int32)) (by decide) (hb hby d3_33) ?_
    exact kZ
  obtain ⟨T7, h7, X7, e7, W7, V7, st7⟩ := AV.iastore c4_15 X6 hx hZ e6 (j := (0 : Int32)) (by decide) (Ls := #[sR o0, sI 0]) (rest := []) (hb hby d3_34) (x := (cF (0 : Int32).toNatClampNeg))
  have N7 := Fr.snoc X7 N3 ha23
  have c8_0 := c4_0.wr W7
  have c8_1 := c4_1.other W7 (Or.inl hne_o0_sA)
  have c8_2 := c4_2.other W7 (Or.inl hne_o0_sA)
  have c8_3 := c4_3.other W7 (Or.inl hne_o0_sA)
  have c8_4 := c4_4.other W7 (Or.inl hne_o0_sA)
  have c8_5 := c4_5.other W7 (Or.inl hne_o0_sA)
  have c8_6 := c4_6.other W7 (Or.inl hne_o0_sA)
  have c8_7 := c4_7.other W7 (Or.inl hne_o0_sA)
  have c8_8 := c4_8.other W7 (Or.inl hne_o0_sA)
  have c8_9 := c4_9.other W7 (Or.inl hne_o0_sA)
  have c8_10 := c4_10.other W7 (Or.inl hne_o0_sA)
  have c8_11 := c4_11.other W7 (Or.inl hne_o0_sA)
  have c8_12 := c4_12.other W7 (Or.inl hne_o0_sA)
  have c8_13 := c4_13.other W7 hne_bA_sA
  have c8_14 := f3_0.other W7 hne_wA_sA
  have c8_16 := c4_16.other W7 (Ne.symm hne_sA_lA)
  have c8_17 := c4_17.other W7 (Ne.symm hne_sA_hA)
  have c8_18 := c4_18.other W7 hne_cA_sA
  have c8_19 := c4_19.other W7 (Or.inl hne_o0_sA)
  have c8_20 := c4_20.other W7 (Or.inl hne_o0_sA)
  have K7 : Keep h0 h7 [wA, sA, lA, hA, o0] := K3.wr W7 (Or.inl (by simp))
  have Z7 := Nat.le_trans Z3 (Keep.of_wr W7).1
  refine Go.via st7 ?_
  refine Vi (T7.setTop (mkF m 36 #[sR o0, sI 0] [(.ref o0)])) (fun tZ kZ => ?_) ?_
  · refine XS.aloadN X7.here hx rfl (hb hby d3_35) rfl rfl ?_
    exact kZ
  obtain ⟨T9, X9, e9, st9⟩ := getF X7 hx hZ hown (host := "") (Or.inl (wq hw 36 rfl)) Via.refl e7 c8_2 (g := (mkF m 36 #[sR o0, sI 0] [(.ref o0)])) rfl rfl (hb hby d3_36)
  refine Go.via st9 ?_
  refine Vi (T9.setTop (mkF m 41 #[sR o0, sI 0] [(.int 0), (.int 0), (.ref lA)])) (fun tZ kZ => ?_) ?_
  · refine XS.iloadN X9.here hx rfl (hb hby d3_39) rfl ?_
    refine XS.iconst X9.here hx rfl (hb hby d3_40) ?_
    exact kZ
  obtain ⟨T10, h10, X10, e10, W10, V10, st10⟩ := AV.iastore c8_16 X9 hx hZ e9 (j := (0 : Int32)) (by decide) (Ls := #[sR o0, sI 0]) (rest := []) (hb hby d3_41) (x := (0 : Int32))
  have N10 := Fr.snoc X10 N7 ha24
  have c11_0 := c8_0.wr W10
  have c11_1 := c8_1.other W10 (Or.inl hne_o0_lA)
  have c11_2 := c8_2.other W10 (Or.inl hne_o0_lA)
  have c11_3 := c8_3.other W10 (Or.inl hne_o0_lA)
  have c11_4 := c8_4.other W10 (Or.inl hne_o0_lA)
  have c11_5 := c8_5.other W10 (Or.inl hne_o0_lA)
  have c11_6 := c8_6.other W10 (Or.inl hne_o0_lA)
  have c11_7 := c8_7.other W10 (Or.inl hne_o0_lA)
  have c11_8 := c8_8.other W10 (Or.inl hne_o0_lA)
  have c11_9 := c8_9.other W10 (Or.inl hne_o0_lA)
  have c11_10 := c8_10.other W10 (Or.inl hne_o0_lA)
  have c11_11 := c8_11.other W10 (Or.inl hne_o0_lA)
  have c11_12 := c8_12.other W10 (Or.inl hne_o0_lA)
  have c11_13 := c8_13.other W10 hne_bA_lA
  have c11_14 := c8_14.other W10 hne_wA_lA
  have c11_15 := V7.other W10 hne_sA_lA
  have c11_17 := c8_17.other W10 (Ne.symm hne_lA_hA)
  have c11_18 := c8_18.other W10 hne_cA_lA
  have c11_19 := c8_19.other W10 (Or.inl hne_o0_lA)
  have c11_20 := c8_20.other W10 (Or.inl hne_o0_lA)
  have K10 : Keep h0 h10 [wA, sA, lA, hA, o0] := K7.wr W10 (Or.inl (by simp))
  have Z10 := Nat.le_trans Z7 (Keep.of_wr W10).1
  refine Go.via st10 ?_
  refine Vi (T10.setTop (mkF m 43 #[sR o0, sI 0] [(.ref o0)])) (fun tZ kZ => ?_) ?_
  · refine XS.aloadN X10.here hx rfl (hb hby d3_42) rfl rfl ?_
    exact kZ
  obtain ⟨T12, X12, e12, st12⟩ := getF X10 hx hZ hown (host := "") (Or.inl (wq hw 38 rfl)) Via.refl e10 c11_3 (g := (mkF m 43 #[sR o0, sI 0] [(.ref o0)])) rfl rfl (hb hby d3_43)
  refine Go.via st12 ?_
  refine Vi (T12.setTop (mkF m 48 #[sR o0, sI 0] [(.ref o0), (.int 0), (.ref hA)])) (fun tZ kZ => ?_) ?_
  · refine XS.iloadN X12.here hx rfl (hb hby d3_46) rfl ?_
    refine XS.aloadN X12.here hx rfl (hb hby d3_47) rfl rfl ?_
    exact kZ
  obtain ⟨T13, X13, e13, st13⟩ := getF X12 hx hZ hown (host := "") (Or.inl (wq hw 28 rfl)) Via.refl e12 c11_5 (g := (mkF m 48 #[sR o0, sI 0] [(.ref o0), (.int 0), (.ref hA)])) rfl rfl (hb hby d3_48)
  refine Go.via st13 ?_
  refine Vi (T13.setTop (mkF m 55 #[sR o0, sI 0] [(.int ((cF (0 : Int32).toNatClampNeg) - (1 : Int32))), (.int 0), (.ref hA)])) (fun tZ kZ => ?_) ?_
  · refine XS.iloadN X13.here hx rfl (hb hby d3_51) rfl ?_
    refine AV.iaload c11_18 X13 hx hZ e13 (j := (0 : Int32)) (by decide) (hb hby d3_52) ?_
    refine XS.iconst X13.here hx rfl (hb hby d3_53) ?_
    refine XS.isub X13.here hx rfl (hb hby d3_54) rfl ?_
    exact kZ
  obtain ⟨T14, h14, X14, e14, W14, V14, st14⟩ := AV.iastore c11_17 X13 hx hZ e13 (j := (0 : Int32)) (by decide) (Ls := #[sR o0, sI 0]) (rest := []) (hb hby d3_55) (x := ((cF (0 : Int32).toNatClampNeg) - (1 : Int32)))
  have N14 := Fr.snoc X14 N10 ha25
  have c15_0 := c11_0.wr W14
  have c15_1 := c11_1.other W14 (Or.inl hne_o0_hA)
  have c15_2 := c11_2.other W14 (Or.inl hne_o0_hA)
  have c15_3 := c11_3.other W14 (Or.inl hne_o0_hA)
  have c15_4 := c11_4.other W14 (Or.inl hne_o0_hA)
  have c15_5 := c11_5.other W14 (Or.inl hne_o0_hA)
  have c15_6 := c11_6.other W14 (Or.inl hne_o0_hA)
  have c15_7 := c11_7.other W14 (Or.inl hne_o0_hA)
  have c15_8 := c11_8.other W14 (Or.inl hne_o0_hA)
  have c15_9 := c11_9.other W14 (Or.inl hne_o0_hA)
  have c15_10 := c11_10.other W14 (Or.inl hne_o0_hA)
  have c15_11 := c11_11.other W14 (Or.inl hne_o0_hA)
  have c15_12 := c11_12.other W14 (Or.inl hne_o0_hA)
  have c15_13 := c11_13.other W14 hne_bA_hA
  have c15_14 := c11_14.other W14 hne_wA_hA
  have c15_15 := c11_15.other W14 hne_sA_hA
  have c15_16 := V10.other W14 hne_lA_hA
  have c15_18 := c11_18.other W14 hne_cA_hA
  have c15_19 := c11_19.other W14 (Or.inl hne_o0_hA)
  have c15_20 := c11_20.other W14 (Or.inl hne_o0_hA)
  have K14 : Keep h0 h14 [wA, sA, lA, hA, o0] := K10.wr W14 (Or.inl (by simp))
  have Z14 := Nat.le_trans Z10 (Keep.of_wr W14).1
  refine Go.via st14 ?_
  refine Vi (T14.setTop (mkF m 4 #[sR o0, sI 1] [(.ref o0), (.int 1)])) (fun tZ kZ => ?_) ?_
  · refine XS.iinc X14.here hx rfl (hb hby d3_56) rfl (l' := #[sR o0, sI 1]) rfl ?_
    refine XS.goto X14.here hx rfl (pc0 := 59) (pc' := 2) rfl (hb hby d3_59) (by decide) (by decide) ?_
    refine XS.iloadN X14.here hx rfl (hb hby d3_2) rfl ?_
    refine XS.aloadN X14.here hx rfl (hb hby d3_3) rfl rfl ?_
    exact kZ
  obtain ⟨T16, X16, e16, st16⟩ := getF X14 hx hZ hown (host := "") (Or.inl (wq hw 28 rfl)) Via.refl e14 c15_5 (g := (mkF m 4 #[sR o0, sI 1] [(.ref o0), (.int 1)])) rfl rfl (hb hby d3_4)
  refine Go.via st16 ?_
  refine Vi (T16.setTop (mkF m 64 #[sR o0, sI 1] [(.int 0), (.ref o0)])) (fun tZ kZ => ?_) ?_
  · refine AV.len c15_18 X16 hx hZ e16 (hb hby d3_7) ?_
    refine XS.icmpYes X16.here hx rfl (pc0 := 8) (pc' := 62) rfl (hb hby d3_8) rfl (flt (by decide)).2.1 (by decide) (by decide) ?_
    refine XS.aloadN X16.here hx rfl (hb hby d3_62) rfl rfl ?_
    refine XS.iconst X16.here hx rfl (hb hby d3_63) ?_
    exact kZ
  obtain ⟨T17, h17, X17, e17, W17, st17⟩ := putF X16 hx hZ hown (host := "") (Or.inl (wq hw 56 rfl)) Via.refl e16 c15_19 c15_0 (Or.inl (wq hw 57 rfl)) (wq hw 1 rfl) (ty := .int) (by decide) rfl rfl (g := (mkF m 64 #[sR o0, sI 1] [(.int 0), (.ref o0)])) rfl rfl (hb hby d3_64)
  have N17 := Fr.snoc X17 N14 ha21
  have c18_0 := c15_0.wr W17
  have c18_1 := c15_1.other W17 (Or.inr (slot_ne (Or.inl (wq hw 71 rfl)) (Or.inl (wq hw 57 rfl)) (by decide) (t := (.object "com/example/whittle/whittle/engine/Domains$RemovalListener")) (t' := .int) (by decide) (by decide)))
  have c18_2 := c15_2.other W17 (Or.inr (slot_ne (Or.inr (wq hw 37 rfl)) (Or.inl (wq hw 57 rfl)) (by decide) (t := (.array .int)) (t' := .int) (by decide) (by decide)))
  have c18_3 := c15_3.other W17 (Or.inr (slot_ne (Or.inr (wq hw 39 rfl)) (Or.inl (wq hw 57 rfl)) (by decide) (t := (.array .int)) (t' := .int) (by decide) (by decide)))
  have c18_4 := c15_4.other W17 (Or.inr (slot_ne (Or.inr (wq hw 35 rfl)) (Or.inl (wq hw 57 rfl)) (by decide) (t := (.array .int)) (t' := .int) (by decide) (by decide)))
  have c18_5 := c15_5.other W17 (Or.inr (slot_ne (Or.inr (wq hw 29 rfl)) (Or.inl (wq hw 57 rfl)) (by decide) (t := (.array .int)) (t' := .int) (by decide) (by decide)))
  have c18_6 := c15_6.other W17 (Or.inr (slot_ne (Or.inr (wq hw 42 rfl)) (Or.inl (wq hw 57 rfl)) (by decide) (t := (.array .int)) (t' := .int) (by decide) (by decide)))
  have c18_7 := c15_7.other W17 (Or.inr (slot_ne (Or.inr (wq hw 45 rfl)) (Or.inl (wq hw 57 rfl)) (by decide) (t := (.array .boolean)) (t' := .int) (by decide) (by decide)))
  have c18_8 := c15_8.other W17 (Or.inr (slot_ne (Or.inr (wq hw 33 rfl)) (Or.inl (wq hw 57 rfl)) (by decide) (t := (.array (.array .long))) (t' := .int) (by decide) (by decide)))
  have c18_9 := c15_9.other W17 (Or.inr (slot_ne (Or.inl (wq hw 11 rfl)) (Or.inl (wq hw 57 rfl)) (by decide) (t := (.array .int)) (t' := .int) (by decide) (by decide)))
  have c18_10 := c15_10.other W17 (Or.inr (slot_ne (Or.inl (wq hw 13 rfl)) (Or.inl (wq hw 57 rfl)) (by decide) (t := (.array .int)) (t' := .int) (by decide) (by decide)))
  have c18_11 := c15_11.other W17 (Or.inr (slot_ne (Or.inl (wq hw 16 rfl)) (Or.inl (wq hw 57 rfl)) (by decide) (t := (.array .long)) (t' := .int) (by decide) (by decide)))
  have c18_12 := c15_12.other W17 (Or.inr (slot_ne (Or.inl (wq hw 18 rfl)) (Or.inl (wq hw 57 rfl)) (by decide) (t := (.array .int)) (t' := .int) (by decide) (by decide)))
  have c18_13 := c15_13.other W17 (Ne.symm hne_o0_bA)
  have c18_14 := c15_14.other W17 (Ne.symm hne_o0_wA)
  have c18_15 := c15_15.other W17 (Ne.symm hne_o0_sA)
  have c18_16 := c15_16.other W17 (Ne.symm hne_o0_lA)
  have c18_17 := V14.other W17 (Ne.symm hne_o0_hA)
  have c18_18 := c15_18.other W17 (Ne.symm hne_o0_cA)
  have c18_20 := c15_20.other W17 (Or.inr (slot_ne (Or.inl (wq hw 64 rfl)) (Or.inl (wq hw 57 rfl)) (by decide) (t := .int) (t' := .int) (by decide) (by decide)))
  have K17 : Keep h0 h17 [wA, sA, lA, hA, o0] := K14.wr W17 (Or.inl (by simp))
  have Z17 := Nat.le_trans Z14 (Keep.of_wr W17).1
  have Fw17 := c15_19.same W17
  refine Go.via st17 ?_
  refine Vi (T17.setTop (mkF m 68 #[sR o0, sI 1] [(.ref o0)])) (fun tZ kZ => ?_) ?_
  · refine XS.aloadN X17.here hx rfl (hb hby d3_67) rfl rfl ?_
    exact kZ
  obtain ⟨cq19, kq19, q19a, q19b, q19c⟩ := isOf hZ e17 c18_0
  obtain ⟨_, _, ⟨T19, L19, k19, n19⟩, -, X19, ⟨Lc19, hQ19, l19, y19, z19⟩, st19⟩ := X17.virtualBack hx (y := y5) (z := y5) hown (wz hZ hw 58 rfl) (wz hZ hw 59 rfl) (notFace_of_selects (args := #[]) (wz hZ hw 61 rfl)) (wz hZ hw 61 rfl) (wz hZ hw 60 rfl) (by decide) (backOf (W := 0) (rm5 l Z a0 hw [] o0 (0 : Int32) lA hA sA cA chA icA bA tvA twA tsA tzA h17 n0 Z17 c18_0 Fw17 c18_20 c18_1 c18_2 c18_3 c18_4 c18_5 c18_6 c18_7 c18_8 c18_9 c18_10 c18_11 c18_12 ha21) hZ (wq hw 62 rfl) (wq hw 2 rfl) (by decide) (by decide)) q19a q19c (g := (mkF m 68 #[sR o0, sI 1] [(.ref o0)])) rfl (by rw [hml]; rfl) (Steps.refl _) (argsL := []) (rest := []) (lenOf pd_1 rfl) rfl (leW rfl) (hb hby d3_68) (fun _ _ => ⟨rfl, e17, (by decide : 0 + 0 + 0 ≤ _), (by decide : 0 + 0 + 0 ≤ _)⟩)
  dsimp only [Pt.U, Pt.locs, Pt.cells, Pt.slots] at X19 l19 y19 z19 st19 hQ19
  subst l19 y19 z19
  obtain ⟨rfl, N19q, Kq19, f19_0, f19_1, f19_2, f19_3, f19_4, f19_5, f19_6, f19_7, f19_8, f19_9, f19_10, f19_11, f19_12, f19_13, f19_14⟩ := hQ19
  have c20_13 := c18_13.keep Kq19 (ninS (Ne.symm hne_o0_bA) nin0)
  have c20_14 := c18_14.keep Kq19 (ninS (Ne.symm hne_o0_wA) nin0)
  have c20_15 := c18_15.keep Kq19 (ninS (Ne.symm hne_o0_sA) nin0)
  have c20_16 := c18_16.keep Kq19 (ninS (Ne.symm hne_o0_lA) nin0)
  have c20_17 := c18_17.keep Kq19 (ninS (Ne.symm hne_o0_hA) nin0)
  have c20_18 := c18_18.keep Kq19 (ninS (Ne.symm hne_o0_cA) nin0)
  have K19 : Keep h0 T19.heap [wA, sA, lA, hA, o0] := K17.trans Kq19 (allS (Or.inl (by simp)) all0)
  have Z19 := Nat.le_trans Z17 Kq19.1
  have N19 := Fr.app N17 N19q
  refine Go.via (fun t k => st19.trans k) ?_
  refine Go.retV X19 hx Bd.notSynchronized Bd.returns (hb hby d3_71) (by decide) (by decide) ?_
  exact ⟨rfl, N19, K19, f19_0, f19_3, f19_4, f19_5, f19_6, f19_7, f19_8, f19_9, f19_10, f19_11, f19_12, f19_13, f19_14, c20_13, c20_14, c20_15, c20_16, c20_17, c20_18, f19_1, f19_2⟩
theorem d6_0 : decode B6 0 = .ok (.iconst 1, 1) := by decide +kernel
theorem d6_1 : decode B6 1 = .ok (.istore 4, 2) := by decide +kernel
theorem d6_3 : decode B6 3 = .ok (.aload_n 0, 1) := by decide +kernel
theorem d6_4 : decode B6 4 = .ok (.getfield 67, 3) := by decide +kernel
theorem d6_7 : decode B6 7 = .ok (.ifnull 65, 3) := by decide +kernel
theorem d6_72 : decode B6 72 = .ok (.aload_n 0, 1) := by decide +kernel
theorem d6_73 : decode B6 73 = .ok (.iload_n 1, 1) := by decide +kernel
theorem d6_74 : decode B6 74 = .ok (.iload_n 2, 1) := by decide +kernel
theorem d6_75 : decode B6 75 = .ok (.invokevirtual 103, 3) := by decide +kernel
theorem d6_78 : decode B6 78 = .ok (.istore 5, 2) := by decide +kernel
theorem d6_80 : decode B6 80 = .ok (.aload_n 0, 1) := by decide +kernel
theorem d6_81 : decode B6 81 = .ok (.iload_n 1, 1) := by decide +kernel
theorem d6_82 : decode B6 82 = .ok (.iload_n 3, 1) := by decide +kernel
theorem d6_83 : decode B6 83 = .ok (.invokevirtual 110, 3) := by decide +kernel
theorem d6_86 : decode B6 86 = .ok (.istore 6, 2) := by decide +kernel
theorem d6_88 : decode B6 88 = .ok (.iload 5, 2) := by decide +kernel
theorem d6_90 : decode B6 90 = .ok (.ifCond .lt 10, 3) := by decide +kernel
theorem d6_100 : decode B6 100 = .ok (.aload_n 0, 1) := by decide +kernel
theorem d6_101 : decode B6 101 = .ok (.iload_n 1, 1) := by decide +kernel
theorem d6_102 : decode B6 102 = .ok (.aload_n 0, 1) := by decide +kernel
theorem d6_103 : decode B6 103 = .ok (.getfield 39, 3) := by decide +kernel
theorem d6_106 : decode B6 106 = .ok (.iload_n 1, 1) := by decide +kernel
theorem d6_107 : decode B6 107 = .ok (.iaload, 1) := by decide +kernel
theorem d6_108 : decode B6 108 = .ok (.aload_n 0, 1) := by decide +kernel
theorem d6_109 : decode B6 109 = .ok (.getfield 39, 3) := by decide +kernel
theorem d6_112 : decode B6 112 = .ok (.iload_n 1, 1) := by decide +kernel
theorem d6_113 : decode B6 113 = .ok (.iaload, 1) := by decide +kernel
theorem d6_114 : decode B6 114 = .ok (.iconst 1, 1) := by decide +kernel
theorem d6_115 : decode B6 115 = .ok (.isub, 1) := by decide +kernel
theorem d6_116 : decode B6 116 = .ok (.iconst 0, 1) := by decide +kernel
theorem pd_6 : parseMethodDescriptor "(IIII)V" = some ⟨[.int, .int, .int, .int], none⟩ := by decide +kernel
theorem d6_117 : decode B6 117 = .ok (.invokevirtual 106, 3) := by decide +kernel
theorem d6_120 : decode B6 120 = .ok (.aload_n 0, 1) := by decide +kernel
theorem d6_121 : decode B6 121 = .ok (.iload_n 1, 1) := by decide +kernel
theorem pd_8 : parseMethodDescriptor "(I)V" = some ⟨[.int], none⟩ := by decide +kernel
theorem d6_122 : decode B6 122 = .ok (.invokevirtual 117, 3) := by decide +kernel
theorem d6_125 : decode B6 125 = .ok (.iconst 0, 1) := by decide +kernel
theorem d6_126 : decode B6 126 = .ok (.istore 4, 2) := by decide +kernel
theorem d6_128 : decode B6 128 = .ok (.goto 48, 3) := by decide +kernel
theorem d6_176 : decode B6 176 = .ok (.iload 4, 2) := by decide +kernel
theorem d6_178 : decode B6 178 = .ok (.ireturn, 1) := by decide +kernel
theorem d6_93 : decode B6 93 = .ok (.iload 6, 2) := by decide +kernel
theorem d6_95 : decode B6 95 = .ok (.iload 5, 2) := by decide +kernel
theorem d6_97 : decode B6 97 = .ok (.if_icmp .ge 34, 3) := by decide +kernel
theorem d6_131 : decode B6 131 = .ok (.iload 5, 2) := by decide +kernel
theorem d6_133 : decode B6 133 = .ok (.aload_n 0, 1) := by decide +kernel
theorem d6_134 : decode B6 134 = .ok (.getfield 39, 3) := by decide +kernel
theorem d6_137 : decode B6 137 = .ok (.iload_n 1, 1) := by decide +kernel
theorem d6_138 : decode B6 138 = .ok (.iaload, 1) := by decide +kernel
theorem d6_139 : decode B6 139 = .ok (.if_icmp .ne 14, 3) := by decide +kernel
theorem d6_142 : decode B6 142 = .ok (.iload 6, 2) := by decide +kernel
theorem d6_144 : decode B6 144 = .ok (.aload_n 0, 1) := by decide +kernel
theorem d6_145 : decode B6 145 = .ok (.getfield 42, 3) := by decide +kernel
theorem d6_148 : decode B6 148 = .ok (.iload_n 1, 1) := by decide +kernel
theorem d6_149 : decode B6 149 = .ok (.iaload, 1) := by decide +kernel
theorem d6_150 : decode B6 150 = .ok (.if_icmp .eq 26, 3) := by decide +kernel
theorem d6_153 : decode B6 153 = .ok (.aload_n 0, 1) := by decide +kernel
theorem d6_154 : decode B6 154 = .ok (.iload_n 1, 1) := by decide +kernel
theorem d6_155 : decode B6 155 = .ok (.iload 5, 2) := by decide +kernel
theorem d6_157 : decode B6 157 = .ok (.iload 6, 2) := by decide +kernel
theorem d6_159 : decode B6 159 = .ok (.aload_n 0, 1) := by decide +kernel
theorem d6_160 : decode B6 160 = .ok (.iload_n 1, 1) := by decide +kernel
theorem d6_161 : decode B6 161 = .ok (.iload 5, 2) := by decide +kernel
theorem d6_163 : decode B6 163 = .ok (.iload 6, 2) := by decide +kernel
theorem pd_12 : parseMethodDescriptor "(III)I" = some ⟨[.int, .int, .int], some .int⟩ := by decide +kernel
theorem d6_165 : decode B6 165 = .ok (.invokevirtual 124, 3) := by decide +kernel
theorem d6_168 : decode B6 168 = .ok (.invokevirtual 106, 3) := by decide +kernel
theorem d6_171 : decode B6 171 = .ok (.aload_n 0, 1) := by decide +kernel
theorem d6_172 : decode B6 172 = .ok (.iload_n 1, 1) := by decide +kernel
theorem d6_173 : decode B6 173 = .ok (.invokevirtual 117, 3) := by decide +kernel
def Q6 (Z : State) (o0 : Addr) (p2 : Int32) (p3 : Int32) (tl : Int32) (cc : Int32) (lA : Addr) (hA : Addr) (sA : Addr) (cA : Addr) (chA : Addr) (icA : Addr) (bA : Addr) (tvA : Addr) (twA : Addr) (tsA : Addr) (tzA : Addr) (wA : Addr) (nW : Nat) (wF : Nat → Int64) (sF : Nat → Int32) (lF : Nat → Int32) (hF : Nat → Int32) (chF : Nat → Int32) (icF : Nat → Int32) (tvF : Nat → Int32) (twF : Nat → Int32) (tsF : Nat → Int64) (tzF : Nat → Int32) (h0 : Heap) (n0 : Nat) (v : Option Value) (h : Heap) (L : List Loc) : Prop := ∃ lF' : Nat → Int32, ∃ hF' : Nat → Int32, ∃ sF' : Nat → Int32, ∃ chF' : Nat → Int32, ∃ icF' : Nat → Int32, ∃ tvF' : Nat → Int32, ∃ twF' : Nat → Int32, ∃ tsF' : Nat → Int64, ∃ tzF' : Nat → Int32, ∃ tl' : Int32, ∃ cc' : Int32, ∃ r : Int32, v = some (.int r) ∧ Fr n0 L ∧ Keep h0 h [tvA, twA, tsA, tzA, o0, lA, hA, sA, icA, chA] ∧ Exa Z h o0 "com/example/whittle/whittle/engine/Domains" ∧ Fld Z h o0 "com/example/whittle/whittle/engine/Domains" "trailLength" "I" (.int tl') ∧ Fld Z h o0 "com/example/whittle/whittle/engine/Domains" "changedCount" "I" (.int cc') ∧ Fld Z h o0 "com/example/whittle/whittle/engine/Domains" "listener" "Lcom/example/whittle/whittle/engine/Domains$RemovalListener;" .null ∧ Fld Z h o0 "com/example/whittle/whittle/engine/Domains" "low" "[I" (.ref lA) ∧ Fld Z h o0 "com/example/whittle/whittle/engine/Domains" "high" "[I" (.ref hA) ∧ Fld Z h o0 "com/example/whittle/whittle/engine/Domains" "sizes" "[I" (.ref sA) ∧ Fld Z h o0 "com/example/whittle/whittle/engine/Domains" "capacities" "[I" (.ref cA) ∧ Fld Z h o0 "com/example/whittle/whittle/engine/Domains" "changed" "[I" (.ref chA) ∧ Fld Z h o0 "com/example/whittle/whittle/engine/Domains" "isChanged" "[Z" (.ref icA) ∧ Fld Z h o0 "com/example/whittle/whittle/engine/Domains" "bits" "[[J" (.ref bA) ∧ Fld Z h o0 "com/example/whittle/whittle/engine/Domains" "trailVariable" "[I" (.ref tvA) ∧ Fld Z h o0 "com/example/whittle/whittle/engine/Domains" "trailWord" "[I" (.ref twA) ∧ Fld Z h o0 "com/example/whittle/whittle/engine/Domains" "trailSaved" "[J" (.ref tsA) ∧ Fld Z h o0 "com/example/whittle/whittle/engine/Domains" "trailSize" "[I" (.ref tzA) ∧ AV Z h bA (.array .long) 1 (fun _ => Value.ref wA) ∧ AV Z h wA .long nW (fun k => .long (wF k)) ∧ AV Z h sA .int 1 (fun k => .int (sF' k)) ∧ AV Z h lA .int 1 (fun k => .int (lF' k)) ∧ AV Z h hA .int 1 (fun k => .int (hF' k)) ∧ AV Z h chA .int 1 (fun k => .int (chF' k)) ∧ AV Z h icA .boolean 1 (fun k => .int (icF' k)) ∧ AV Z h tvA .int 1024 (fun k => .int (tvF' k)) ∧ AV Z h twA .int 1024 (fun k => .int (twF' k)) ∧ AV Z h tsA .long 1024 (fun k => .long (tsF' k)) ∧ AV Z h tzA .int 1024 (fun k => .int (tzF' k)) ∧ own_R6 p2 p3 tl (lF (0 : Int32).toNatClampNeg) (hF (0 : Int32).toNatClampNeg) wF nW tl' cc' (icF' (0 : Int32).toNatClampNeg) (lF' (0 : Int32).toNatClampNeg) (hF' (0 : Int32).toNatClampNeg)
abbrev RM_3_0_0_47 : Room := { frames := 3, cells := 0, slots := 0, locals := 47 }
theorem ef_6_aaaa (m : MethodId) (x0 : Addr) (x1 : Int32) (x2 : Int32) (x3 : Int32) : entryFrame m #[(.ref x0), (.int x1), (.int x2), (.int x3)] 7 = mkF m 0 #[.val (.ref x0), .val (.int x1), .val (.int x2), .val (.int x3), .unset, .unset, .unset] [] := by first | (simp [entryFrame, mkF, argsToLocals, Value.category]; done) | rfl
theorem rm6 (l : Launch) (Z : State) (a0 : Array Value) (hw : HW a0 Z) (ws : List Jvm.Cond) (o0 : Addr) (p2 : Int32) (p3 : Int32) (tl : Int32) (cc : Int32) (lA : Addr) (hA : Addr) (sA : Addr) (cA : Addr) (chA : Addr) (icA : Addr) (bA : Addr) (tvA : Addr) (twA : Addr) (tsA : Addr) (tzA : Addr) (wA : Addr) (nW : Nat) (wF : Nat → Int64) (sF : Nat → Int32) (lF : Nat → Int32) (hF : Nat → Int32) (chF : Nat → Int32) (icF : Nat → Int32) (tvF : Nat → Int32) (twF : Nat → Int32) (tsF : Nat → Int64) (tzF : Nat → Int32) (h0 : Heap) (n0 : Nat) (Z0 : n0 ≤ h0.size) (ha0 : Exa Z h0 o0 "com/example/whittle/whittle/engine/Domains") (ha1 : Fld Z h0 o0 "com/example/whittle/whittle/engine/Domains" "trailLength" "I" (.int tl)) (ha2 : Fld Z h0 o0 "com/example/whittle/whittle/engine/Domains" "changedCount" "I" (.int cc)) (ha3 : Fld Z h0 o0 "com/example/whittle/whittle/engine/Domains" "listener" "Lcom/example/whittle/whittle/engine/Domains$RemovalListener;" .null) (ha4 : Fld Z h0 o0 "com/example/whittle/whittle/engine/Domains" "low" "[I" (.ref lA)) (ha5 : Fld Z h0 o0 "com/example/whittle/whittle/engine/Domains" "high" "[I" (.ref hA)) (ha6 : Fld Z h0 o0 "com/example/whittle/whittle/engine/Domains" "sizes" "[I" (.ref sA)) (ha7 : Fld Z h0 o0 "com/example/whittle/whittle/engine/Domains" "capacities" "[I" (.ref cA)) (ha8 : Fld Z h0 o0 "com/example/whittle/whittle/engine/Domains" "changed" "[I" (.ref chA)) (ha9 : Fld Z h0 o0 "com/example/whittle/whittle/engine/Domains" "isChanged" "[Z" (.ref icA)) (ha10 : Fld Z h0 o0 "com/example/whittle/whittle/engine/Domains" "bits" "[[J" (.ref bA)) (ha11 : Fld Z h0 o0 "com/example/whittle/whittle/engine/Domains" "trailVariable" "[I" (.ref tvA)) (ha12 : Fld Z h0 o0 "com/example/whittle/whittle/engine/Domains" "trailWord" "[I" (.ref twA)) (ha13 : Fld Z h0 o0 "com/example/whittle/whittle/engine/Domains" "trailSaved" "[J" (.ref tsA)) (ha14 : Fld Z h0 o0 "com/example/whittle/whittle/engine/Domains" "trailSize" "[I" (.ref tzA)) (ha15 : AV Z h0 bA (.array .long) 1 (fun _ => Value.ref wA)) (ha16 : AV Z h0 wA .long nW (fun k => .long (wF k))) (ha17 : AV Z h0 sA .int 1 (fun k => .int (sF k))) (ha18 : AV Z h0 lA .int 1 (fun k => .int (lF k))) (ha19 : AV Z h0 hA .int 1 (fun k => .int (hF k))) (ha20 : AV Z h0 chA .int 1 (fun k => .int (chF k))) (ha21 : AV Z h0 icA .boolean 1 (fun k => .int (icF k))) (ha22 : AV Z h0 tvA .int 1024 (fun k => .int (tvF k))) (ha23 : AV Z h0 twA .int 1024 (fun k => .int (twF k))) (ha24 : AV Z h0 tsA .long 1024 (fun k => .long (tsF k))) (ha25 : AV Z h0 tzA .int 1024 (fun k => .int (tzF k))) (ha26 : n0 ≤ o0) (ha27 : n0 ≤ sA) (ha28 : n0 ≤ lA) (ha29 : n0 ≤ hA) (ha30 : n0 ≤ chA) (ha31 : n0 ≤ icA) (ha32 : n0 ≤ tvA) (ha33 : n0 ≤ twA) (ha34 : n0 ≤ tsA) (ha35 : n0 ≤ tzA) (hne_o0_bA : o0 ≠ bA) (hne_o0_wA : o0 ≠ wA) (hne_o0_sA : o0 ≠ sA) (hne_o0_lA : o0 ≠ lA) (hne_o0_hA : o0 ≠ hA) (hne_o0_chA : o0 ≠ chA) (hne_o0_icA : o0 ≠ icA) (hne_o0_tvA : o0 ≠ tvA) (hne_o0_twA : o0 ≠ twA) (hne_o0_tsA : o0 ≠ tsA) (hne_o0_tzA : o0 ≠ tzA) (hne_bA_wA : bA ≠ wA) (hne_bA_sA : bA ≠ sA) (hne_bA_lA : bA ≠ lA) (hne_bA_hA : bA ≠ hA) (hne_bA_chA : bA ≠ chA) (hne_bA_icA : bA ≠ icA) (hne_bA_tvA : bA ≠ tvA) (hne_bA_twA : bA ≠ twA) (hne_bA_tsA : bA ≠ tsA) (hne_bA_tzA : bA ≠ tzA) (hne_wA_sA : wA ≠ sA) (hne_wA_lA : wA ≠ lA) (hne_wA_hA : wA ≠ hA) (hne_wA_chA : wA ≠ chA) (hne_wA_icA : wA ≠ icA) (hne_wA_tvA : wA ≠ tvA) (hne_wA_twA : wA ≠ twA) (hne_wA_tsA : wA ≠ tsA) (hne_wA_tzA : wA ≠ tzA) (hne_sA_lA : sA ≠ lA) (hne_sA_hA : sA ≠ hA) (hne_sA_chA : sA ≠ chA) (hne_sA_icA : sA ≠ icA) (hne_sA_tvA : sA ≠ tvA) (hne_sA_twA : sA ≠ twA) (hne_sA_tsA : sA ≠ tsA) (hne_sA_tzA : sA ≠ tzA) (hne_lA_hA : lA ≠ hA) (hne_lA_chA : lA ≠ chA) (hne_lA_icA : lA ≠ icA) (hne_lA_tvA : lA ≠ tvA) (hne_lA_twA : lA ≠ twA) (hne_lA_tsA : lA ≠ tsA) (hne_lA_tzA : lA ≠ tzA) (hne_hA_chA : hA ≠ chA) (hne_hA_icA : hA ≠ icA) (hne_hA_tvA : hA ≠ tvA) (hne_hA_twA : hA ≠ twA) (hne_hA_tsA : hA ≠ tsA) (hne_hA_tzA : hA ≠ tzA) (hne_chA_icA : chA ≠ icA) (hne_chA_tvA : chA ≠ tvA) (hne_chA_twA : chA ≠ twA) (hne_chA_tsA : chA ≠ tsA) (hne_chA_tzA : chA ≠ tzA) (hne_icA_tvA : icA ≠ tvA) (hne_icA_twA : icA ≠ twA) (hne_icA_tsA : icA ≠ tsA) (hne_icA_tzA : icA ≠ tzA) (hne_tvA_twA : tvA ≠ twA) (hne_tvA_tsA : tvA ≠ tsA) (hne_tvA_tzA : tvA ≠ tzA) (hne_twA_tsA : twA ≠ tsA) (hne_twA_tzA : twA ≠ tzA) (hne_tsA_tzA : tsA ≠ tzA) (hI : own_I (lF (0 : Int32).toNatClampNeg) (hF (0 : Int32).toNatClampNeg) wF nW 512) (htl : ¬ tl = (1024 : Int32)) (htb : ¬ tl < 0 ∧ tl.toNatClampNeg < 1024) (hnh : (sF (0 : Int32).toNatClampNeg) = (((hF (0 : Int32).toNatClampNeg) - (lF (0 : Int32).toNatClampNeg)) + (1 : Int32))) (hcc : (icF (0 : Int32).toNatClampNeg) = 0 → cc = 0) :
    MetFree l y6 (head1 (Jvm.Cond.code y6 prog_22_method_12_code 7 (some .boolean) :: ws) RM_3_0_0_47) (fun a U => a = #[(.ref o0), (.int 0), (.int p2), (.int p3)] ∧ Z.Warmed39 U.vm ∧ U.heap = h0) (fun _ _ _ _ _ => True) (fun _ U o U' => ∃ v L, o = .returned v ∧ Q6 Z o0 p2 p3 tl cc lA hA sA cA chA icA bA tvA twA tsA tzA wA nW wF sF lF hF chF icF tvF twF tsF tzF h0 n0 v U'.heap L ∧ FrameEnd U o U' L RM_3_0_0_47.cells RM_3_0_0_47.slots) := by
  refine MetFree.of_bodySF (plainFor_of_name pn_2) hisR ?_
  intro p e s m args below meth c s₁ Bd hml0 hP hK
  obtain ⟨rfl, hZ, hh⟩ := hP
  have hx := Bd.exec
  have hby := Bd.bytes
  have hml : c.maxLocals = 7 := hml0
  have hown : s.vm.findClass "com/example/whittle/whittle/engine/Domains" = some m.cls := findClass_of_methodNamed Bd.named
  have X0 : Stand p l e RM_3_0_0_47 s m _ below meth c s₁ [] 0 0 := Stand.of_body Bd
  have e0 : s₁.heap = h0 := by rw [← hh, Bd.state]; rfl
  have N0 := Fr.nil n0
  refine Go.into (P := fun oo uu => ∃ v L, oo = .returned v ∧ Q6 Z o0 p2 p3 tl cc lA hA sA cA chA icA bA tvA twA tsA tzA wA nW wF sF lF hF chF icF tvF twF tsF tzF h0 n0 v uu.heap L ∧ FrameEnd s oo uu L RM_3_0_0_47.cells RM_3_0_0_47.slots) (ef_6_aaaa m o0 (0 : Int32) p2 p3) ?_
  show Go p e below _ (s₁.setTop (mkF m 0 #[sR o0, sI 0, sI p2, sI p3, .unset, .unset, .unset] []))
  have hB1a : ¬ (hF (0 : Int32).toNatClampNeg) < (f8 p2 (lF (0 : Int32).toNatClampNeg)) → ¬ (((f8 p2 (lF (0 : Int32).toNatClampNeg)).toUInt32 >>> ((6 : Int32) &&& 31).toUInt32).toInt32) < 0 ∧ (((f8 p2 (lF (0 : Int32).toNatClampNeg)).toUInt32 >>> ((6 : Int32) &&& 31).toUInt32).toInt32).toNatClampNeg < nW := (own_nx_eq hI (own_m8 _ _)).1
  have hB2a : ¬ (hF (0 : Int32).toNatClampNeg) < (f8 p2 (lF (0 : Int32).toNatClampNeg)) → ((wF (((f8 p2 (lF (0 : Int32).toNatClampNeg)).toUInt32 >>> ((6 : Int32) &&& 31).toUInt32).toInt32).toNatClampNeg) &&& ((-1 : Int64) <<< ((f8 p2 (lF (0 : Int32).toNatClampNeg)) &&& 0x3f).toInt64)) = (0 : Int64) → ¬ ((((f8 p2 (lF (0 : Int32).toNatClampNeg)).toUInt32 >>> ((6 : Int32) &&& 31).toUInt32).toInt32) + (1 : Int32)) < 0 ∧ ((((f8 p2 (lF (0 : Int32).toNatClampNeg)).toUInt32 >>> ((6 : Int32) &&& 31).toUInt32).toInt32) + (1 : Int32)).toNatClampNeg < nW := (own_nx_eq hI (own_m8 _ _)).2.1
  have hTa : ¬ (hF (0 : Int32).toNatClampNeg) < (f8 p2 (lF (0 : Int32).toNatClampNeg)) → ((wF (((f8 p2 (lF (0 : Int32).toNatClampNeg)).toUInt32 >>> ((6 : Int32) &&& 31).toUInt32).toInt32).toNatClampNeg) &&& ((-1 : Int64) <<< ((f8 p2 (lF (0 : Int32).toNatClampNeg)) &&& 0x3f).toInt64)) = (0 : Int64) → ¬ (wF ((((f8 p2 (lF (0 : Int32).toNatClampNeg)).toUInt32 >>> ((6 : Int32) &&& 31).toUInt32).toInt32) + (1 : Int32)).toNatClampNeg) = (0 : Int64) := (own_nx_eq hI (own_m8 _ _)).2.2.1
  have hB1b : ¬ (f10 p3 (hF (0 : Int32).toNatClampNeg)) < (lF (0 : Int32).toNatClampNeg) → ¬ (((f10 p3 (hF (0 : Int32).toNatClampNeg)).toUInt32 >>> ((6 : Int32) &&& 31).toUInt32).toInt32) < 0 ∧ (((f10 p3 (hF (0 : Int32).toNatClampNeg)).toUInt32 >>> ((6 : Int32) &&& 31).toUInt32).toInt32).toNatClampNeg < nW := (own_pv_eq hI (own_m10 _ _)).1
  have hB2b : ¬ (f10 p3 (hF (0 : Int32).toNatClampNeg)) < (lF (0 : Int32).toNatClampNeg) → ((wF (((f10 p3 (hF (0 : Int32).toNatClampNeg)).toUInt32 >>> ((6 : Int32) &&& 31).toUInt32).toInt32).toNatClampNeg) &&& (((-1 : Int64).toUInt64 >>> (((63 : Int32) - ((f10 p3 (hF (0 : Int32).toNatClampNeg)) &&& (63 : Int32))) &&& 0x3f).toInt64.toUInt64).toInt64)) = (0 : Int64) → ¬ ((((f10 p3 (hF (0 : Int32).toNatClampNeg)).toUInt32 >>> ((6 : Int32) &&& 31).toUInt32).toInt32) + (-1 : Int32)) < 0 ∧ ((((f10 p3 (hF (0 : Int32).toNatClampNeg)).toUInt32 >>> ((6 : Int32) &&& 31).toUInt32).toInt32) + (-1 : Int32)).toNatClampNeg < nW := (own_pv_eq hI (own_m10 _ _)).2.1
  have hTb : ¬ (f10 p3 (hF (0 : Int32).toNatClampNeg)) < (lF (0 : Int32).toNatClampNeg) → ((wF (((f10 p3 (hF (0 : Int32).toNatClampNeg)).toUInt32 >>> ((6 : Int32) &&& 31).toUInt32).toInt32).toNatClampNeg) &&& (((-1 : Int64).toUInt64 >>> (((63 : Int32) - ((f10 p3 (hF (0 : Int32).toNatClampNeg)) &&& (63 : Int32))) &&& 0x3f).toInt64.toUInt64).toInt64)) = (0 : Int64) → ¬ (wF ((((f10 p3 (hF (0 : Int32).toNatClampNeg)).toUInt32 >>> ((6 : Int32) &&& 31).toUInt32).toInt32) + (-1 : Int32)).toNatClampNeg) = (0 : Int64) := (own_pv_eq hI (own_m10 _ _)).2.2.1
  refine Vi (s₁.setTop (mkF m 4 #[sR o0, sI 0, sI p2, sI p3, sI 1, .unset, .unset] [(.ref o0)])) (fun tZ kZ => ?_) ?_
  · refine XS.iconst X0.here hx rfl (hb hby d6_0) ?_
    refine XS.istore X0.here hx rfl (hb hby d6_1) rfl (l' := #[sR o0, sI 0, sI p2, sI p3, sI 1, .unset, .unset]) rfl ?_
    refine XS.aloadN X0.here hx rfl (hb hby d6_3) rfl rfl ?_
    exact kZ
  obtain ⟨T1, X1, e1, st1⟩ := getF X0 hx hZ hown (host := "") (Or.inl (wq hw 70 rfl)) Via.refl e0 ha3 (g := (mkF m 4 #[sR o0, sI 0, sI p2, sI p3, sI 1, .unset, .unset] [(.ref o0)])) rfl rfl (hb hby d6_4)
  refine Go.via st1 ?_
  refine Vi (T1.setTop (mkF m 75 #[sR o0, sI 0, sI p2, sI p3, sI 1, .unset, .unset] [(.int p2), (.int 0), (.ref o0)])) (fun tZ kZ => ?_) ?_
  · refine XS.ifnullYes X1.here hx rfl (pc0 := 7) (pc' := 72) rfl (hb hby d6_7) rfl (by decide) (by decide) ?_
    refine XS.aloadN X1.here hx rfl (hb hby d6_72) rfl rfl ?_
    refine XS.iloadN X1.here hx rfl (hb hby d6_73) rfl ?_
    refine XS.iloadN X1.here hx rfl (hb hby d6_74) rfl ?_
    exact kZ
  obtain ⟨cq2, kq2, q2a, q2b, q2c⟩ := isOf hZ e1 ha0
  obtain ⟨_, _, ⟨T2, L2, k2, n2⟩, -, X2, ⟨Lc2, hQ2, l2, y2, z2⟩, st2⟩ := X1.virtualBack hx (y := y7) (z := y7) hown (wz hZ hw 72 rfl) (wz hZ hw 73 rfl) (notFace_of_selects (args := #[]) (wz hZ hw 75 rfl)) (wz hZ hw 75 rfl) (wz hZ hw 74 rfl) (by decide) (backOf (W := 0) (rm7 l Z a0 hw [] o0 p2 lA lF hA hF bA wA nW wF h0 n0 Z0 ha0 ha4 ha18 ha5 ha19 ha10 ha15 ha16 hB1a hB2a hTa) hZ (wq hw 76 rfl) (wq hw 2 rfl) (by decide) (by decide)) q2a q2c (g := (mkF m 75 #[sR o0, sI 0, sI p2, sI p3, sI 1, .unset, .unset] [(.int p2), (.int 0), (.ref o0)])) rfl (by rw [hml]; rfl) (Steps.refl _) (argsL := [(.int 0), (.int p2)]) (rest := []) (lenOf pd_5 rfl) rfl (leW rfl) (hb hby d6_75) (fun _ _ => ⟨rfl, e1, (by decide : 0 + 0 ≤ _), (by decide : 0 + 0 ≤ _)⟩)
  dsimp only [Pt.U, Pt.locs, Pt.cells, Pt.slots] at X2 l2 y2 z2 st2 hQ2
  subst l2 y2 z2
  obtain ⟨rfl, N2q, e2⟩ := hQ2
  have N2 := Fr.app N0 N2q
  refine Go.via (fun t k => st2.trans k) ?_
  refine Vi (T2.setTop (mkF m 83 #[sR o0, sI 0, sI p2, sI p3, sI 1, sI (f7 o0 p2 lA lF hA hF bA wA nW wF), .unset] [(.int p3), (.int 0), (.ref o0)])) (fun tZ kZ => ?_) ?_
  · refine XS.istore X2.here hx rfl (hb hby d6_78) rfl (l' := #[sR o0, sI 0, sI p2, sI p3, sI 1, sI (f7 o0 p2 lA lF hA hF bA wA nW wF), .unset]) rfl ?_
    refine XS.aloadN X2.here hx rfl (hb hby d6_80) rfl rfl ?_
    refine XS.iloadN X2.here hx rfl (hb hby d6_81) rfl ?_
    refine XS.iloadN X2.here hx rfl (hb hby d6_82) rfl ?_
    exact kZ
  obtain ⟨cq3, kq3, q3a, q3b, q3c⟩ := isOf hZ e2 ha0
  obtain ⟨_, _, ⟨T3, L3, k3, n3⟩, -, X3, ⟨Lc3, hQ3, l3, y3, z3⟩, st3⟩ := X2.virtualBack hx (y := y9) (z := y9) hown (wz hZ hw 81 rfl) (wz hZ hw 82 rfl) (notFace_of_selects (args := #[]) (wz hZ hw 84 rfl)) (wz hZ hw 84 rfl) (wz hZ hw 83 rfl) (by decide) (backOf (W := 0) (rm9 l Z a0 hw [] o0 p3 lA lF hA hF bA wA nW wF h0 n0 Z0 ha0 ha4 ha18 ha5 ha19 ha10 ha15 ha16 hB1b hB2b hTb) hZ (wq hw 85 rfl) (wq hw 2 rfl) (by decide) (by decide)) q3a q3c (g := (mkF m 83 #[sR o0, sI 0, sI p2, sI p3, sI 1, sI (f7 o0 p2 lA lF hA hF bA wA nW wF), .unset] [(.int p3), (.int 0), (.ref o0)])) rfl (by rw [hml]; rfl) (Steps.refl _) (argsL := [(.int 0), (.int p3)]) (rest := []) (lenOf pd_5 rfl) rfl (leW rfl) (hb hby d6_83) (fun _ _ => ⟨rfl, e2, (by decide : 0 + 0 + 0 ≤ _), (by decide : 0 + 0 + 0 ≤ _)⟩)
  dsimp only [Pt.U, Pt.locs, Pt.cells, Pt.slots] at X3 l3 y3 z3 st3 hQ3
  subst l3 y3 z3
  obtain ⟨rfl, N3q, e3⟩ := hQ3
  have N3 := Fr.app N2 N3q
  refine Go.via (fun t k => st3.trans k) ?_
  refine Vi (T3.setTop (mkF m 90 #[sR o0, sI 0, sI p2, sI p3, sI 1, sI (f7 o0 p2 lA lF hA hF bA wA nW wF), sI (f9 o0 p3 lA lF hA hF bA wA nW wF)] [(.int (f7 o0 p2 lA lF hA hF bA wA nW wF))])) (fun tZ kZ => ?_) ?_
  · refine XS.istore X3.here hx rfl (hb hby d6_86) rfl (l' := #[sR o0, sI 0, sI p2, sI p3, sI 1, sI (f7 o0 p2 lA lF hA hF bA wA nW wF), sI (f9 o0 p3 lA lF hA hF bA wA nW wF)]) rfl ?_
    refine XS.iload X3.here hx rfl (hb hby d6_88) rfl ?_
    exact kZ
  by_cases hc90 : (f7 o0 p2 lA lF hA hF bA wA nW wF) < (0 : Int32)
  · refine Vi (T3.setTop (mkF m 100 #[sR o0, sI 0, sI p2, sI p3, sI 1, sI (f7 o0 p2 lA lF hA hF bA wA nW wF), sI (f9 o0 p3 lA lF hA hF bA wA nW wF)] [])) (fun tZ kZ => ?_) ?_
    · show Steps p.tables e below (T3.setTop (mkF m 90 #[sR o0, sI 0, sI p2, sI p3, sI 1, sI (f7 o0 p2 lA lF hA hF bA wA nW wF), sI (f9 o0 p3 lA lF hA hF bA wA nW wF)] [(.int (f7 o0 p2 lA lF hA hF bA wA nW wF))])) _
      refine XS.ifYes X3.here hx rfl (pc0 := 90) (pc' := 100) rfl (hb hby d6_90) rfl ((if0 _ _).trans (tlt hc90).1) (by decide) (by decide) ?_
      exact kZ
    refine Vi (T3.setTop (mkF m 103 #[sR o0, sI 0, sI p2, sI p3, sI 1, sI (f7 o0 p2 lA lF hA hF bA wA nW wF), sI (f9 o0 p3 lA lF hA hF bA wA nW wF)] [(.ref o0), (.int 0), (.ref o0)])) (fun tZ kZ => ?_) ?_
    · refine XS.aloadN X3.here hx rfl (hb hby d6_100) rfl rfl ?_
      refine XS.iloadN X3.here hx rfl (hb hby d6_101) rfl ?_
      refine XS.aloadN X3.here hx rfl (hb hby d6_102) rfl rfl ?_
      exact kZ
    obtain ⟨T4, X4, e4, st4⟩ := getF X3 hx hZ hown (host := "") (Or.inl (wq hw 36 rfl)) Via.refl e3 ha4 (g := (mkF m 103 #[sR o0, sI 0, sI p2, sI p3, sI 1, sI (f7 o0 p2 lA lF hA hF bA wA nW wF), sI (f9 o0 p3 lA lF hA hF bA wA nW wF)] [(.ref o0), (.int 0), (.ref o0)])) rfl rfl (hb hby d6_103)
    refine Go.via st4 ?_
    refine Vi (T4.setTop (mkF m 109 #[sR o0, sI 0, sI p2, sI p3, sI 1, sI (f7 o0 p2 lA lF hA hF bA wA nW wF), sI (f9 o0 p3 lA lF hA hF bA wA nW wF)] [(.ref o0), (.int (lF (0 : Int32).toNatClampNeg)), (.int 0), (.ref o0)])) (fun tZ kZ => ?_) ?_
    · refine XS.iloadN X4.here hx rfl (hb hby d6_106) rfl ?_
      refine AV.iaload ha18 X4 hx hZ e4 (j := (0 : Int32)) (by decide) (hb hby d6_107) ?_
      refine XS.aloadN X4.here hx rfl (hb hby d6_108) rfl rfl ?_
      exact kZ
    obtain ⟨T5, X5, e5, st5⟩ := getF X4 hx hZ hown (host := "") (Or.inl (wq hw 36 rfl)) Via.refl e4 ha4 (g := (mkF m 109 #[sR o0, sI 0, sI p2, sI p3, sI 1, sI (f7 o0 p2 lA lF hA hF bA wA nW wF), sI (f9 o0 p3 lA lF hA hF bA wA nW wF)] [(.ref o0), (.int (lF (0 : Int32).toNatClampNeg)), (.int 0), (.ref o0)])) rfl rfl (hb hby d6_109)
    refine Go.via st5 ?_
    refine Vi (T5.setTop (mkF m 117 #[sR o0, sI 0, sI p2, sI p3, sI 1, sI (f7 o0 p2 lA lF hA hF bA wA nW wF), sI (f9 o0 p3 lA lF hA hF bA wA nW wF)] [(.int 0), (.int ((lF (0 : Int32).toNatClampNeg) - (1 : Int32))), (.int (lF (0 : Int32).toNatClampNeg)), (.int 0), (.ref o0)])) (fun tZ kZ => ?_) ?_
    · refine XS.iloadN X5.here hx rfl (hb hby d6_112) rfl ?_
      refine AV.iaload ha18 X5 hx hZ e5 (j := (0 : Int32)) (by decide) (hb hby d6_113) ?_
      refine XS.iconst X5.here hx rfl (hb hby d6_114) ?_
      refine XS.isub X5.here hx rfl (hb hby d6_115) rfl ?_
      refine XS.iconst X5.here hx rfl (hb hby d6_116) ?_
      exact kZ
    obtain ⟨cq6, q6, q6'⟩ := ha0.cell
    obtain ⟨_, _, ⟨T6, L6, k6, n6⟩, -, X6, ⟨Lc6, hQ6, l6, y6, z6⟩, st6⟩ := X5.privateBack hx (y := y11) hown (wz hZ hw 89 rfl) (wz hZ hw 90 rfl) (mvT hZ (own_selp (y := y11) (wq hw 90 rfl) (wq hw 91 rfl) (wq hw 1 rfl) (by decide))) (Cond.privateMethod_at (mvP hZ (wq hw 91 rfl) (args := #[]))) (wz hZ hw 92 rfl) (by decide) (backOf (W := 0) (rm11 l Z a0 hw [] o0 (lF (0 : Int32).toNatClampNeg) ((lF (0 : Int32).toNatClampNeg) - (1 : Int32)) (0 : Int32) tl cc lA hA sA cA chA icA bA tvA twA tsA tzA sF lF hF tvF twF tsF tzF h0 n0 Z0 ha0 ha1 ha2 ha3 ha4 ha5 ha6 ha7 ha8 ha9 ha10 ha11 ha12 ha13 ha14 ha17 ha18 ha19 ha22 ha23 ha24 ha25 ha26 ha27 ha28 ha29 ha32 ha33 ha34 ha35 hne_o0_sA hne_o0_lA hne_o0_hA hne_o0_tvA hne_o0_twA hne_o0_tsA hne_o0_tzA hne_sA_lA hne_sA_hA hne_sA_tvA hne_sA_twA hne_sA_tsA hne_sA_tzA hne_lA_hA hne_lA_tvA hne_lA_twA hne_lA_tsA hne_lA_tzA hne_hA_tvA hne_hA_twA hne_hA_tsA hne_hA_tzA hne_tvA_twA hne_tvA_tsA hne_tvA_tzA hne_twA_tsA hne_twA_tzA hne_tsA_tzA htl htb) hZ (wq hw 92 rfl) (wq hw 2 rfl) (by decide) (by decide)) (g := (mkF m 117 #[sR o0, sI 0, sI p2, sI p3, sI 1, sI (f7 o0 p2 lA lF hA hF bA wA nW wF), sI (f9 o0 p3 lA lF hA hF bA wA nW wF)] [(.int 0), (.int ((lF (0 : Int32).toNatClampNeg) - (1 : Int32))), (.int (lF (0 : Int32).toNatClampNeg)), (.int 0), (.ref o0)])) rfl (by rw [hml]; rfl) (Steps.refl _) (a := o0) (by rw [e5]; exact q6) q6' (argsL := [(.int 0), (.int (lF (0 : Int32).toNatClampNeg)), (.int ((lF (0 : Int32).toNatClampNeg) - (1 : Int32))), (.int 0)]) (rest := []) (lenOf pd_6 rfl) rfl (leW rfl) (hb hby d6_117) (fun _ _ => ⟨rfl, e5, (by decide : 0 + 0 + 0 + 0 ≤ _), (by decide : 0 + 0 + 0 + 0 ≤ _)⟩)
    dsimp only [Pt.U, Pt.locs, Pt.cells, Pt.slots] at X6 l6 y6 z6 st6 hQ6
    subst l6 y6 z6
    obtain ⟨rfl, N6q, Kq6, f6_0, f6_1, f6_2, f6_3, f6_4, f6_5, f6_6, f6_7, f6_8, f6_9, f6_10, f6_11, f6_12, f6_13, f6_14, f6_15, f6_16, f6_17, f6_18, f6_19, f6_20, f6_21⟩ := hQ6
    have c7_15 := ha15.keep Kq6 (ninS hne_bA_tvA (ninS hne_bA_twA (ninS hne_bA_tsA (ninS hne_bA_tzA (ninS (Ne.symm hne_o0_bA) (ninS hne_bA_lA (ninS hne_bA_hA (ninS hne_bA_sA nin0))))))))
    have c7_16 := ha16.keep Kq6 (ninS hne_wA_tvA (ninS hne_wA_twA (ninS hne_wA_tsA (ninS hne_wA_tzA (ninS (Ne.symm hne_o0_wA) (ninS hne_wA_lA (ninS hne_wA_hA (ninS hne_wA_sA nin0))))))))
    have c7_20 := ha20.keep Kq6 (ninS hne_chA_tvA (ninS hne_chA_twA (ninS hne_chA_tsA (ninS hne_chA_tzA (ninS (Ne.symm hne_o0_chA) (ninS (Ne.symm hne_lA_chA) (ninS (Ne.symm hne_hA_chA) (ninS (Ne.symm hne_sA_chA) nin0))))))))
    have c7_21 := ha21.keep Kq6 (ninS hne_icA_tvA (ninS hne_icA_twA (ninS hne_icA_tsA (ninS hne_icA_tzA (ninS (Ne.symm hne_o0_icA) (ninS (Ne.symm hne_lA_icA) (ninS (Ne.symm hne_hA_icA) (ninS (Ne.symm hne_sA_icA) nin0))))))))
    have K6 : Keep h0 T6.heap [tvA, twA, tsA, tzA, o0, lA, hA, sA, icA, chA] := (Keep.refl h0 [tvA, twA, tsA, tzA, o0, lA, hA, sA, icA, chA]).trans Kq6 (allS (Or.inl (by simp)) (allS (Or.inl (by simp)) (allS (Or.inl (by simp)) (allS (Or.inl (by simp)) (allS (Or.inl (by simp)) (allS (Or.inl (by simp)) (allS (Or.inl (by simp)) (allS (Or.inl (by simp)) all0))))))))
    have Z6 := Nat.le_trans Z0 Kq6.1
    have N6 := Fr.app N3 N6q
    refine Go.via (fun t k => st6.trans k) ?_
    refine Vi (T6.setTop (mkF m 122 #[sR o0, sI 0, sI p2, sI p3, sI 1, sI (f7 o0 p2 lA lF hA hF bA wA nW wF), sI (f9 o0 p3 lA lF hA hF bA wA nW wF)] [(.int 0), (.ref o0)])) (fun tZ kZ => ?_) ?_
    · refine XS.aloadN X6.here hx rfl (hb hby d6_120) rfl rfl ?_
      refine XS.iloadN X6.here hx rfl (hb hby d6_121) rfl ?_
      exact kZ
    by_cases hic : (icF (0 : Int32).toNatClampNeg) = 0
    · show Go p e below _ (T6.setTop (mkF m 122 #[sR o0, sI 0, sI p2, sI p3, sI 1, sI (f7 o0 p2 lA lF hA hF bA wA nW wF), sI (f9 o0 p3 lA lF hA hF bA wA nW wF)] [(.int 0), (.ref o0)]))
      obtain ⟨cq8, q8, q8'⟩ := f6_0.cell
      obtain ⟨_, _, ⟨T8, L8, k8, n8⟩, -, X8, ⟨Lc8, hQ8, l8, y8, z8⟩, st8⟩ := X6.privateBack hx (y := y13) hown (wz hZ hw 98 rfl) (wz hZ hw 99 rfl) (mvT hZ (own_selp (y := y13) (wq hw 99 rfl) (wq hw 100 rfl) (wq hw 1 rfl) (by decide))) (Cond.privateMethod_at (mvP hZ (wq hw 100 rfl) (args := #[]))) (wz hZ hw 101 rfl) (by decide) (backOf (W := 0) (rm13n l Z a0 hw [] o0 (tl + (1 : Int32)) cc lA hA sA cA chA icA bA tvA twA tsA tzA chF icF T6.heap n0 Z6 f6_0 f6_1 f6_2 f6_3 f6_4 f6_5 f6_6 f6_7 f6_8 f6_9 f6_10 f6_11 f6_12 f6_13 f6_14 c7_20 c7_21 ha26 ha30 ha31 hne_o0_chA hne_o0_icA hne_chA_icA hic (hcc hic)) hZ (wq hw 101 rfl) (wq hw 2 rfl) (by decide) (by decide)) (g := (mkF m 122 #[sR o0, sI 0, sI p2, sI p3, sI 1, sI (f7 o0 p2 lA lF hA hF bA wA nW wF), sI (f9 o0 p3 lA lF hA hF bA wA nW wF)] [(.int 0), (.ref o0)])) rfl (by rw [hml]; rfl) (Steps.refl _) (a := o0) q8 q8' (argsL := [(.int 0)]) (rest := []) (lenOf pd_8 rfl) rfl (leW rfl) (hb hby d6_122) (fun _ _ => ⟨rfl, rfl, (by decide : 0 + 0 + 0 + 0 + 0 ≤ _), (by decide : 0 + 0 + 0 + 0 + 0 ≤ _)⟩)
      dsimp only [Pt.U, Pt.locs, Pt.cells, Pt.slots] at X8 l8 y8 z8 st8 hQ8
      subst l8 y8 z8
      obtain ⟨rfl, N8q, Kq8, f8_0, f8_1, f8_2, f8_3, f8_4, f8_5, f8_6, f8_7, f8_8, f8_9, f8_10, f8_11, f8_12, f8_13, f8_14, f8_15, f8_16⟩ := hQ8
      have c9_15 := c7_15.keep Kq8 (ninS hne_bA_icA (ninS (Ne.symm hne_o0_bA) (ninS hne_bA_chA nin0)))
      have c9_16 := c7_16.keep Kq8 (ninS hne_wA_icA (ninS (Ne.symm hne_o0_wA) (ninS hne_wA_chA nin0)))
      have c9_17 := f6_15.keep Kq8 (ninS hne_sA_icA (ninS (Ne.symm hne_o0_sA) (ninS hne_sA_chA nin0)))
      have c9_18 := f6_16.keep Kq8 (ninS hne_lA_icA (ninS (Ne.symm hne_o0_lA) (ninS hne_lA_chA nin0)))
      have c9_19 := f6_17.keep Kq8 (ninS hne_hA_icA (ninS (Ne.symm hne_o0_hA) (ninS hne_hA_chA nin0)))
      have c9_22 := f6_18.keep Kq8 (ninS (Ne.symm hne_icA_tvA) (ninS (Ne.symm hne_o0_tvA) (ninS (Ne.symm hne_chA_tvA) nin0)))
      have c9_23 := f6_19.keep Kq8 (ninS (Ne.symm hne_icA_twA) (ninS (Ne.symm hne_o0_twA) (ninS (Ne.symm hne_chA_twA) nin0)))
      have c9_24 := f6_20.keep Kq8 (ninS (Ne.symm hne_icA_tsA) (ninS (Ne.symm hne_o0_tsA) (ninS (Ne.symm hne_chA_tsA) nin0)))
      have c9_25 := f6_21.keep Kq8 (ninS (Ne.symm hne_icA_tzA) (ninS (Ne.symm hne_o0_tzA) (ninS (Ne.symm hne_chA_tzA) nin0)))
      have K8 : Keep h0 T8.heap [tvA, twA, tsA, tzA, o0, lA, hA, sA, icA, chA] := K6.trans Kq8 (allS (Or.inl (by simp)) (allS (Or.inl (by simp)) (allS (Or.inl (by simp)) all0)))
      have Z8 := Nat.le_trans Z6 Kq8.1
      have N8 := Fr.app N6 N8q
      refine Go.via (fun t k => st8.trans k) ?_
      refine Vi (T8.setTop (mkF m 178 #[sR o0, sI 0, sI p2, sI p3, sI 0, sI (f7 o0 p2 lA lF hA hF bA wA nW wF), sI (f9 o0 p3 lA lF hA hF bA wA nW wF)] [(.int 0)])) (fun tZ kZ => ?_) ?_
      · refine XS.iconst X8.here hx rfl (hb hby d6_125) ?_
        refine XS.istore X8.here hx rfl (hb hby d6_126) rfl (l' := #[sR o0, sI 0, sI p2, sI p3, sI 0, sI (f7 o0 p2 lA lF hA hF bA wA nW wF), sI (f9 o0 p3 lA lF hA hF bA wA nW wF)]) rfl ?_
        refine XS.goto X8.here hx rfl (pc0 := 128) (pc' := 176) rfl (hb hby d6_128) (by decide) (by decide) ?_
        refine XS.iload X8.here hx rfl (hb hby d6_176) rfl ?_
        exact kZ
      refine Go.retN X8 hx Bd.notSynchronized (t := .boolean) Bd.returns (by simp) (hb hby d6_178) (by decide) (by decide) ?_
      exact ⟨((up lF (0 : Int32).toNatClampNeg (lF (0 : Int32).toNatClampNeg))), ((up hF (0 : Int32).toNatClampNeg ((lF (0 : Int32).toNatClampNeg) - (1 : Int32)))), ((up sF (0 : Int32).toNatClampNeg (0 : Int32))), ((up chF cc.toNatClampNeg (0 : Int32))), ((up icF (0 : Int32).toNatClampNeg (1 : Int32))), ((up tvF tl.toNatClampNeg (0 : Int32))), ((up twF tl.toNatClampNeg (-1 : Int32))), ((up tsF tl.toNatClampNeg ((((lF (0 : Int32).toNatClampNeg).toInt64) <<< ((32 : Int32) &&& 0x3f).toInt64) ||| (((hF (0 : Int32).toNatClampNeg).toInt64) &&& (4294967295 : Int64))))), ((up tzF tl.toNatClampNeg (sF (0 : Int32).toNatClampNeg))), ((tl + (1 : Int32))), ((cc + (1 : Int32))), _, rfl, N8, K8, f8_0, f8_1, f8_2, f8_3, f8_4, f8_5, f8_6, f8_7, f8_8, f8_9, f8_10, f8_11, f8_12, f8_13, f8_14, c9_15, c9_16, c9_17, c9_18, c9_19, f8_15, f8_16, c9_22, c9_23, c9_24, c9_25, own_E6 (own_k6 hI rfl rfl (Or.inl ⟨own_up, own_up, Or.inl hc90⟩)) (Or.inr rfl) own_note⟩
    · show Go p e below _ (T6.setTop (mkF m 122 #[sR o0, sI 0, sI p2, sI p3, sI 1, sI (f7 o0 p2 lA lF hA hF bA wA nW wF), sI (f9 o0 p3 lA lF hA hF bA wA nW wF)] [(.int 0), (.ref o0)]))
      obtain ⟨cq10, q10, q10'⟩ := f6_0.cell
      obtain ⟨_, _, ⟨T10, L10, k10, n10⟩, -, X10, ⟨Lc10, hQ10, l10, y10, z10⟩, st10⟩ := X6.privateBack hx (y := y13) hown (wz hZ hw 98 rfl) (wz hZ hw 99 rfl) (mvT hZ (own_selp (y := y13) (wq hw 99 rfl) (wq hw 100 rfl) (wq hw 1 rfl) (by decide))) (Cond.privateMethod_at (mvP hZ (wq hw 100 rfl) (args := #[]))) (wz hZ hw 101 rfl) (by decide) (backOf (W := 0) (rm13k l Z a0 hw [] o0 icA icF T6.heap n0 Z6 f6_0 f6_9 c7_21 hic) hZ (wq hw 101 rfl) (wq hw 2 rfl) (by decide) (by decide)) (g := (mkF m 122 #[sR o0, sI 0, sI p2, sI p3, sI 1, sI (f7 o0 p2 lA lF hA hF bA wA nW wF), sI (f9 o0 p3 lA lF hA hF bA wA nW wF)] [(.int 0), (.ref o0)])) rfl (by rw [hml]; rfl) (Steps.refl _) (a := o0) q10 q10' (argsL := [(.int 0)]) (rest := []) (lenOf pd_8 rfl) rfl (leW rfl) (hb hby d6_122) (fun _ _ => ⟨rfl, rfl, (by decide : 0 + 0 + 0 + 0 + 0 ≤ _), (by decide : 0 + 0 + 0 + 0 + 0 ≤ _)⟩)
      dsimp only [Pt.U, Pt.locs, Pt.cells, Pt.slots] at X10 l10 y10 z10 st10 hQ10
      subst l10 y10 z10
      obtain ⟨rfl, N10q, e10⟩ := hQ10
      have N10 := Fr.app N6 N10q
      refine Go.via (fun t k => st10.trans k) ?_
      refine Vi (T10.setTop (mkF m 178 #[sR o0, sI 0, sI p2, sI p3, sI 0, sI (f7 o0 p2 lA lF hA hF bA wA nW wF), sI (f9 o0 p3 lA lF hA hF bA wA nW wF)] [(.int 0)])) (fun tZ kZ => ?_) ?_
      · refine XS.iconst X10.here hx rfl (hb hby d6_125) ?_
        refine XS.istore X10.here hx rfl (hb hby d6_126) rfl (l' := #[sR o0, sI 0, sI p2, sI p3, sI 0, sI (f7 o0 p2 lA lF hA hF bA wA nW wF), sI (f9 o0 p3 lA lF hA hF bA wA nW wF)]) rfl ?_
        refine XS.goto X10.here hx rfl (pc0 := 128) (pc' := 176) rfl (hb hby d6_128) (by decide) (by decide) ?_
        refine XS.iload X10.here hx rfl (hb hby d6_176) rfl ?_
        exact kZ
      refine Go.retN X10 hx Bd.notSynchronized (t := .boolean) Bd.returns (by simp) (hb hby d6_178) (by decide) (by decide) ?_
      rw [e10]
      exact ⟨((up lF (0 : Int32).toNatClampNeg (lF (0 : Int32).toNatClampNeg))), ((up hF (0 : Int32).toNatClampNeg ((lF (0 : Int32).toNatClampNeg) - (1 : Int32)))), ((up sF (0 : Int32).toNatClampNeg (0 : Int32))), (chF), (icF), ((up tvF tl.toNatClampNeg (0 : Int32))), ((up twF tl.toNatClampNeg (-1 : Int32))), ((up tsF tl.toNatClampNeg ((((lF (0 : Int32).toNatClampNeg).toInt64) <<< ((32 : Int32) &&& 0x3f).toInt64) ||| (((hF (0 : Int32).toNatClampNeg).toInt64) &&& (4294967295 : Int64))))), ((up tzF tl.toNatClampNeg (sF (0 : Int32).toNatClampNeg))), ((tl + (1 : Int32))), (cc), _, rfl, N10, K6, f6_0, f6_1, f6_2, f6_3, f6_4, f6_5, f6_6, f6_7, f6_8, f6_9, f6_10, f6_11, f6_12, f6_13, f6_14, c7_15, c7_16, f6_15, f6_16, f6_17, c7_20, c7_21, f6_18, f6_19, f6_20, f6_21, own_E6 (own_k6 hI rfl rfl (Or.inl ⟨own_up, own_up, Or.inl hc90⟩)) (Or.inr rfl) (fun h => absurd h hic)⟩
  · refine Vi (T3.setTop (mkF m 93 #[sR o0, sI 0, sI p2, sI p3, sI 1, sI (f7 o0 p2 lA lF hA hF bA wA nW wF), sI (f9 o0 p3 lA lF hA hF bA wA nW wF)] [])) (fun tZ kZ => ?_) ?_
    · show Steps p.tables e below (T3.setTop (mkF m 90 #[sR o0, sI 0, sI p2, sI p3, sI 1, sI (f7 o0 p2 lA lF hA hF bA wA nW wF), sI (f9 o0 p3 lA lF hA hF bA wA nW wF)] [(.int (f7 o0 p2 lA lF hA hF bA wA nW wF))])) _
      refine XS.ifNo X3.here hx rfl (hb hby d6_90) rfl ((if0 _ _).trans (flt hc90).1) ?_
      exact kZ
    refine Vi (T3.setTop (mkF m 97 #[sR o0, sI 0, sI p2, sI p3, sI 1, sI (f7 o0 p2 lA lF hA hF bA wA nW wF), sI (f9 o0 p3 lA lF hA hF bA wA nW wF)] [(.int (f7 o0 p2 lA lF hA hF bA wA nW wF)), (.int (f9 o0 p3 lA lF hA hF bA wA nW wF))])) (fun tZ kZ => ?_) ?_
    · refine XS.iload X3.here hx rfl (hb hby d6_93) rfl ?_
      refine XS.iload X3.here hx rfl (hb hby d6_95) rfl ?_
      exact kZ
    by_cases hc97 : (f9 o0 p3 lA lF hA hF bA wA nW wF) < (f7 o0 p2 lA lF hA hF bA wA nW wF)
    · refine Vi (T3.setTop (mkF m 100 #[sR o0, sI 0, sI p2, sI p3, sI 1, sI (f7 o0 p2 lA lF hA hF bA wA nW wF), sI (f9 o0 p3 lA lF hA hF bA wA nW wF)] [])) (fun tZ kZ => ?_) ?_
      · show Steps p.tables e below (T3.setTop (mkF m 97 #[sR o0, sI 0, sI p2, sI p3, sI 1, sI (f7 o0 p2 lA lF hA hF bA wA nW wF), sI (f9 o0 p3 lA lF hA hF bA wA nW wF)] [(.int (f7 o0 p2 lA lF hA hF bA wA nW wF)), (.int (f9 o0 p3 lA lF hA hF bA wA nW wF))])) _
        refine XS.icmpNo X3.here hx rfl (hb hby d6_97) rfl (tlt hc97).2.1 ?_
        exact kZ
      refine Vi (T3.setTop (mkF m 103 #[sR o0, sI 0, sI p2, sI p3, sI 1, sI (f7 o0 p2 lA lF hA hF bA wA nW wF), sI (f9 o0 p3 lA lF hA hF bA wA nW wF)] [(.ref o0), (.int 0), (.ref o0)])) (fun tZ kZ => ?_) ?_
      · refine XS.aloadN X3.here hx rfl (hb hby d6_100) rfl rfl ?_
        refine XS.iloadN X3.here hx rfl (hb hby d6_101) rfl ?_
        refine XS.aloadN X3.here hx rfl (hb hby d6_102) rfl rfl ?_
        exact kZ
      obtain ⟨T11, X11, e11, st11⟩ := getF X3 hx hZ hown (host := "") (Or.inl (wq hw 36 rfl)) Via.refl e3 ha4 (g := (mkF m 103 #[sR o0, sI 0, sI p2, sI p3, sI 1, sI (f7 o0 p2 lA lF hA hF bA wA nW wF), sI (f9 o0 p3 lA lF hA hF bA wA nW wF)] [(.ref o0), (.int 0), (.ref o0)])) rfl rfl (hb hby d6_103)
      refine Go.via st11 ?_
      refine Vi (T11.setTop (mkF m 109 #[sR o0, sI 0, sI p2, sI p3, sI 1, sI (f7 o0 p2 lA lF hA hF bA wA nW wF), sI (f9 o0 p3 lA lF hA hF bA wA nW wF)] [(.ref o0), (.int (lF (0 : Int32).toNatClampNeg)), (.int 0), (.ref o0)])) (fun tZ kZ => ?_) ?_
      · refine XS.iloadN X11.here hx rfl (hb hby d6_106) rfl ?_
        refine AV.iaload ha18 X11 hx hZ e11 (j := (0 : Int32)) (by decide) (hb hby d6_107) ?_
        refine XS.aloadN X11.here hx rfl (hb hby d6_108) rfl rfl ?_
        exact kZ
      obtain ⟨T12, X12, e12, st12⟩ := getF X11 hx hZ hown (host := "") (Or.inl (wq hw 36 rfl)) Via.refl e11 ha4 (g := (mkF m 109 #[sR o0, sI 0, sI p2, sI p3, sI 1, sI (f7 o0 p2 lA lF hA hF bA wA nW wF), sI (f9 o0 p3 lA lF hA hF bA wA nW wF)] [(.ref o0), (.int (lF (0 : Int32).toNatClampNeg)), (.int 0), (.ref o0)])) rfl rfl (hb hby d6_109)
      refine Go.via st12 ?_
      refine Vi (T12.setTop (mkF m 117 #[sR o0, sI 0, sI p2, sI p3, sI 1, sI (f7 o0 p2 lA lF hA hF bA wA nW wF), sI (f9 o0 p3 lA lF hA hF bA wA nW wF)] [(.int 0), (.int ((lF (0 : Int32).toNatClampNeg) - (1 : Int32))), (.int (lF (0 : Int32).toNatClampNeg)), (.int 0), (.ref o0)])) (fun tZ kZ => ?_) ?_
      · refine XS.iloadN X12.here hx rfl (hb hby d6_112) rfl ?_
        refine AV.iaload ha18 X12 hx hZ e12 (j := (0 : Int32)) (by decide) (hb hby d6_113) ?_
        refine XS.iconst X12.here hx rfl (hb hby d6_114) ?_
        refine XS.isub X12.here hx rfl (hb hby d6_115) rfl ?_
        refine XS.iconst X12.here hx rfl (hb hby d6_116) ?_
        exact kZ
      obtain ⟨cq13, q13, q13'⟩ := ha0.cell
      obtain ⟨_, _, ⟨T13, L13, k13, n13⟩, -, X13, ⟨Lc13, hQ13, l13, y13, z13⟩, st13⟩ := X12.privateBack hx (y := y11) hown (wz hZ hw 89 rfl) (wz hZ hw 90 rfl) (mvT hZ (own_selp (y := y11) (wq hw 90 rfl) (wq hw 91 rfl) (wq hw 1 rfl) (by decide))) (Cond.privateMethod_at (mvP hZ (wq hw 91 rfl) (args := #[]))) (wz hZ hw 92 rfl) (by decide) (backOf (W := 0) (rm11 l Z a0 hw [] o0 (lF (0 : Int32).toNatClampNeg) ((lF (0 : Int32).toNatClampNeg) - (1 : Int32)) (0 : Int32) tl cc lA hA sA cA chA icA bA tvA twA tsA tzA sF lF hF tvF twF tsF tzF h0 n0 Z0 ha0 ha1 ha2 ha3 ha4 ha5 ha6 ha7 ha8 ha9 ha10 ha11 ha12 ha13 ha14 ha17 ha18 ha19 ha22 ha23 ha24 ha25 ha26 ha27 ha28 ha29 ha32 ha33 ha34 ha35 hne_o0_sA hne_o0_lA hne_o0_hA hne_o0_tvA hne_o0_twA hne_o0_tsA hne_o0_tzA hne_sA_lA hne_sA_hA hne_sA_tvA hne_sA_twA hne_sA_tsA hne_sA_tzA hne_lA_hA hne_lA_tvA hne_lA_twA hne_lA_tsA hne_lA_tzA hne_hA_tvA hne_hA_twA hne_hA_tsA hne_hA_tzA hne_tvA_twA hne_tvA_tsA hne_tvA_tzA hne_twA_tsA hne_twA_tzA hne_tsA_tzA htl htb) hZ (wq hw 92 rfl) (wq hw 2 rfl) (by decide) (by decide)) (g := (mkF m 117 #[sR o0, sI 0, sI p2, sI p3, sI 1, sI (f7 o0 p2 lA lF hA hF bA wA nW wF), sI (f9 o0 p3 lA lF hA hF bA wA nW wF)] [(.int 0), (.int ((lF (0 : Int32).toNatClampNeg) - (1 : Int32))), (.int (lF (0 : Int32).toNatClampNeg)), (.int 0), (.ref o0)])) rfl (by rw [hml]; rfl) (Steps.refl _) (a := o0) (by rw [e12]; exact q13) q13' (argsL := [(.int 0), (.int (lF (0 : Int32).toNatClampNeg)), (.int ((lF (0 : Int32).toNatClampNeg) - (1 : Int32))), (.int 0)]) (rest := []) (lenOf pd_6 rfl) rfl (leW rfl) (hb hby d6_117) (fun _ _ => ⟨rfl, e12, (by decide : 0 + 0 + 0 + 0 ≤ _), (by decide : 0 + 0 + 0 + 0 ≤ _)⟩)
      dsimp only [Pt.U, Pt.locs, Pt.cells, Pt.slots] at X13 l13 y13 z13 st13 hQ13
      subst l13 y13 z13
      obtain ⟨rfl, N13q, Kq13, f13_0, f13_1, f13_2, f13_3, f13_4, f13_5, f13_6, f13_7, f13_8, f13_9, f13_10, f13_11, f13_12, f13_13, f13_14, f13_15, f13_16, f13_17, f13_18, f13_19, f13_20, f13_21⟩ := hQ13
      have c14_15 := ha15.keep Kq13 (ninS hne_bA_tvA (ninS hne_bA_twA (ninS hne_bA_tsA (ninS hne_bA_tzA (ninS (Ne.symm hne_o0_bA) (ninS hne_bA_lA (ninS hne_bA_hA (ninS hne_bA_sA nin0))))))))
      have c14_16 := ha16.keep Kq13 (ninS hne_wA_tvA (ninS hne_wA_twA (ninS hne_wA_tsA (ninS hne_wA_tzA (ninS (Ne.symm hne_o0_wA) (ninS hne_wA_lA (ninS hne_wA_hA (ninS hne_wA_sA nin0))))))))
      have c14_20 := ha20.keep Kq13 (ninS hne_chA_tvA (ninS hne_chA_twA (ninS hne_chA_tsA (ninS hne_chA_tzA (ninS (Ne.symm hne_o0_chA) (ninS (Ne.symm hne_lA_chA) (ninS (Ne.symm hne_hA_chA) (ninS (Ne.symm hne_sA_chA) nin0))))))))
      have c14_21 := ha21.keep Kq13 (ninS hne_icA_tvA (ninS hne_icA_twA (ninS hne_icA_tsA (ninS hne_icA_tzA (ninS (Ne.symm hne_o0_icA) (ninS (Ne.symm hne_lA_icA) (ninS (Ne.symm hne_hA_icA) (ninS (Ne.symm hne_sA_icA) nin0))))))))
      have K13 : Keep h0 T13.heap [tvA, twA, tsA, tzA, o0, lA, hA, sA, icA, chA] := (Keep.refl h0 [tvA, twA, tsA, tzA, o0, lA, hA, sA, icA, chA]).trans Kq13 (allS (Or.inl (by simp)) (allS (Or.inl (by simp)) (allS (Or.inl (by simp)) (allS (Or.inl (by simp)) (allS (Or.inl (by simp)) (allS (Or.inl (by simp)) (allS (Or.inl (by simp)) (allS (Or.inl (by simp)) all0))))))))
      have Z13 := Nat.le_trans Z0 Kq13.1
      have N13 := Fr.app N3 N13q
      refine Go.via (fun t k => st13.trans k) ?_
      refine Vi (T13.setTop (mkF m 122 #[sR o0, sI 0, sI p2, sI p3, sI 1, sI (f7 o0 p2 lA lF hA hF bA wA nW wF), sI (f9 o0 p3 lA lF hA hF bA wA nW wF)] [(.int 0), (.ref o0)])) (fun tZ kZ => ?_) ?_
      · refine XS.aloadN X13.here hx rfl (hb hby d6_120) rfl rfl ?_
        refine XS.iloadN X13.here hx rfl (hb hby d6_121) rfl ?_
        exact kZ
      by_cases hic : (icF (0 : Int32).toNatClampNeg) = 0
      · show Go p e below _ (T13.setTop (mkF m 122 #[sR o0, sI 0, sI p2, sI p3, sI 1, sI (f7 o0 p2 lA lF hA hF bA wA nW wF), sI (f9 o0 p3 lA lF hA hF bA wA nW wF)] [(.int 0), (.ref o0)]))
        obtain ⟨cq15, q15, q15'⟩ := f13_0.cell
        obtain ⟨_, _, ⟨T15, L15, k15, n15⟩, -, X15, ⟨Lc15, hQ15, l15, y15, z15⟩, st15⟩ := X13.privateBack hx (y := y13) hown (wz hZ hw 98 rfl) (wz hZ hw 99 rfl) (mvT hZ (own_selp (y := y13) (wq hw 99 rfl) (wq hw 100 rfl) (wq hw 1 rfl) (by decide))) (Cond.privateMethod_at (mvP hZ (wq hw 100 rfl) (args := #[]))) (wz hZ hw 101 rfl) (by decide) (backOf (W := 0) (rm13n l Z a0 hw [] o0 (tl + (1 : Int32)) cc lA hA sA cA chA icA bA tvA twA tsA tzA chF icF T13.heap n0 Z13 f13_0 f13_1 f13_2 f13_3 f13_4 f13_5 f13_6 f13_7 f13_8 f13_9 f13_10 f13_11 f13_12 f13_13 f13_14 c14_20 c14_21 ha26 ha30 ha31 hne_o0_chA hne_o0_icA hne_chA_icA hic (hcc hic)) hZ (wq hw 101 rfl) (wq hw 2 rfl) (by decide) (by decide)) (g := (mkF m 122 #[sR o0, sI 0, sI p2, sI p3, sI 1, sI (f7 o0 p2 lA lF hA hF bA wA nW wF), sI (f9 o0 p3 lA lF hA hF bA wA nW wF)] [(.int 0), (.ref o0)])) rfl (by rw [hml]; rfl) (Steps.refl _) (a := o0) q15 q15' (argsL := [(.int 0)]) (rest := []) (lenOf pd_8 rfl) rfl (leW rfl) (hb hby d6_122) (fun _ _ => ⟨rfl, rfl, (by decide : 0 + 0 + 0 + 0 + 0 ≤ _), (by decide : 0 + 0 + 0 + 0 + 0 ≤ _)⟩)
        dsimp only [Pt.U, Pt.locs, Pt.cells, Pt.slots] at X15 l15 y15 z15 st15 hQ15
        subst l15 y15 z15
        obtain ⟨rfl, N15q, Kq15, f15_0, f15_1, f15_2, f15_3, f15_4, f15_5, f15_6, f15_7, f15_8, f15_9, f15_10, f15_11, f15_12, f15_13, f15_14, f15_15, f15_16⟩ := hQ15
        have c16_15 := c14_15.keep Kq15 (ninS hne_bA_icA (ninS (Ne.symm hne_o0_bA) (ninS hne_bA_chA nin0)))
        have c16_16 := c14_16.keep Kq15 (ninS hne_wA_icA (ninS (Ne.symm hne_o0_wA) (ninS hne_wA_chA nin0)))
        have c16_17 := f13_15.keep Kq15 (ninS hne_sA_icA (ninS (Ne.symm hne_o0_sA) (ninS hne_sA_chA nin0)))
        have c16_18 := f13_16.keep Kq15 (ninS hne_lA_icA (ninS (Ne.symm hne_o0_lA) (ninS hne_lA_chA nin0)))
        have c16_19 := f13_17.keep Kq15 (ninS hne_hA_icA (ninS (Ne.symm hne_o0_hA) (ninS hne_hA_chA nin0)))
        have c16_22 := f13_18.keep Kq15 (ninS (Ne.symm hne_icA_tvA) (ninS (Ne.symm hne_o0_tvA) (ninS (Ne.symm hne_chA_tvA) nin0)))
        have c16_23 := f13_19.keep Kq15 (ninS (Ne.symm hne_icA_twA) (ninS (Ne.symm hne_o0_twA) (ninS (Ne.symm hne_chA_twA) nin0)))
        have c16_24 := f13_20.keep Kq15 (ninS (Ne.symm hne_icA_tsA) (ninS (Ne.symm hne_o0_tsA) (ninS (Ne.symm hne_chA_tsA) nin0)))
        have c16_25 := f13_21.keep Kq15 (ninS (Ne.symm hne_icA_tzA) (ninS (Ne.symm hne_o0_tzA) (ninS (Ne.symm hne_chA_tzA) nin0)))
        have K15 : Keep h0 T15.heap [tvA, twA, tsA, tzA, o0, lA, hA, sA, icA, chA] := K13.trans Kq15 (allS (Or.inl (by simp)) (allS (Or.inl (by simp)) (allS (Or.inl (by simp)) all0)))
        have Z15 := Nat.le_trans Z13 Kq15.1
        have N15 := Fr.app N13 N15q
        refine Go.via (fun t k => st15.trans k) ?_
        refine Vi (T15.setTop (mkF m 178 #[sR o0, sI 0, sI p2, sI p3, sI 0, sI (f7 o0 p2 lA lF hA hF bA wA nW wF), sI (f9 o0 p3 lA lF hA hF bA wA nW wF)] [(.int 0)])) (fun tZ kZ => ?_) ?_
        · refine XS.iconst X15.here hx rfl (hb hby d6_125) ?_
          refine XS.istore X15.here hx rfl (hb hby d6_126) rfl (l' := #[sR o0, sI 0, sI p2, sI p3, sI 0, sI (f7 o0 p2 lA lF hA hF bA wA nW wF), sI (f9 o0 p3 lA lF hA hF bA wA nW wF)]) rfl ?_
          refine XS.goto X15.here hx rfl (pc0 := 128) (pc' := 176) rfl (hb hby d6_128) (by decide) (by decide) ?_
          refine XS.iload X15.here hx rfl (hb hby d6_176) rfl ?_
          exact kZ
        refine Go.retN X15 hx Bd.notSynchronized (t := .boolean) Bd.returns (by simp) (hb hby d6_178) (by decide) (by decide) ?_
        exact ⟨((up lF (0 : Int32).toNatClampNeg (lF (0 : Int32).toNatClampNeg))), ((up hF (0 : Int32).toNatClampNeg ((lF (0 : Int32).toNatClampNeg) - (1 : Int32)))), ((up sF (0 : Int32).toNatClampNeg (0 : Int32))), ((up chF cc.toNatClampNeg (0 : Int32))), ((up icF (0 : Int32).toNatClampNeg (1 : Int32))), ((up tvF tl.toNatClampNeg (0 : Int32))), ((up twF tl.toNatClampNeg (-1 : Int32))), ((up tsF tl.toNatClampNeg ((((lF (0 : Int32).toNatClampNeg).toInt64) <<< ((32 : Int32) &&& 0x3f).toInt64) ||| (((hF (0 : Int32).toNatClampNeg).toInt64) &&& (4294967295 : Int64))))), ((up tzF tl.toNatClampNeg (sF (0 : Int32).toNatClampNeg))), ((tl + (1 : Int32))), ((cc + (1 : Int32))), _, rfl, N15, K15, f15_0, f15_1, f15_2, f15_3, f15_4, f15_5, f15_6, f15_7, f15_8, f15_9, f15_10, f15_11, f15_12, f15_13, f15_14, c16_15, c16_16, c16_17, c16_18, c16_19, f15_15, f15_16, c16_22, c16_23, c16_24, c16_25, own_E6 (own_k6 hI rfl rfl (Or.inl ⟨own_up, own_up, Or.inr hc97⟩)) (Or.inr rfl) own_note⟩
      · show Go p e below _ (T13.setTop (mkF m 122 #[sR o0, sI 0, sI p2, sI p3, sI 1, sI (f7 o0 p2 lA lF hA hF bA wA nW wF), sI (f9 o0 p3 lA lF hA hF bA wA nW wF)] [(.int 0), (.ref o0)]))
        obtain ⟨cq17, q17, q17'⟩ := f13_0.cell
        obtain ⟨_, _, ⟨T17, L17, k17, n17⟩, -, X17, ⟨Lc17, hQ17, l17, y17, z17⟩, st17⟩ := X13.privateBack hx (y := y13) hown (wz hZ hw 98 rfl) (wz hZ hw 99 rfl) (mvT hZ (own_selp (y := y13) (wq hw 99 rfl) (wq hw 100 rfl) (wq hw 1 rfl) (by decide))) (Cond.privateMethod_at (mvP hZ (wq hw 100 rfl) (args := #[]))) (wz hZ hw 101 rfl) (by decide) (backOf (W := 0) (rm13k l Z a0 hw [] o0 icA icF T13.heap n0 Z13 f13_0 f13_9 c14_21 hic) hZ (wq hw 101 rfl) (wq hw 2 rfl) (by decide) (by decide)) (g := (mkF m 122 #[sR o0, sI 0, sI p2, sI p3, sI 1, sI (f7 o0 p2 lA lF hA hF bA wA nW wF), sI (f9 o0 p3 lA lF hA hF bA wA nW wF)] [(.int 0), (.ref o0)])) rfl (by rw [hml]; rfl) (Steps.refl _) (a := o0) q17 q17' (argsL := [(.int 0)]) (rest := []) (lenOf pd_8 rfl) rfl (leW rfl) (hb hby d6_122) (fun _ _ => ⟨rfl, rfl, (by decide : 0 + 0 + 0 + 0 + 0 ≤ _), (by decide : 0 + 0 + 0 + 0 + 0 ≤ _)⟩)
        dsimp only [Pt.U, Pt.locs, Pt.cells, Pt.slots] at X17 l17 y17 z17 st17 hQ17
        subst l17 y17 z17
        obtain ⟨rfl, N17q, e17⟩ := hQ17
        have N17 := Fr.app N13 N17q
        refine Go.via (fun t k => st17.trans k) ?_
        refine Vi (T17.setTop (mkF m 178 #[sR o0, sI 0, sI p2, sI p3, sI 0, sI (f7 o0 p2 lA lF hA hF bA wA nW wF), sI (f9 o0 p3 lA lF hA hF bA wA nW wF)] [(.int 0)])) (fun tZ kZ => ?_) ?_
        · refine XS.iconst X17.here hx rfl (hb hby d6_125) ?_
          refine XS.istore X17.here hx rfl (hb hby d6_126) rfl (l' := #[sR o0, sI 0, sI p2, sI p3, sI 0, sI (f7 o0 p2 lA lF hA hF bA wA nW wF), sI (f9 o0 p3 lA lF hA hF bA wA nW wF)]) rfl ?_
          refine XS.goto X17.here hx rfl (pc0 := 128) (pc' := 176) rfl (hb hby d6_128) (by decide) (by decide) ?_
          refine XS.iload X17.here hx rfl (hb hby d6_176) rfl ?_
          exact kZ
        refine Go.retN X17 hx Bd.notSynchronized (t := .boolean) Bd.returns (by simp) (hb hby d6_178) (by decide) (by decide) ?_
        rw [e17]
        exact ⟨((up lF (0 : Int32).toNatClampNeg (lF (0 : Int32).toNatClampNeg))), ((up hF (0 : Int32).toNatClampNeg ((lF (0 : Int32).toNatClampNeg) - (1 : Int32)))), ((up sF (0 : Int32).toNatClampNeg (0 : Int32))), (chF), (icF), ((up tvF tl.toNatClampNeg (0 : Int32))), ((up twF tl.toNatClampNeg (-1 : Int32))), ((up tsF tl.toNatClampNeg ((((lF (0 : Int32).toNatClampNeg).toInt64) <<< ((32 : Int32) &&& 0x3f).toInt64) ||| (((hF (0 : Int32).toNatClampNeg).toInt64) &&& (4294967295 : Int64))))), ((up tzF tl.toNatClampNeg (sF (0 : Int32).toNatClampNeg))), ((tl + (1 : Int32))), (cc), _, rfl, N17, K13, f13_0, f13_1, f13_2, f13_3, f13_4, f13_5, f13_6, f13_7, f13_8, f13_9, f13_10, f13_11, f13_12, f13_13, f13_14, c14_15, c14_16, f13_15, f13_16, f13_17, c14_20, c14_21, f13_18, f13_19, f13_20, f13_21, own_E6 (own_k6 hI rfl rfl (Or.inl ⟨own_up, own_up, Or.inr hc97⟩)) (Or.inr rfl) (fun h => absurd h hic)⟩
    · refine Vi (T3.setTop (mkF m 131 #[sR o0, sI 0, sI p2, sI p3, sI 1, sI (f7 o0 p2 lA lF hA hF bA wA nW wF), sI (f9 o0 p3 lA lF hA hF bA wA nW wF)] [])) (fun tZ kZ => ?_) ?_
      · show Steps p.tables e below (T3.setTop (mkF m 97 #[sR o0, sI 0, sI p2, sI p3, sI 1, sI (f7 o0 p2 lA lF hA hF bA wA nW wF), sI (f9 o0 p3 lA lF hA hF bA wA nW wF)] [(.int (f7 o0 p2 lA lF hA hF bA wA nW wF)), (.int (f9 o0 p3 lA lF hA hF bA wA nW wF))])) _
        refine XS.icmpYes X3.here hx rfl (pc0 := 97) (pc' := 131) rfl (hb hby d6_97) rfl (flt hc97).2.1 (by decide) (by decide) ?_
        exact kZ
      refine Vi (T3.setTop (mkF m 134 #[sR o0, sI 0, sI p2, sI p3, sI 1, sI (f7 o0 p2 lA lF hA hF bA wA nW wF), sI (f9 o0 p3 lA lF hA hF bA wA nW wF)] [(.ref o0), (.int (f7 o0 p2 lA lF hA hF bA wA nW wF))])) (fun tZ kZ => ?_) ?_
      · refine XS.iload X3.here hx rfl (hb hby d6_131) rfl ?_
        refine XS.aloadN X3.here hx rfl (hb hby d6_133) rfl rfl ?_
        exact kZ
      obtain ⟨T18, X18, e18, st18⟩ := getF X3 hx hZ hown (host := "") (Or.inl (wq hw 36 rfl)) Via.refl e3 ha4 (g := (mkF m 134 #[sR o0, sI 0, sI p2, sI p3, sI 1, sI (f7 o0 p2 lA lF hA hF bA wA nW wF), sI (f9 o0 p3 lA lF hA hF bA wA nW wF)] [(.ref o0), (.int (f7 o0 p2 lA lF hA hF bA wA nW wF))])) rfl rfl (hb hby d6_134)
      refine Go.via st18 ?_
      refine Vi (T18.setTop (mkF m 139 #[sR o0, sI 0, sI p2, sI p3, sI 1, sI (f7 o0 p2 lA lF hA hF bA wA nW wF), sI (f9 o0 p3 lA lF hA hF bA wA nW wF)] [(.int (lF (0 : Int32).toNatClampNeg)), (.int (f7 o0 p2 lA lF hA hF bA wA nW wF))])) (fun tZ kZ => ?_) ?_
      · refine XS.iloadN X18.here hx rfl (hb hby d6_137) rfl ?_
        refine AV.iaload ha18 X18 hx hZ e18 (j := (0 : Int32)) (by decide) (hb hby d6_138) ?_
        exact kZ
      by_cases hc139 : (f7 o0 p2 lA lF hA hF bA wA nW wF) = (lF (0 : Int32).toNatClampNeg)
      · refine Vi (T18.setTop (mkF m 142 #[sR o0, sI 0, sI p2, sI p3, sI 1, sI (f7 o0 p2 lA lF hA hF bA wA nW wF), sI (f9 o0 p3 lA lF hA hF bA wA nW wF)] [])) (fun tZ kZ => ?_) ?_
        · show Steps p.tables e below (T18.setTop (mkF m 139 #[sR o0, sI 0, sI p2, sI p3, sI 1, sI (f7 o0 p2 lA lF hA hF bA wA nW wF), sI (f9 o0 p3 lA lF hA hF bA wA nW wF)] [(.int (lF (0 : Int32).toNatClampNeg)), (.int (f7 o0 p2 lA lF hA hF bA wA nW wF))])) _
          refine XS.icmpNo X18.here hx rfl (hb hby d6_139) rfl (teq hc139).2 ?_
          exact kZ
        refine Vi (T18.setTop (mkF m 145 #[sR o0, sI 0, sI p2, sI p3, sI 1, sI (f7 o0 p2 lA lF hA hF bA wA nW wF), sI (f9 o0 p3 lA lF hA hF bA wA nW wF)] [(.ref o0), (.int (f9 o0 p3 lA lF hA hF bA wA nW wF))])) (fun tZ kZ => ?_) ?_
        · refine XS.iload X18.here hx rfl (hb hby d6_142) rfl ?_
          refine XS.aloadN X18.here hx rfl (hb hby d6_144) rfl rfl ?_
          exact kZ
        obtain ⟨T19, X19, e19, st19⟩ := getF X18 hx hZ hown (host := "") (Or.inl (wq hw 38 rfl)) Via.refl e18 ha5 (g := (mkF m 145 #[sR o0, sI 0, sI p2, sI p3, sI 1, sI (f7 o0 p2 lA lF hA hF bA wA nW wF), sI (f9 o0 p3 lA lF hA hF bA wA nW wF)] [(.ref o0), (.int (f9 o0 p3 lA lF hA hF bA wA nW wF))])) rfl rfl (hb hby d6_145)
        refine Go.via st19 ?_
        refine Vi (T19.setTop (mkF m 150 #[sR o0, sI 0, sI p2, sI p3, sI 1, sI (f7 o0 p2 lA lF hA hF bA wA nW wF), sI (f9 o0 p3 lA lF hA hF bA wA nW wF)] [(.int (hF (0 : Int32).toNatClampNeg)), (.int (f9 o0 p3 lA lF hA hF bA wA nW wF))])) (fun tZ kZ => ?_) ?_
        · refine XS.iloadN X19.here hx rfl (hb hby d6_148) rfl ?_
          refine AV.iaload ha19 X19 hx hZ e19 (j := (0 : Int32)) (by decide) (hb hby d6_149) ?_
          exact kZ
        by_cases hc150 : (f9 o0 p3 lA lF hA hF bA wA nW wF) = (hF (0 : Int32).toNatClampNeg)
        · refine Vi (T19.setTop (mkF m 176 #[sR o0, sI 0, sI p2, sI p3, sI 1, sI (f7 o0 p2 lA lF hA hF bA wA nW wF), sI (f9 o0 p3 lA lF hA hF bA wA nW wF)] [])) (fun tZ kZ => ?_) ?_
          · show Steps p.tables e below (T19.setTop (mkF m 150 #[sR o0, sI 0, sI p2, sI p3, sI 1, sI (f7 o0 p2 lA lF hA hF bA wA nW wF), sI (f9 o0 p3 lA lF hA hF bA wA nW wF)] [(.int (hF (0 : Int32).toNatClampNeg)), (.int (f9 o0 p3 lA lF hA hF bA wA nW wF))])) _
            refine XS.icmpYes X19.here hx rfl (pc0 := 150) (pc' := 176) rfl (hb hby d6_150) rfl (teq hc150).1 (by decide) (by decide) ?_
            exact kZ
          refine Vi (T19.setTop (mkF m 178 #[sR o0, sI 0, sI p2, sI p3, sI 1, sI (f7 o0 p2 lA lF hA hF bA wA nW wF), sI (f9 o0 p3 lA lF hA hF bA wA nW wF)] [(.int 1)])) (fun tZ kZ => ?_) ?_
          · refine XS.iload X19.here hx rfl (hb hby d6_176) rfl ?_
            exact kZ
          refine Go.retN X19 hx Bd.notSynchronized (t := .boolean) Bd.returns (by simp) (hb hby d6_178) (by decide) (by decide) ?_
          rw [e19]
          exact ⟨(lF), (hF), (sF), (chF), (icF), (tvF), (twF), (tsF), (tzF), (tl), (cc), _, rfl, N3, (Keep.refl h0 [tvA, twA, tsA, tzA, o0, lA, hA, sA, icA, chA]), ha0, ha1, ha2, ha3, ha4, ha5, ha6, ha7, ha8, ha9, ha10, ha11, ha12, ha13, ha14, ha15, ha16, ha17, ha18, ha19, ha20, ha21, ha22, ha23, ha24, ha25, own_E6 (own_k6 hI rfl rfl (Or.inr ⟨hc139.symm, hc150.symm, hc90, hc97⟩)) (Or.inl rfl) hcc⟩
        · refine Vi (T19.setTop (mkF m 153 #[sR o0, sI 0, sI p2, sI p3, sI 1, sI (f7 o0 p2 lA lF hA hF bA wA nW wF), sI (f9 o0 p3 lA lF hA hF bA wA nW wF)] [])) (fun tZ kZ => ?_) ?_
          · show Steps p.tables e below (T19.setTop (mkF m 150 #[sR o0, sI 0, sI p2, sI p3, sI 1, sI (f7 o0 p2 lA lF hA hF bA wA nW wF), sI (f9 o0 p3 lA lF hA hF bA wA nW wF)] [(.int (hF (0 : Int32).toNatClampNeg)), (.int (f9 o0 p3 lA lF hA hF bA wA nW wF))])) _
            refine XS.icmpNo X19.here hx rfl (hb hby d6_150) rfl (feq hc150).1 ?_
            exact kZ
          refine Vi (T19.setTop (mkF m 165 #[sR o0, sI 0, sI p2, sI p3, sI 1, sI (f7 o0 p2 lA lF hA hF bA wA nW wF), sI (f9 o0 p3 lA lF hA hF bA wA nW wF)] [(.int (f9 o0 p3 lA lF hA hF bA wA nW wF)), (.int (f7 o0 p2 lA lF hA hF bA wA nW wF)), (.int 0), (.ref o0), (.int (f9 o0 p3 lA lF hA hF bA wA nW wF)), (.int (f7 o0 p2 lA lF hA hF bA wA nW wF)), (.int 0), (.ref o0)])) (fun tZ kZ => ?_) ?_
          · refine XS.aloadN X19.here hx rfl (hb hby d6_153) rfl rfl ?_
            refine XS.iloadN X19.here hx rfl (hb hby d6_154) rfl ?_
            refine XS.iload X19.here hx rfl (hb hby d6_155) rfl ?_
            refine XS.iload X19.here hx rfl (hb hby d6_157) rfl ?_
            refine XS.aloadN X19.here hx rfl (hb hby d6_159) rfl rfl ?_
            refine XS.iloadN X19.here hx rfl (hb hby d6_160) rfl ?_
            refine XS.iload X19.here hx rfl (hb hby d6_161) rfl ?_
            refine XS.iload X19.here hx rfl (hb hby d6_163) rfl ?_
            exact kZ
          obtain ⟨cq20, q20, q20'⟩ := ha0.cell
          obtain ⟨_, _, ⟨T20, L20, k20, n20⟩, -, X20, ⟨Lc20, hQ20, l20, y20, z20⟩, st20⟩ := X19.privateBack hx (y := y20) hown (wz hZ hw 128 rfl) (wz hZ hw 129 rfl) (mvT hZ (own_selp (y := y20) (wq hw 129 rfl) (wq hw 130 rfl) (wq hw 1 rfl) (by decide))) (Cond.privateMethod_at (mvP hZ (wq hw 130 rfl) (args := #[]))) (wz hZ hw 131 rfl) (by decide) (backOf (W := 4) (rm20 l Z a0 hw [] o0 (f7 o0 p2 lA lF hA hF bA wA nW wF) (f9 o0 p3 lA lF hA hF bA wA nW wF) lA lF hA hF sA sF h0 n0 Z0 ha0 ha4 ha18 ha5 ha19 ha6 ha17 hnh) hZ (wq hw 131 rfl) (wq hw 2 rfl) (by decide) (by decide)) (g := (mkF m 165 #[sR o0, sI 0, sI p2, sI p3, sI 1, sI (f7 o0 p2 lA lF hA hF bA wA nW wF), sI (f9 o0 p3 lA lF hA hF bA wA nW wF)] [(.int (f9 o0 p3 lA lF hA hF bA wA nW wF)), (.int (f7 o0 p2 lA lF hA hF bA wA nW wF)), (.int 0), (.ref o0), (.int (f9 o0 p3 lA lF hA hF bA wA nW wF)), (.int (f7 o0 p2 lA lF hA hF bA wA nW wF)), (.int 0), (.ref o0)])) rfl (by rw [hml]; rfl) (Steps.refl _) (a := o0) (by rw [e19]; exact q20) q20' (argsL := [(.int 0), (.int (f7 o0 p2 lA lF hA hF bA wA nW wF)), (.int (f9 o0 p3 lA lF hA hF bA wA nW wF))]) (rest := [(.int (f9 o0 p3 lA lF hA hF bA wA nW wF)), (.int (f7 o0 p2 lA lF hA hF bA wA nW wF)), (.int 0), (.ref o0)]) (lenOf pd_12 rfl) rfl (leW rfl) (hb hby d6_165) (fun _ _ => ⟨rfl, e19, (by decide : 0 + 0 + 0 + 0 ≤ _), (by decide : 0 + 0 + 0 + 0 ≤ _)⟩)
          dsimp only [Pt.U, Pt.locs, Pt.cells, Pt.slots] at X20 l20 y20 z20 st20 hQ20
          subst l20 y20 z20
          obtain ⟨rfl, N20q, e20⟩ := hQ20
          have N20 := Fr.app N3 N20q
          refine Go.via (fun t k => st20.trans k) ?_
          obtain ⟨cq21, q21, q21'⟩ := ha0.cell
          obtain ⟨_, _, ⟨T21, L21, k21, n21⟩, -, X21, ⟨Lc21, hQ21, l21, y21, z21⟩, st21⟩ := X20.privateBack hx (y := y11) hown (wz hZ hw 89 rfl) (wz hZ hw 90 rfl) (mvT hZ (own_selp (y := y11) (wq hw 90 rfl) (wq hw 91 rfl) (wq hw 1 rfl) (by decide))) (Cond.privateMethod_at (mvP hZ (wq hw 91 rfl) (args := #[]))) (wz hZ hw 92 rfl) (by decide) (backOf (W := 0) (rm11 l Z a0 hw [] o0 (f7 o0 p2 lA lF hA hF bA wA nW wF) (f9 o0 p3 lA lF hA hF bA wA nW wF) (f20 o0 (f7 o0 p2 lA lF hA hF bA wA nW wF) (f9 o0 p3 lA lF hA hF bA wA nW wF) lA lF hA hF sA sF) tl cc lA hA sA cA chA icA bA tvA twA tsA tzA sF lF hF tvF twF tsF tzF h0 n0 Z0 ha0 ha1 ha2 ha3 ha4 ha5 ha6 ha7 ha8 ha9 ha10 ha11 ha12 ha13 ha14 ha17 ha18 ha19 ha22 ha23 ha24 ha25 ha26 ha27 ha28 ha29 ha32 ha33 ha34 ha35 hne_o0_sA hne_o0_lA hne_o0_hA hne_o0_tvA hne_o0_twA hne_o0_tsA hne_o0_tzA hne_sA_lA hne_sA_hA hne_sA_tvA hne_sA_twA hne_sA_tsA hne_sA_tzA hne_lA_hA hne_lA_tvA hne_lA_twA hne_lA_tsA hne_lA_tzA hne_hA_tvA hne_hA_twA hne_hA_tsA hne_hA_tzA hne_tvA_twA hne_tvA_tsA hne_tvA_tzA hne_twA_tsA hne_twA_tzA hne_tsA_tzA htl htb) hZ (wq hw 92 rfl) (wq hw 2 rfl) (by decide) (by decide)) (g := (mkF m 168 #[sR o0, sI 0, sI p2, sI p3, sI 1, sI (f7 o0 p2 lA lF hA hF bA wA nW wF), sI (f9 o0 p3 lA lF hA hF bA wA nW wF)] [(.int (f20 o0 (f7 o0 p2 lA lF hA hF bA wA nW wF) (f9 o0 p3 lA lF hA hF bA wA nW wF) lA lF hA hF sA sF)), (.int (f9 o0 p3 lA lF hA hF bA wA nW wF)), (.int (f7 o0 p2 lA lF hA hF bA wA nW wF)), (.int 0), (.ref o0)])) rfl (by rw [hml]; rfl) (Steps.refl _) (a := o0) (by rw [e20]; exact q21) q21' (argsL := [(.int 0), (.int (f7 o0 p2 lA lF hA hF bA wA nW wF)), (.int (f9 o0 p3 lA lF hA hF bA wA nW wF)), (.int (f20 o0 (f7 o0 p2 lA lF hA hF bA wA nW wF) (f9 o0 p3 lA lF hA hF bA wA nW wF) lA lF hA hF sA sF))]) (rest := []) (lenOf pd_6 rfl) rfl (leW rfl) (hb hby d6_168) (fun _ _ => ⟨rfl, e20, (by decide : 0 + 0 + 0 + 0 + 0 ≤ _), (by decide : 0 + 0 + 0 + 0 + 0 ≤ _)⟩)
          dsimp only [Pt.U, Pt.locs, Pt.cells, Pt.slots] at X21 l21 y21 z21 st21 hQ21
          subst l21 y21 z21
          obtain ⟨rfl, N21q, Kq21, f21_0, f21_1, f21_2, f21_3, f21_4, f21_5, f21_6, f21_7, f21_8, f21_9, f21_10, f21_11, f21_12, f21_13, f21_14, f21_15, f21_16, f21_17, f21_18, f21_19, f21_20, f21_21⟩ := hQ21
          have c22_15 := ha15.keep Kq21 (ninS hne_bA_tvA (ninS hne_bA_twA (ninS hne_bA_tsA (ninS hne_bA_tzA (ninS (Ne.symm hne_o0_bA) (ninS hne_bA_lA (ninS hne_bA_hA (ninS hne_bA_sA nin0))))))))
          have c22_16 := ha16.keep Kq21 (ninS hne_wA_tvA (ninS hne_wA_twA (ninS hne_wA_tsA (ninS hne_wA_tzA (ninS (Ne.symm hne_o0_wA) (ninS hne_wA_lA (ninS hne_wA_hA (ninS hne_wA_sA nin0))))))))
          have c22_20 := ha20.keep Kq21 (ninS hne_chA_tvA (ninS hne_chA_twA (ninS hne_chA_tsA (ninS hne_chA_tzA (ninS (Ne.symm hne_o0_chA) (ninS (Ne.symm hne_lA_chA) (ninS (Ne.symm hne_hA_chA) (ninS (Ne.symm hne_sA_chA) nin0))))))))
          have c22_21 := ha21.keep Kq21 (ninS hne_icA_tvA (ninS hne_icA_twA (ninS hne_icA_tsA (ninS hne_icA_tzA (ninS (Ne.symm hne_o0_icA) (ninS (Ne.symm hne_lA_icA) (ninS (Ne.symm hne_hA_icA) (ninS (Ne.symm hne_sA_icA) nin0))))))))
          have K21 : Keep h0 T21.heap [tvA, twA, tsA, tzA, o0, lA, hA, sA, icA, chA] := (Keep.refl h0 [tvA, twA, tsA, tzA, o0, lA, hA, sA, icA, chA]).trans Kq21 (allS (Or.inl (by simp)) (allS (Or.inl (by simp)) (allS (Or.inl (by simp)) (allS (Or.inl (by simp)) (allS (Or.inl (by simp)) (allS (Or.inl (by simp)) (allS (Or.inl (by simp)) (allS (Or.inl (by simp)) all0))))))))
          have Z21 := Nat.le_trans Z0 Kq21.1
          have N21 := Fr.app N20 N21q
          refine Go.via (fun t k => st21.trans k) ?_
          refine Vi (T21.setTop (mkF m 173 #[sR o0, sI 0, sI p2, sI p3, sI 1, sI (f7 o0 p2 lA lF hA hF bA wA nW wF), sI (f9 o0 p3 lA lF hA hF bA wA nW wF)] [(.int 0), (.ref o0)])) (fun tZ kZ => ?_) ?_
          · refine XS.aloadN X21.here hx rfl (hb hby d6_171) rfl rfl ?_
            refine XS.iloadN X21.here hx rfl (hb hby d6_172) rfl ?_
            exact kZ
          by_cases hic : (icF (0 : Int32).toNatClampNeg) = 0
          · show Go p e below _ (T21.setTop (mkF m 173 #[sR o0, sI 0, sI p2, sI p3, sI 1, sI (f7 o0 p2 lA lF hA hF bA wA nW wF), sI (f9 o0 p3 lA lF hA hF bA wA nW wF)] [(.int 0), (.ref o0)]))
            obtain ⟨cq23, q23, q23'⟩ := f21_0.cell
            obtain ⟨_, _, ⟨T23, L23, k23, n23⟩, -, X23, ⟨Lc23, hQ23, l23, y23, z23⟩, st23⟩ := X21.privateBack hx (y := y13) hown (wz hZ hw 98 rfl) (wz hZ hw 99 rfl) (mvT hZ (own_selp (y := y13) (wq hw 99 rfl) (wq hw 100 rfl) (wq hw 1 rfl) (by decide))) (Cond.privateMethod_at (mvP hZ (wq hw 100 rfl) (args := #[]))) (wz hZ hw 101 rfl) (by decide) (backOf (W := 0) (rm13n l Z a0 hw [] o0 (tl + (1 : Int32)) cc lA hA sA cA chA icA bA tvA twA tsA tzA chF icF T21.heap n0 Z21 f21_0 f21_1 f21_2 f21_3 f21_4 f21_5 f21_6 f21_7 f21_8 f21_9 f21_10 f21_11 f21_12 f21_13 f21_14 c22_20 c22_21 ha26 ha30 ha31 hne_o0_chA hne_o0_icA hne_chA_icA hic (hcc hic)) hZ (wq hw 101 rfl) (wq hw 2 rfl) (by decide) (by decide)) (g := (mkF m 173 #[sR o0, sI 0, sI p2, sI p3, sI 1, sI (f7 o0 p2 lA lF hA hF bA wA nW wF), sI (f9 o0 p3 lA lF hA hF bA wA nW wF)] [(.int 0), (.ref o0)])) rfl (by rw [hml]; rfl) (Steps.refl _) (a := o0) q23 q23' (argsL := [(.int 0)]) (rest := []) (lenOf pd_8 rfl) rfl (leW rfl) (hb hby d6_173) (fun _ _ => ⟨rfl, rfl, (by decide : 0 + 0 + 0 + 0 + 0 + 0 ≤ _), (by decide : 0 + 0 + 0 + 0 + 0 + 0 ≤ _)⟩)
            dsimp only [Pt.U, Pt.locs, Pt.cells, Pt.slots] at X23 l23 y23 z23 st23 hQ23
            subst l23 y23 z23
            obtain ⟨rfl, N23q, Kq23, f23_0, f23_1, f23_2, f23_3, f23_4, f23_5, f23_6, f23_7, f23_8, f23_9, f23_10, f23_11, f23_12, f23_13, f23_14, f23_15, f23_16⟩ := hQ23
            have c24_15 := c22_15.keep Kq23 (ninS hne_bA_icA (ninS (Ne.symm hne_o0_bA) (ninS hne_bA_chA nin0)))
            have c24_16 := c22_16.keep Kq23 (ninS hne_wA_icA (ninS (Ne.symm hne_o0_wA) (ninS hne_wA_chA nin0)))
            have c24_17 := f21_15.keep Kq23 (ninS hne_sA_icA (ninS (Ne.symm hne_o0_sA) (ninS hne_sA_chA nin0)))
            have c24_18 := f21_16.keep Kq23 (ninS hne_lA_icA (ninS (Ne.symm hne_o0_lA) (ninS hne_lA_chA nin0)))
            have c24_19 := f21_17.keep Kq23 (ninS hne_hA_icA (ninS (Ne.symm hne_o0_hA) (ninS hne_hA_chA nin0)))
            have c24_22 := f21_18.keep Kq23 (ninS (Ne.symm hne_icA_tvA) (ninS (Ne.symm hne_o0_tvA) (ninS (Ne.symm hne_chA_tvA) nin0)))
            have c24_23 := f21_19.keep Kq23 (ninS (Ne.symm hne_icA_twA) (ninS (Ne.symm hne_o0_twA) (ninS (Ne.symm hne_chA_twA) nin0)))
            have c24_24 := f21_20.keep Kq23 (ninS (Ne.symm hne_icA_tsA) (ninS (Ne.symm hne_o0_tsA) (ninS (Ne.symm hne_chA_tsA) nin0)))
            have c24_25 := f21_21.keep Kq23 (ninS (Ne.symm hne_icA_tzA) (ninS (Ne.symm hne_o0_tzA) (ninS (Ne.symm hne_chA_tzA) nin0)))
            have K23 : Keep h0 T23.heap [tvA, twA, tsA, tzA, o0, lA, hA, sA, icA, chA] := K21.trans Kq23 (allS (Or.inl (by simp)) (allS (Or.inl (by simp)) (allS (Or.inl (by simp)) all0)))
            have Z23 := Nat.le_trans Z21 Kq23.1
            have N23 := Fr.app N21 N23q
            refine Go.via (fun t k => st23.trans k) ?_
            refine Vi (T23.setTop (mkF m 178 #[sR o0, sI 0, sI p2, sI p3, sI 1, sI (f7 o0 p2 lA lF hA hF bA wA nW wF), sI (f9 o0 p3 lA lF hA hF bA wA nW wF)] [(.int 1)])) (fun tZ kZ => ?_) ?_
            · refine XS.iload X23.here hx rfl (hb hby d6_176) rfl ?_
              exact kZ
            refine Go.retN X23 hx Bd.notSynchronized (t := .boolean) Bd.returns (by simp) (hb hby d6_178) (by decide) (by decide) ?_
            exact ⟨((up lF (0 : Int32).toNatClampNeg (f7 o0 p2 lA lF hA hF bA wA nW wF))), ((up hF (0 : Int32).toNatClampNeg (f9 o0 p3 lA lF hA hF bA wA nW wF))), ((up sF (0 : Int32).toNatClampNeg (f20 o0 (f7 o0 p2 lA lF hA hF bA wA nW wF) (f9 o0 p3 lA lF hA hF bA wA nW wF) lA lF hA hF sA sF))), ((up chF cc.toNatClampNeg (0 : Int32))), ((up icF (0 : Int32).toNatClampNeg (1 : Int32))), ((up tvF tl.toNatClampNeg (0 : Int32))), ((up twF tl.toNatClampNeg (-1 : Int32))), ((up tsF tl.toNatClampNeg ((((lF (0 : Int32).toNatClampNeg).toInt64) <<< ((32 : Int32) &&& 0x3f).toInt64) ||| (((hF (0 : Int32).toNatClampNeg).toInt64) &&& (4294967295 : Int64))))), ((up tzF tl.toNatClampNeg (sF (0 : Int32).toNatClampNeg))), ((tl + (1 : Int32))), ((cc + (1 : Int32))), _, rfl, N23, K23, f23_0, f23_1, f23_2, f23_3, f23_4, f23_5, f23_6, f23_7, f23_8, f23_9, f23_10, f23_11, f23_12, f23_13, f23_14, c24_15, c24_16, c24_17, c24_18, c24_19, f23_15, f23_16, c24_22, c24_23, c24_24, c24_25, own_E6 (own_k6 hI rfl rfl (Or.inr ⟨own_up, own_up, hc90, hc97⟩)) (Or.inr rfl) own_note⟩
          · show Go p e below _ (T21.setTop (mkF m 173 #[sR o0, sI 0, sI p2, sI p3, sI 1, sI (f7 o0 p2 lA lF hA hF bA wA nW wF), sI (f9 o0 p3 lA lF hA hF bA wA nW wF)] [(.int 0), (.ref o0)]))
            obtain ⟨cq25, q25, q25'⟩ := f21_0.cell
            obtain ⟨_, _, ⟨T25, L25, k25, n25⟩, -, X25, ⟨Lc25, hQ25, l25, y25, z25⟩, st25⟩ := X21.privateBack hx (y := y13) hown (wz hZ hw 98 rfl) (wz hZ hw 99 rfl) (mvT hZ (own_selp (y := y13) (wq hw 99 rfl) (wq hw 100 rfl) (wq hw 1 rfl) (by decide))) (Cond.privateMethod_at (mvP hZ (wq hw 100 rfl) (args := #[]))) (wz hZ hw 101 rfl) (by decide) (backOf (W := 0) (rm13k l Z a0 hw [] o0 icA icF T21.heap n0 Z21 f21_0 f21_9 c22_21 hic) hZ (wq hw 101 rfl) (wq hw 2 rfl) (by decide) (by decide)) (g := (mkF m 173 #[sR o0, sI 0, sI p2, sI p3, sI 1, sI (f7 o0 p2 lA lF hA hF bA wA nW wF), sI (f9 o0 p3 lA lF hA hF bA wA nW wF)] [(.int 0), (.ref o0)])) rfl (by rw [hml]; rfl) (Steps.refl _) (a := o0) q25 q25' (argsL := [(.int 0)]) (rest := []) (lenOf pd_8 rfl) rfl (leW rfl) (hb hby d6_173) (fun _ _ => ⟨rfl, rfl, (by decide : 0 + 0 + 0 + 0 + 0 + 0 ≤ _), (by decide : 0 + 0 + 0 + 0 + 0 + 0 ≤ _)⟩)
            dsimp only [Pt.U, Pt.locs, Pt.cells, Pt.slots] at X25 l25 y25 z25 st25 hQ25
            subst l25 y25 z25
            obtain ⟨rfl, N25q, e25⟩ := hQ25
            have N25 := Fr.app N21 N25q
            refine Go.via (fun t k => st25.trans k) ?_
            refine Vi (T25.setTop (mkF m 178 #[sR o0, sI 0, sI p2, sI p3, sI 1, sI (f7 o0 p2 lA lF hA hF bA wA nW wF), sI (f9 o0 p3 lA lF hA hF bA wA nW wF)] [(.int 1)])) (fun tZ kZ => ?_) ?_
            · refine XS.iload X25.here hx rfl (hb hby d6_176) rfl ?_
              exact kZ
            refine Go.retN X25 hx Bd.notSynchronized (t := .boolean) Bd.returns (by simp) (hb hby d6_178) (by decide) (by decide) ?_
            rw [e25]
            exact ⟨((up lF (0 : Int32).toNatClampNeg (f7 o0 p2 lA lF hA hF bA wA nW wF))), ((up hF (0 : Int32).toNatClampNeg (f9 o0 p3 lA lF hA hF bA wA nW wF))), ((up sF (0 : Int32).toNatClampNeg (f20 o0 (f7 o0 p2 lA lF hA hF bA wA nW wF) (f9 o0 p3 lA lF hA hF bA wA nW wF) lA lF hA hF sA sF))), (chF), (icF), ((up tvF tl.toNatClampNeg (0 : Int32))), ((up twF tl.toNatClampNeg (-1 : Int32))), ((up tsF tl.toNatClampNeg ((((lF (0 : Int32).toNatClampNeg).toInt64) <<< ((32 : Int32) &&& 0x3f).toInt64) ||| (((hF (0 : Int32).toNatClampNeg).toInt64) &&& (4294967295 : Int64))))), ((up tzF tl.toNatClampNeg (sF (0 : Int32).toNatClampNeg))), ((tl + (1 : Int32))), (cc), _, rfl, N25, K21, f21_0, f21_1, f21_2, f21_3, f21_4, f21_5, f21_6, f21_7, f21_8, f21_9, f21_10, f21_11, f21_12, f21_13, f21_14, c22_15, c22_16, f21_15, f21_16, f21_17, c22_20, c22_21, f21_18, f21_19, f21_20, f21_21, own_E6 (own_k6 hI rfl rfl (Or.inr ⟨own_up, own_up, hc90, hc97⟩)) (Or.inr rfl) (fun h => absurd h hic)⟩
      · refine Vi (T18.setTop (mkF m 153 #[sR o0, sI 0, sI p2, sI p3, sI 1, sI (f7 o0 p2 lA lF hA hF bA wA nW wF), sI (f9 o0 p3 lA lF hA hF bA wA nW wF)] [])) (fun tZ kZ => ?_) ?_
        · show Steps p.tables e below (T18.setTop (mkF m 139 #[sR o0, sI 0, sI p2, sI p3, sI 1, sI (f7 o0 p2 lA lF hA hF bA wA nW wF), sI (f9 o0 p3 lA lF hA hF bA wA nW wF)] [(.int (lF (0 : Int32).toNatClampNeg)), (.int (f7 o0 p2 lA lF hA hF bA wA nW wF))])) _
          refine XS.icmpYes X18.here hx rfl (pc0 := 139) (pc' := 153) rfl (hb hby d6_139) rfl (feq hc139).2 (by decide) (by decide) ?_
          exact kZ
        refine Vi (T18.setTop (mkF m 165 #[sR o0, sI 0, sI p2, sI p3, sI 1, sI (f7 o0 p2 lA lF hA hF bA wA nW wF), sI (f9 o0 p3 lA lF hA hF bA wA nW wF)] [(.int (f9 o0 p3 lA lF hA hF bA wA nW wF)), (.int (f7 o0 p2 lA lF hA hF bA wA nW wF)), (.int 0), (.ref o0), (.int (f9 o0 p3 lA lF hA hF bA wA nW wF)), (.int (f7 o0 p2 lA lF hA hF bA wA nW wF)), (.int 0), (.ref o0)])) (fun tZ kZ => ?_) ?_
        · refine XS.aloadN X18.here hx rfl (hb hby d6_153) rfl rfl ?_
          refine XS.iloadN X18.here hx rfl (hb hby d6_154) rfl ?_
          refine XS.iload X18.here hx rfl (hb hby d6_155) rfl ?_
          refine XS.iload X18.here hx rfl (hb hby d6_157) rfl ?_
          refine XS.aloadN X18.here hx rfl (hb hby d6_159) rfl rfl ?_
          refine XS.iloadN X18.here hx rfl (hb hby d6_160) rfl ?_
          refine XS.iload X18.here hx rfl (hb hby d6_161) rfl ?_
          refine XS.iload X18.here hx rfl (hb hby d6_163) rfl ?_
          exact kZ
        obtain ⟨cq26, q26, q26'⟩ := ha0.cell
        obtain ⟨_, _, ⟨T26, L26, k26, n26⟩, -, X26, ⟨Lc26, hQ26, l26, y26, z26⟩, st26⟩ := X18.privateBack hx (y := y20) hown (wz hZ hw 128 rfl) (wz hZ hw 129 rfl) (mvT hZ (own_selp (y := y20) (wq hw 129 rfl) (wq hw 130 rfl) (wq hw 1 rfl) (by decide))) (Cond.privateMethod_at (mvP hZ (wq hw 130 rfl) (args := #[]))) (wz hZ hw 131 rfl) (by decide) (backOf (W := 4) (rm20 l Z a0 hw [] o0 (f7 o0 p2 lA lF hA hF bA wA nW wF) (f9 o0 p3 lA lF hA hF bA wA nW wF) lA lF hA hF sA sF h0 n0 Z0 ha0 ha4 ha18 ha5 ha19 ha6 ha17 hnh) hZ (wq hw 131 rfl) (wq hw 2 rfl) (by decide) (by decide)) (g := (mkF m 165 #[sR o0, sI 0, sI p2, sI p3, sI 1, sI (f7 o0 p2 lA lF hA hF bA wA nW wF), sI (f9 o0 p3 lA lF hA hF bA wA nW wF)] [(.int (f9 o0 p3 lA lF hA hF bA wA nW wF)), (.int (f7 o0 p2 lA lF hA hF bA wA nW wF)), (.int 0), (.ref o0), (.int (f9 o0 p3 lA lF hA hF bA wA nW wF)), (.int (f7 o0 p2 lA lF hA hF bA wA nW wF)), (.int 0), (.ref o0)])) rfl (by rw [hml]; rfl) (Steps.refl _) (a := o0) (by rw [e18]; exact q26) q26' (argsL := [(.int 0), (.int (f7 o0 p2 lA lF hA hF bA wA nW wF)), (.int (f9 o0 p3 lA lF hA hF bA wA nW wF))]) (rest := [(.int (f9 o0 p3 lA lF hA hF bA wA nW wF)), (.int (f7 o0 p2 lA lF hA hF bA wA nW wF)), (.int 0), (.ref o0)]) (lenOf pd_12 rfl) rfl (leW rfl) (hb hby d6_165) (fun _ _ => ⟨rfl, e18, (by decide : 0 + 0 + 0 + 0 ≤ _), (by decide : 0 + 0 + 0 + 0 ≤ _)⟩)
        dsimp only [Pt.U, Pt.locs, Pt.cells, Pt.slots] at X26 l26 y26 z26 st26 hQ26
        subst l26 y26 z26
        obtain ⟨rfl, N26q, e26⟩ := hQ26
        have N26 := Fr.app N3 N26q
        refine Go.via (fun t k => st26.trans k) ?_
        obtain ⟨cq27, q27, q27'⟩ := ha0.cell
        obtain ⟨_, _, ⟨T27, L27, k27, n27⟩, -, X27, ⟨Lc27, hQ27, l27, y27, z27⟩, st27⟩ := X26.privateBack hx (y := y11) hown (wz hZ hw 89 rfl) (wz hZ hw 90 rfl) (mvT hZ (own_selp (y := y11) (wq hw 90 rfl) (wq hw 91 rfl) (wq hw 1 rfl) (by decide))) (Cond.privateMethod_at (mvP hZ (wq hw 91 rfl) (args := #[]))) (wz hZ hw 92 rfl) (by decide) (backOf (W := 0) (rm11 l Z a0 hw [] o0 (f7 o0 p2 lA lF hA hF bA wA nW wF) (f9 o0 p3 lA lF hA hF bA wA nW wF) (f20 o0 (f7 o0 p2 lA lF hA hF bA wA nW wF) (f9 o0 p3 lA lF hA hF bA wA nW wF) lA lF hA hF sA sF) tl cc lA hA sA cA chA icA bA tvA twA tsA tzA sF lF hF tvF twF tsF tzF h0 n0 Z0 ha0 ha1 ha2 ha3 ha4 ha5 ha6 ha7 ha8 ha9 ha10 ha11 ha12 ha13 ha14 ha17 ha18 ha19 ha22 ha23 ha24 ha25 ha26 ha27 ha28 ha29 ha32 ha33 ha34 ha35 hne_o0_sA hne_o0_lA hne_o0_hA hne_o0_tvA hne_o0_twA hne_o0_tsA hne_o0_tzA hne_sA_lA hne_sA_hA hne_sA_tvA hne_sA_twA hne_sA_tsA hne_sA_tzA hne_lA_hA hne_lA_tvA hne_lA_twA hne_lA_tsA hne_lA_tzA hne_hA_tvA hne_hA_twA hne_hA_tsA hne_hA_tzA hne_tvA_twA hne_tvA_tsA hne_tvA_tzA hne_twA_tsA hne_twA_tzA hne_tsA_tzA htl htb) hZ (wq hw 92 rfl) (wq hw 2 rfl) (by decide) (by decide)) (g := (mkF m 168 #[sR o0, sI 0, sI p2, sI p3, sI 1, sI (f7 o0 p2 lA lF hA hF bA wA nW wF), sI (f9 o0 p3 lA lF hA hF bA wA nW wF)] [(.int (f20 o0 (f7 o0 p2 lA lF hA hF bA wA nW wF) (f9 o0 p3 lA lF hA hF bA wA nW wF) lA lF hA hF sA sF)), (.int (f9 o0 p3 lA lF hA hF bA wA nW wF)), (.int (f7 o0 p2 lA lF hA hF bA wA nW wF)), (.int 0), (.ref o0)])) rfl (by rw [hml]; rfl) (Steps.refl _) (a := o0) (by rw [e26]; exact q27) q27' (argsL := [(.int 0), (.int (f7 o0 p2 lA lF hA hF bA wA nW wF)), (.int (f9 o0 p3 lA lF hA hF bA wA nW wF)), (.int (f20 o0 (f7 o0 p2 lA lF hA hF bA wA nW wF) (f9 o0 p3 lA lF hA hF bA wA nW wF) lA lF hA hF sA sF))]) (rest := []) (lenOf pd_6 rfl) rfl (leW rfl) (hb hby d6_168) (fun _ _ => ⟨rfl, e26, (by decide : 0 + 0 + 0 + 0 + 0 ≤ _), (by decide : 0 + 0 + 0 + 0 + 0 ≤ _)⟩)
        dsimp only [Pt.U, Pt.locs, Pt.cells, Pt.slots] at X27 l27 y27 z27 st27 hQ27
        subst l27 y27 z27
        obtain ⟨rfl, N27q, Kq27, f27_0, f27_1, f27_2, f27_3, f27_4, f27_5, f27_6, f27_7, f27_8, f27_9, f27_10, f27_11, f27_12, f27_13, f27_14, f27_15, f27_16, f27_17, f27_18, f27_19, f27_20, f27_21⟩ := hQ27
        have c28_15 := ha15.keep Kq27 (ninS hne_bA_tvA (ninS hne_bA_twA (ninS hne_bA_tsA (ninS hne_bA_tzA (ninS (Ne.symm hne_o0_bA) (ninS hne_bA_lA (ninS hne_bA_hA (ninS hne_bA_sA nin0))))))))
        have c28_16 := ha16.keep Kq27 (ninS hne_wA_tvA (ninS hne_wA_twA (ninS hne_wA_tsA (ninS hne_wA_tzA (ninS (Ne.symm hne_o0_wA) (ninS hne_wA_lA (ninS hne_wA_hA (ninS hne_wA_sA nin0))))))))
        have c28_20 := ha20.keep Kq27 (ninS hne_chA_tvA (ninS hne_chA_twA (ninS hne_chA_tsA (ninS hne_chA_tzA (ninS (Ne.symm hne_o0_chA) (ninS (Ne.symm hne_lA_chA) (ninS (Ne.symm hne_hA_chA) (ninS (Ne.symm hne_sA_chA) nin0))))))))
        have c28_21 := ha21.keep Kq27 (ninS hne_icA_tvA (ninS hne_icA_twA (ninS hne_icA_tsA (ninS hne_icA_tzA (ninS (Ne.symm hne_o0_icA) (ninS (Ne.symm hne_lA_icA) (ninS (Ne.symm hne_hA_icA) (ninS (Ne.symm hne_sA_icA) nin0))))))))
        have K27 : Keep h0 T27.heap [tvA, twA, tsA, tzA, o0, lA, hA, sA, icA, chA] := (Keep.refl h0 [tvA, twA, tsA, tzA, o0, lA, hA, sA, icA, chA]).trans Kq27 (allS (Or.inl (by simp)) (allS (Or.inl (by simp)) (allS (Or.inl (by simp)) (allS (Or.inl (by simp)) (allS (Or.inl (by simp)) (allS (Or.inl (by simp)) (allS (Or.inl (by simp)) (allS (Or.inl (by simp)) all0))))))))
        have Z27 := Nat.le_trans Z0 Kq27.1
        have N27 := Fr.app N26 N27q
        refine Go.via (fun t k => st27.trans k) ?_
        refine Vi (T27.setTop (mkF m 173 #[sR o0, sI 0, sI p2, sI p3, sI 1, sI (f7 o0 p2 lA lF hA hF bA wA nW wF), sI (f9 o0 p3 lA lF hA hF bA wA nW wF)] [(.int 0), (.ref o0)])) (fun tZ kZ => ?_) ?_
        · refine XS.aloadN X27.here hx rfl (hb hby d6_171) rfl rfl ?_
          refine XS.iloadN X27.here hx rfl (hb hby d6_172) rfl ?_
          exact kZ
        by_cases hic : (icF (0 : Int32).toNatClampNeg) = 0
        · show Go p e below _ (T27.setTop (mkF m 173 #[sR o0, sI 0, sI p2, sI p3, sI 1, sI (f7 o0 p2 lA lF hA hF bA wA nW wF), sI (f9 o0 p3 lA lF hA hF bA wA nW wF)] [(.int 0), (.ref o0)]))
          obtain ⟨cq29, q29, q29'⟩ := f27_0.cell
          obtain ⟨_, _, ⟨T29, L29, k29, n29⟩, -, X29, ⟨Lc29, hQ29, l29, y29, z29⟩, st29⟩ := X27.privateBack hx (y := y13) hown (wz hZ hw 98 rfl) (wz hZ hw 99 rfl) (mvT hZ (own_selp (y := y13) (wq hw 99 rfl) (wq hw 100 rfl) (wq hw 1 rfl) (by decide))) (Cond.privateMethod_at (mvP hZ (wq hw 100 rfl) (args := #[]))) (wz hZ hw 101 rfl) (by decide) (backOf (W := 0) (rm13n l Z a0 hw [] o0 (tl + (1 : Int32)) cc lA hA sA cA chA icA bA tvA twA tsA tzA chF icF T27.heap n0 Z27 f27_0 f27_1 f27_2 f27_3 f27_4 f27_5 f27_6 f27_7 f27_8 f27_9 f27_10 f27_11 f27_12 f27_13 f27_14 c28_20 c28_21 ha26 ha30 ha31 hne_o0_chA hne_o0_icA hne_chA_icA hic (hcc hic)) hZ (wq hw 101 rfl) (wq hw 2 rfl) (by decide) (by decide)) (g := (mkF m 173 #[sR o0, sI 0, sI p2, sI p3, sI 1, sI (f7 o0 p2 lA lF hA hF bA wA nW wF), sI (f9 o0 p3 lA lF hA hF bA wA nW wF)] [(.int 0), (.ref o0)])) rfl (by rw [hml]; rfl) (Steps.refl _) (a := o0) q29 q29' (argsL := [(.int 0)]) (rest := []) (lenOf pd_8 rfl) rfl (leW rfl) (hb hby d6_173) (fun _ _ => ⟨rfl, rfl, (by decide : 0 + 0 + 0 + 0 + 0 + 0 ≤ _), (by decide : 0 + 0 + 0 + 0 + 0 + 0 ≤ _)⟩)
          dsimp only [Pt.U, Pt.locs, Pt.cells, Pt.slots] at X29 l29 y29 z29 st29 hQ29
          subst l29 y29 z29
          obtain ⟨rfl, N29q, Kq29, f29_0, f29_1, f29_2, f29_3, f29_4, f29_5, f29_6, f29_7, f29_8, f29_9, f29_10, f29_11, f29_12, f29_13, f29_14, f29_15, f29_16⟩ := hQ29
          have c30_15 := c28_15.keep Kq29 (ninS hne_bA_icA (ninS (Ne.symm hne_o0_bA) (ninS hne_bA_chA nin0)))
          have c30_16 := c28_16.keep Kq29 (ninS hne_wA_icA (ninS (Ne.symm hne_o0_wA) (ninS hne_wA_chA nin0)))
          have c30_17 := f27_15.keep Kq29 (ninS hne_sA_icA (ninS (Ne.symm hne_o0_sA) (ninS hne_sA_chA nin0)))
          have c30_18 := f27_16.keep Kq29 (ninS hne_lA_icA (ninS (Ne.symm hne_o0_lA) (ninS hne_lA_chA nin0)))
          have c30_19 := f27_17.keep Kq29 (ninS hne_hA_icA (ninS (Ne.symm hne_o0_hA) (ninS hne_hA_chA nin0)))
          have c30_22 := f27_18.keep Kq29 (ninS (Ne.symm hne_icA_tvA) (ninS (Ne.symm hne_o0_tvA) (ninS (Ne.symm hne_chA_tvA) nin0)))
          have c30_23 := f27_19.keep Kq29 (ninS (Ne.symm hne_icA_twA) (ninS (Ne.symm hne_o0_twA) (ninS (Ne.symm hne_chA_twA) nin0)))
          have c30_24 := f27_20.keep Kq29 (ninS (Ne.symm hne_icA_tsA) (ninS (Ne.symm hne_o0_tsA) (ninS (Ne.symm hne_chA_tsA) nin0)))
          have c30_25 := f27_21.keep Kq29 (ninS (Ne.symm hne_icA_tzA) (ninS (Ne.symm hne_o0_tzA) (ninS (Ne.symm hne_chA_tzA) nin0)))
          have K29 : Keep h0 T29.heap [tvA, twA, tsA, tzA, o0, lA, hA, sA, icA, chA] := K27.trans Kq29 (allS (Or.inl (by simp)) (allS (Or.inl (by simp)) (allS (Or.inl (by simp)) all0)))
          have Z29 := Nat.le_trans Z27 Kq29.1
          have N29 := Fr.app N27 N29q
          refine Go.via (fun t k => st29.trans k) ?_
          refine Vi (T29.setTop (mkF m 178 #[sR o0, sI 0, sI p2, sI p3, sI 1, sI (f7 o0 p2 lA lF hA hF bA wA nW wF), sI (f9 o0 p3 lA lF hA hF bA wA nW wF)] [(.int 1)])) (fun tZ kZ => ?_) ?_
          · refine XS.iload X29.here hx rfl (hb hby d6_176) rfl ?_
            exact kZ
          refine Go.retN X29 hx Bd.notSynchronized (t := .boolean) Bd.returns (by simp) (hb hby d6_178) (by decide) (by decide) ?_
          exact ⟨((up lF (0 : Int32).toNatClampNeg (f7 o0 p2 lA lF hA hF bA wA nW wF))), ((up hF (0 : Int32).toNatClampNeg (f9 o0 p3 lA lF hA hF bA wA nW wF))), ((up sF (0 : Int32).toNatClampNeg (f20 o0 (f7 o0 p2 lA lF hA hF bA wA nW wF) (f9 o0 p3 lA lF hA hF bA wA nW wF) lA lF hA hF sA sF))), ((up chF cc.toNatClampNeg (0 : Int32))), ((up icF (0 : Int32).toNatClampNeg (1 : Int32))), ((up tvF tl.toNatClampNeg (0 : Int32))), ((up twF tl.toNatClampNeg (-1 : Int32))), ((up tsF tl.toNatClampNeg ((((lF (0 : Int32).toNatClampNeg).toInt64) <<< ((32 : Int32) &&& 0x3f).toInt64) ||| (((hF (0 : Int32).toNatClampNeg).toInt64) &&& (4294967295 : Int64))))), ((up tzF tl.toNatClampNeg (sF (0 : Int32).toNatClampNeg))), ((tl + (1 : Int32))), ((cc + (1 : Int32))), _, rfl, N29, K29, f29_0, f29_1, f29_2, f29_3, f29_4, f29_5, f29_6, f29_7, f29_8, f29_9, f29_10, f29_11, f29_12, f29_13, f29_14, c30_15, c30_16, c30_17, c30_18, c30_19, f29_15, f29_16, c30_22, c30_23, c30_24, c30_25, own_E6 (own_k6 hI rfl rfl (Or.inr ⟨own_up, own_up, hc90, hc97⟩)) (Or.inr rfl) own_note⟩
        · show Go p e below _ (T27.setTop (mkF m 173 #[sR o0, sI 0, sI p2, sI p3, sI 1, sI (f7 o0 p2 lA lF hA hF bA wA nW wF), sI (f9 o0 p3 lA lF hA hF bA wA nW wF)] [(.int 0), (.ref o0)]))
          obtain ⟨cq31, q31, q31'⟩ := f27_0.cell
          obtain ⟨_, _, ⟨T31, L31, k31, n31⟩, -, X31, ⟨Lc31, hQ31, l31, y31, z31⟩, st31⟩ := X27.privateBack hx (y := y13) hown (wz hZ hw 98 rfl) (wz hZ hw 99 rfl) (mvT hZ (own_selp (y := y13) (wq hw 99 rfl) (wq hw 100 rfl) (wq hw 1 rfl) (by decide))) (Cond.privateMethod_at (mvP hZ (wq hw 100 rfl) (args := #[]))) (wz hZ hw 101 rfl) (by decide) (backOf (W := 0) (rm13k l Z a0 hw [] o0 icA icF T27.heap n0 Z27 f27_0 f27_9 c28_21 hic) hZ (wq hw 101 rfl) (wq hw 2 rfl) (by decide) (by decide)) (g := (mkF m 173 #[sR o0, sI 0, sI p2, sI p3, sI 1, sI (f7 o0 p2 lA lF hA hF bA wA nW wF), sI (f9 o0 p3 lA lF hA hF bA wA nW wF)] [(.int 0), (.ref o0)])) rfl (by rw [hml]; rfl) (Steps.refl _) (a := o0) q31 q31' (argsL := [(.int 0)]) (rest := []) (lenOf pd_8 rfl) rfl (leW rfl) (hb hby d6_173) (fun _ _ => ⟨rfl, rfl, (by decide : 0 + 0 + 0 + 0 + 0 + 0 ≤ _), (by decide : 0 + 0 + 0 + 0 + 0 + 0 ≤ _)⟩)
          dsimp only [Pt.U, Pt.locs, Pt.cells, Pt.slots] at X31 l31 y31 z31 st31 hQ31
          subst l31 y31 z31
          obtain ⟨rfl, N31q, e31⟩ := hQ31
          have N31 := Fr.app N27 N31q
          refine Go.via (fun t k => st31.trans k) ?_
          refine Vi (T31.setTop (mkF m 178 #[sR o0, sI 0, sI p2, sI p3, sI 1, sI (f7 o0 p2 lA lF hA hF bA wA nW wF), sI (f9 o0 p3 lA lF hA hF bA wA nW wF)] [(.int 1)])) (fun tZ kZ => ?_) ?_
          · refine XS.iload X31.here hx rfl (hb hby d6_176) rfl ?_
            exact kZ
          refine Go.retN X31 hx Bd.notSynchronized (t := .boolean) Bd.returns (by simp) (hb hby d6_178) (by decide) (by decide) ?_
          rw [e31]
          exact ⟨((up lF (0 : Int32).toNatClampNeg (f7 o0 p2 lA lF hA hF bA wA nW wF))), ((up hF (0 : Int32).toNatClampNeg (f9 o0 p3 lA lF hA hF bA wA nW wF))), ((up sF (0 : Int32).toNatClampNeg (f20 o0 (f7 o0 p2 lA lF hA hF bA wA nW wF) (f9 o0 p3 lA lF hA hF bA wA nW wF) lA lF hA hF sA sF))), (chF), (icF), ((up tvF tl.toNatClampNeg (0 : Int32))), ((up twF tl.toNatClampNeg (-1 : Int32))), ((up tsF tl.toNatClampNeg ((((lF (0 : Int32).toNatClampNeg).toInt64) <<< ((32 : Int32) &&& 0x3f).toInt64) ||| (((hF (0 : Int32).toNatClampNeg).toInt64) &&& (4294967295 : Int64))))), ((up tzF tl.toNatClampNeg (sF (0 : Int32).toNatClampNeg))), ((tl + (1 : Int32))), (cc), _, rfl, N31, K27, f27_0, f27_1, f27_2, f27_3, f27_4, f27_5, f27_6, f27_7, f27_8, f27_9, f27_10, f27_11, f27_12, f27_13, f27_14, c28_15, c28_16, f27_15, f27_16, f27_17, c28_20, c28_21, f27_18, f27_19, f27_20, f27_21, own_E6 (own_k6 hI rfl rfl (Or.inr ⟨own_up, own_up, hc90, hc97⟩)) (Or.inr rfl) (fun h => absurd h hic)⟩
theorem d14_0 : decode B14 0 = .ok (.aload_n 0, 1) := by decide +kernel
theorem d14_1 : decode B14 1 = .ok (.iload_n 1, 1) := by decide +kernel
theorem d14_2 : decode B14 2 = .ok (.iload_n 2, 1) := by decide +kernel
theorem pd_9 : parseMethodDescriptor "(II)Z" = some ⟨[.int, .int], some .boolean⟩ := by decide +kernel
theorem d14_3 : decode B14 3 = .ok (.invokevirtual 93, 3) := by decide +kernel
theorem d14_6 : decode B14 6 = .ok (.ifCond .ne 5, 3) := by decide +kernel
theorem d14_9 : decode B14 9 = .ok (.iconst 1, 1) := by decide +kernel
theorem d14_10 : decode B14 10 = .ok (.ireturn, 1) := by decide +kernel
theorem d14_11 : decode B14 11 = .ok (.aload_n 0, 1) := by decide +kernel
theorem d14_12 : decode B14 12 = .ok (.getfield 67, 3) := by decide +kernel
theorem d14_15 : decode B14 15 = .ok (.ifnull 14, 3) := by decide +kernel
theorem d14_29 : decode B14 29 = .ok (.aload_n 0, 1) := by decide +kernel
theorem d14_30 : decode B14 30 = .ok (.getfield 36, 3) := by decide +kernel
theorem d14_33 : decode B14 33 = .ok (.iload_n 1, 1) := by decide +kernel
theorem d14_34 : decode B14 34 = .ok (.iaload, 1) := by decide +kernel
theorem d14_35 : decode B14 35 = .ok (.iconst 1, 1) := by decide +kernel
theorem d14_36 : decode B14 36 = .ok (.isub, 1) := by decide +kernel
theorem d14_37 : decode B14 37 = .ok (.istore_n 3, 1) := by decide +kernel
theorem d14_38 : decode B14 38 = .ok (.iload_n 2, 1) := by decide +kernel
theorem d14_39 : decode B14 39 = .ok (.aload_n 0, 1) := by decide +kernel
theorem d14_40 : decode B14 40 = .ok (.getfield 39, 3) := by decide +kernel
theorem d14_43 : decode B14 43 = .ok (.iload_n 1, 1) := by decide +kernel
theorem d14_44 : decode B14 44 = .ok (.iaload, 1) := by decide +kernel
theorem d14_45 : decode B14 45 = .ok (.if_icmp .ne 41, 3) := by decide +kernel
theorem d14_48 : decode B14 48 = .ok (.aload_n 0, 1) := by decide +kernel
theorem d14_49 : decode B14 49 = .ok (.iload_n 1, 1) := by decide +kernel
theorem d14_50 : decode B14 50 = .ok (.iload_n 2, 1) := by decide +kernel
theorem d14_51 : decode B14 51 = .ok (.iconst 1, 1) := by decide +kernel
theorem d14_52 : decode B14 52 = .ok (.iadd, 1) := by decide +kernel
theorem d14_53 : decode B14 53 = .ok (.invokevirtual 103, 3) := by decide +kernel
theorem d14_56 : decode B14 56 = .ok (.istore 4, 2) := by decide +kernel
theorem d14_58 : decode B14 58 = .ok (.aload_n 0, 1) := by decide +kernel
theorem d14_59 : decode B14 59 = .ok (.iload_n 1, 1) := by decide +kernel
theorem d14_60 : decode B14 60 = .ok (.iload 4, 2) := by decide +kernel
theorem d14_62 : decode B14 62 = .ok (.ifCond .ge 9, 3) := by decide +kernel
theorem d14_65 : decode B14 65 = .ok (.iload_n 2, 1) := by decide +kernel
theorem d14_66 : decode B14 66 = .ok (.iconst 1, 1) := by decide +kernel
theorem d14_67 : decode B14 67 = .ok (.iadd, 1) := by decide +kernel
theorem d14_68 : decode B14 68 = .ok (.goto 5, 3) := by decide +kernel
theorem d14_71 : decode B14 71 = .ok (.iload 4, 2) := by decide +kernel
theorem d14_73 : decode B14 73 = .ok (.aload_n 0, 1) := by decide +kernel
theorem d14_74 : decode B14 74 = .ok (.getfield 42, 3) := by decide +kernel
theorem d14_77 : decode B14 77 = .ok (.iload_n 1, 1) := by decide +kernel
theorem d14_78 : decode B14 78 = .ok (.iaload, 1) := by decide +kernel
theorem d14_79 : decode B14 79 = .ok (.iload_n 3, 1) := by decide +kernel
theorem d14_80 : decode B14 80 = .ok (.invokevirtual 106, 3) := by decide +kernel
theorem d14_83 : decode B14 83 = .ok (.goto 84, 3) := by decide +kernel
theorem d14_167 : decode B14 167 = .ok (.aload_n 0, 1) := by decide +kernel
theorem d14_168 : decode B14 168 = .ok (.iload_n 1, 1) := by decide +kernel
theorem d14_169 : decode B14 169 = .ok (.invokevirtual 117, 3) := by decide +kernel
theorem d14_172 : decode B14 172 = .ok (.iload_n 3, 1) := by decide +kernel
theorem d14_173 : decode B14 173 = .ok (.ifCond .le 7, 3) := by decide +kernel
theorem d14_176 : decode B14 176 = .ok (.iconst 1, 1) := by decide +kernel
theorem d14_177 : decode B14 177 = .ok (.goto 4, 3) := by decide +kernel
theorem d14_180 : decode B14 180 = .ok (.iconst 0, 1) := by decide +kernel
theorem d14_181 : decode B14 181 = .ok (.ireturn, 1) := by decide +kernel
theorem d14_86 : decode B14 86 = .ok (.iload_n 2, 1) := by decide +kernel
theorem d14_87 : decode B14 87 = .ok (.aload_n 0, 1) := by decide +kernel
theorem d14_88 : decode B14 88 = .ok (.getfield 42, 3) := by decide +kernel
theorem d14_91 : decode B14 91 = .ok (.iload_n 1, 1) := by decide +kernel
theorem d14_92 : decode B14 92 = .ok (.iaload, 1) := by decide +kernel
theorem d14_93 : decode B14 93 = .ok (.if_icmp .ne 26, 3) := by decide +kernel
theorem d14_96 : decode B14 96 = .ok (.aload_n 0, 1) := by decide +kernel
theorem d14_97 : decode B14 97 = .ok (.iload_n 1, 1) := by decide +kernel
theorem d14_98 : decode B14 98 = .ok (.aload_n 0, 1) := by decide +kernel
theorem d14_99 : decode B14 99 = .ok (.getfield 39, 3) := by decide +kernel
theorem d14_102 : decode B14 102 = .ok (.iload_n 1, 1) := by decide +kernel
theorem d14_103 : decode B14 103 = .ok (.iaload, 1) := by decide +kernel
theorem d14_104 : decode B14 104 = .ok (.aload_n 0, 1) := by decide +kernel
theorem d14_105 : decode B14 105 = .ok (.iload_n 1, 1) := by decide +kernel
theorem d14_106 : decode B14 106 = .ok (.iload_n 2, 1) := by decide +kernel
theorem d14_107 : decode B14 107 = .ok (.iconst 1, 1) := by decide +kernel
theorem d14_108 : decode B14 108 = .ok (.isub, 1) := by decide +kernel
theorem d14_109 : decode B14 109 = .ok (.invokevirtual 110, 3) := by decide +kernel
theorem d14_112 : decode B14 112 = .ok (.iload_n 3, 1) := by decide +kernel
theorem d14_113 : decode B14 113 = .ok (.invokevirtual 106, 3) := by decide +kernel
theorem d14_116 : decode B14 116 = .ok (.goto 51, 3) := by decide +kernel
theorem d14_119 : decode B14 119 = .ok (.aload_n 0, 1) := by decide +kernel
theorem d14_120 : decode B14 120 = .ok (.iload_n 1, 1) := by decide +kernel
theorem d14_121 : decode B14 121 = .ok (.iload_n 2, 1) := by decide +kernel
theorem d14_122 : decode B14 122 = .ok (.bipush 6, 2) := by decide +kernel
theorem d14_124 : decode B14 124 = .ok (.iushr, 1) := by decide +kernel
theorem d14_125 : decode B14 125 = .ok (.aload_n 0, 1) := by decide +kernel
theorem d14_126 : decode B14 126 = .ok (.getfield 32, 3) := by decide +kernel
theorem d14_129 : decode B14 129 = .ok (.iload_n 1, 1) := by decide +kernel
theorem d14_130 : decode B14 130 = .ok (.aaload, 1) := by decide +kernel
theorem d14_131 : decode B14 131 = .ok (.iload_n 2, 1) := by decide +kernel
theorem d14_132 : decode B14 132 = .ok (.bipush 6, 2) := by decide +kernel
theorem d14_134 : decode B14 134 = .ok (.iushr, 1) := by decide +kernel
theorem d14_135 : decode B14 135 = .ok (.laload, 1) := by decide +kernel
theorem d14_136 : decode B14 136 = .ok (.invokevirtual 113, 3) := by decide +kernel
theorem d14_139 : decode B14 139 = .ok (.aload_n 0, 1) := by decide +kernel
theorem d14_140 : decode B14 140 = .ok (.getfield 32, 3) := by decide +kernel
theorem d14_143 : decode B14 143 = .ok (.iload_n 1, 1) := by decide +kernel
theorem d14_144 : decode B14 144 = .ok (.aaload, 1) := by decide +kernel
theorem d14_145 : decode B14 145 = .ok (.iload_n 2, 1) := by decide +kernel
theorem d14_146 : decode B14 146 = .ok (.bipush 6, 2) := by decide +kernel
theorem d14_148 : decode B14 148 = .ok (.iushr, 1) := by decide +kernel
theorem d14_149 : decode B14 149 = .ok (.dup2, 1) := by decide +kernel
theorem d14_150 : decode B14 150 = .ok (.laload, 1) := by decide +kernel
theorem d14_151 : decode B14 151 = .ok (.lconst 1, 1) := by decide +kernel
theorem d14_152 : decode B14 152 = .ok (.iload_n 2, 1) := by decide +kernel
theorem d14_153 : decode B14 153 = .ok (.lshl, 1) := by decide +kernel
theorem d14_154 : decode B14 154 = .ok (.ldc2_w 52, 3) := by decide +kernel
theorem d14_157 : decode B14 157 = .ok (.lxor, 1) := by decide +kernel
theorem d14_158 : decode B14 158 = .ok (.land, 1) := by decide +kernel
theorem d14_159 : decode B14 159 = .ok (.lastore, 1) := by decide +kernel
theorem d14_160 : decode B14 160 = .ok (.aload_n 0, 1) := by decide +kernel
theorem d14_161 : decode B14 161 = .ok (.getfield 36, 3) := by decide +kernel
theorem d14_164 : decode B14 164 = .ok (.iload_n 1, 1) := by decide +kernel
theorem d14_165 : decode B14 165 = .ok (.iload_n 3, 1) := by decide +kernel
theorem d14_166 : decode B14 166 = .ok (.iastore, 1) := by decide +kernel
def Q14 (Z : State) (o0 : Addr) (p2 : Int32) (tl : Int32) (cc : Int32) (lA : Addr) (hA : Addr) (sA : Addr) (cA : Addr) (chA : Addr) (icA : Addr) (bA : Addr) (tvA : Addr) (twA : Addr) (tsA : Addr) (tzA : Addr) (wA : Addr) (nW : Nat) (wF : Nat → Int64) (sF : Nat → Int32) (lF : Nat → Int32) (hF : Nat → Int32) (chF : Nat → Int32) (icF : Nat → Int32) (tvF : Nat → Int32) (twF : Nat → Int32) (tsF : Nat → Int64) (tzF : Nat → Int32) (g : Nat) (h0 : Heap) (n0 : Nat) (v : Option Value) (h : Heap) (L : List Loc) : Prop := ∃ lF' : Nat → Int32, ∃ hF' : Nat → Int32, ∃ sF' : Nat → Int32, ∃ chF' : Nat → Int32, ∃ icF' : Nat → Int32, ∃ tvF' : Nat → Int32, ∃ twF' : Nat → Int32, ∃ tsF' : Nat → Int64, ∃ tzF' : Nat → Int32, ∃ tl' : Int32, ∃ cc' : Int32, ∃ wF' : Nat → Int64, ∃ r : Int32, v = some (.int r) ∧ Fr n0 L ∧ Keep h0 h [tvA, twA, tsA, tzA, o0, lA, hA, sA, icA, chA, wA] ∧ Exa Z h o0 "com/example/whittle/whittle/engine/Domains" ∧ Fld Z h o0 "com/example/whittle/whittle/engine/Domains" "trailLength" "I" (.int tl') ∧ Fld Z h o0 "com/example/whittle/whittle/engine/Domains" "changedCount" "I" (.int cc') ∧ Fld Z h o0 "com/example/whittle/whittle/engine/Domains" "listener" "Lcom/example/whittle/whittle/engine/Domains$RemovalListener;" .null ∧ Fld Z h o0 "com/example/whittle/whittle/engine/Domains" "low" "[I" (.ref lA) ∧ Fld Z h o0 "com/example/whittle/whittle/engine/Domains" "high" "[I" (.ref hA) ∧ Fld Z h o0 "com/example/whittle/whittle/engine/Domains" "sizes" "[I" (.ref sA) ∧ Fld Z h o0 "com/example/whittle/whittle/engine/Domains" "capacities" "[I" (.ref cA) ∧ Fld Z h o0 "com/example/whittle/whittle/engine/Domains" "changed" "[I" (.ref chA) ∧ Fld Z h o0 "com/example/whittle/whittle/engine/Domains" "isChanged" "[Z" (.ref icA) ∧ Fld Z h o0 "com/example/whittle/whittle/engine/Domains" "bits" "[[J" (.ref bA) ∧ Fld Z h o0 "com/example/whittle/whittle/engine/Domains" "trailVariable" "[I" (.ref tvA) ∧ Fld Z h o0 "com/example/whittle/whittle/engine/Domains" "trailWord" "[I" (.ref twA) ∧ Fld Z h o0 "com/example/whittle/whittle/engine/Domains" "trailSaved" "[J" (.ref tsA) ∧ Fld Z h o0 "com/example/whittle/whittle/engine/Domains" "trailSize" "[I" (.ref tzA) ∧ AV Z h bA (.array .long) 1 (fun _ => Value.ref wA) ∧ AV Z h wA .long nW (fun k => .long (wF' k)) ∧ AV Z h sA .int 1 (fun k => .int (sF' k)) ∧ AV Z h lA .int 1 (fun k => .int (lF' k)) ∧ AV Z h hA .int 1 (fun k => .int (hF' k)) ∧ AV Z h chA .int 1 (fun k => .int (chF' k)) ∧ AV Z h icA .boolean 1 (fun k => .int (icF' k)) ∧ AV Z h tvA .int 1024 (fun k => .int (tvF' k)) ∧ AV Z h twA .int 1024 (fun k => .int (twF' k)) ∧ AV Z h tsA .long 1024 (fun k => .long (tsF' k)) ∧ AV Z h tzA .int 1024 (fun k => .int (tzF' k)) ∧ own_R14 p2 tl (lF (0 : Int32).toNatClampNeg) (hF (0 : Int32).toNatClampNeg) wF nW g tl' cc' (icF' (0 : Int32).toNatClampNeg) (lF' (0 : Int32).toNatClampNeg) (hF' (0 : Int32).toNatClampNeg) wF'
abbrev RM_3_0_0_50 : Room := { frames := 3, cells := 0, slots := 0, locals := 50 }
theorem ef_14_aaa (m : MethodId) (x0 : Addr) (x1 : Int32) (x2 : Int32) : entryFrame m #[(.ref x0), (.int x1), (.int x2)] 5 = mkF m 0 #[.val (.ref x0), .val (.int x1), .val (.int x2), .unset, .unset] [] := by first | (simp [entryFrame, mkF, argsToLocals, Value.category]; done) | rfl
theorem rm14 (l : Launch) (Z : State) (a0 : Array Value) (hw : HW a0 Z) (ws : List Jvm.Cond) (o0 : Addr) (p2 : Int32) (tl : Int32) (cc : Int32) (lA : Addr) (hA : Addr) (sA : Addr) (cA : Addr) (chA : Addr) (icA : Addr) (bA : Addr) (tvA : Addr) (twA : Addr) (tsA : Addr) (tzA : Addr) (wA : Addr) (nW : Nat) (wF : Nat → Int64) (sF : Nat → Int32) (lF : Nat → Int32) (hF : Nat → Int32) (chF : Nat → Int32) (icF : Nat → Int32) (tvF : Nat → Int32) (twF : Nat → Int32) (tsF : Nat → Int64) (tzF : Nat → Int32) (g : Nat) (h0 : Heap) (n0 : Nat) (Z0 : n0 ≤ h0.size) (ha0 : Exa Z h0 o0 "com/example/whittle/whittle/engine/Domains") (ha1 : Fld Z h0 o0 "com/example/whittle/whittle/engine/Domains" "trailLength" "I" (.int tl)) (ha2 : Fld Z h0 o0 "com/example/whittle/whittle/engine/Domains" "changedCount" "I" (.int cc)) (ha3 : Fld Z h0 o0 "com/example/whittle/whittle/engine/Domains" "listener" "Lcom/example/whittle/whittle/engine/Domains$RemovalListener;" .null) (ha4 : Fld Z h0 o0 "com/example/whittle/whittle/engine/Domains" "low" "[I" (.ref lA)) (ha5 : Fld Z h0 o0 "com/example/whittle/whittle/engine/Domains" "high" "[I" (.ref hA)) (ha6 : Fld Z h0 o0 "com/example/whittle/whittle/engine/Domains" "sizes" "[I" (.ref sA)) (ha7 : Fld Z h0 o0 "com/example/whittle/whittle/engine/Domains" "capacities" "[I" (.ref cA)) (ha8 : Fld Z h0 o0 "com/example/whittle/whittle/engine/Domains" "changed" "[I" (.ref chA)) (ha9 : Fld Z h0 o0 "com/example/whittle/whittle/engine/Domains" "isChanged" "[Z" (.ref icA)) (ha10 : Fld Z h0 o0 "com/example/whittle/whittle/engine/Domains" "bits" "[[J" (.ref bA)) (ha11 : Fld Z h0 o0 "com/example/whittle/whittle/engine/Domains" "trailVariable" "[I" (.ref tvA)) (ha12 : Fld Z h0 o0 "com/example/whittle/whittle/engine/Domains" "trailWord" "[I" (.ref twA)) (ha13 : Fld Z h0 o0 "com/example/whittle/whittle/engine/Domains" "trailSaved" "[J" (.ref tsA)) (ha14 : Fld Z h0 o0 "com/example/whittle/whittle/engine/Domains" "trailSize" "[I" (.ref tzA)) (ha15 : AV Z h0 bA (.array .long) 1 (fun _ => Value.ref wA)) (ha16 : AV Z h0 wA .long nW (fun k => .long (wF k))) (ha17 : AV Z h0 sA .int 1 (fun k => .int (sF k))) (ha18 : AV Z h0 lA .int 1 (fun k => .int (lF k))) (ha19 : AV Z h0 hA .int 1 (fun k => .int (hF k))) (ha20 : AV Z h0 chA .int 1 (fun k => .int (chF k))) (ha21 : AV Z h0 icA .boolean 1 (fun k => .int (icF k))) (ha22 : AV Z h0 tvA .int 1024 (fun k => .int (tvF k))) (ha23 : AV Z h0 twA .int 1024 (fun k => .int (twF k))) (ha24 : AV Z h0 tsA .long 1024 (fun k => .long (tsF k))) (ha25 : AV Z h0 tzA .int 1024 (fun k => .int (tzF k))) (ha26 : n0 ≤ o0) (ha27 : n0 ≤ wA) (ha28 : n0 ≤ sA) (ha29 : n0 ≤ lA) (ha30 : n0 ≤ hA) (ha31 : n0 ≤ chA) (ha32 : n0 ≤ icA) (ha33 : n0 ≤ tvA) (ha34 : n0 ≤ twA) (ha35 : n0 ≤ tsA) (ha36 : n0 ≤ tzA) (hne_o0_bA : o0 ≠ bA) (hne_o0_wA : o0 ≠ wA) (hne_o0_sA : o0 ≠ sA) (hne_o0_lA : o0 ≠ lA) (hne_o0_hA : o0 ≠ hA) (hne_o0_chA : o0 ≠ chA) (hne_o0_icA : o0 ≠ icA) (hne_o0_tvA : o0 ≠ tvA) (hne_o0_twA : o0 ≠ twA) (hne_o0_tsA : o0 ≠ tsA) (hne_o0_tzA : o0 ≠ tzA) (hne_bA_wA : bA ≠ wA) (hne_bA_sA : bA ≠ sA) (hne_bA_lA : bA ≠ lA) (hne_bA_hA : bA ≠ hA) (hne_bA_chA : bA ≠ chA) (hne_bA_icA : bA ≠ icA) (hne_bA_tvA : bA ≠ tvA) (hne_bA_twA : bA ≠ twA) (hne_bA_tsA : bA ≠ tsA) (hne_bA_tzA : bA ≠ tzA) (hne_wA_sA : wA ≠ sA) (hne_wA_lA : wA ≠ lA) (hne_wA_hA : wA ≠ hA) (hne_wA_chA : wA ≠ chA) (hne_wA_icA : wA ≠ icA) (hne_wA_tvA : wA ≠ tvA) (hne_wA_twA : wA ≠ twA) (hne_wA_tsA : wA ≠ tsA) (hne_wA_tzA : wA ≠ tzA) (hne_sA_lA : sA ≠ lA) (hne_sA_hA : sA ≠ hA) (hne_sA_chA : sA ≠ chA) (hne_sA_icA : sA ≠ icA) (hne_sA_tvA : sA ≠ tvA) (hne_sA_twA : sA ≠ twA) (hne_sA_tsA : sA ≠ tsA) (hne_sA_tzA : sA ≠ tzA) (hne_lA_hA : lA ≠ hA) (hne_lA_chA : lA ≠ chA) (hne_lA_icA : lA ≠ icA) (hne_lA_tvA : lA ≠ tvA) (hne_lA_twA : lA ≠ twA) (hne_lA_tsA : lA ≠ tsA) (hne_lA_tzA : lA ≠ tzA) (hne_hA_chA : hA ≠ chA) (hne_hA_icA : hA ≠ icA) (hne_hA_tvA : hA ≠ tvA) (hne_hA_twA : hA ≠ twA) (hne_hA_tsA : hA ≠ tsA) (hne_hA_tzA : hA ≠ tzA) (hne_chA_icA : chA ≠ icA) (hne_chA_tvA : chA ≠ tvA) (hne_chA_twA : chA ≠ twA) (hne_chA_tsA : chA ≠ tsA) (hne_chA_tzA : chA ≠ tzA) (hne_icA_tvA : icA ≠ tvA) (hne_icA_twA : icA ≠ twA) (hne_icA_tsA : icA ≠ tsA) (hne_icA_tzA : icA ≠ tzA) (hne_tvA_twA : tvA ≠ twA) (hne_tvA_tsA : tvA ≠ tsA) (hne_tvA_tzA : tvA ≠ tzA) (hne_twA_tsA : twA ≠ tsA) (hne_twA_tzA : twA ≠ tzA) (hne_tsA_tzA : tsA ≠ tzA) (hI : own_I (lF (0 : Int32).toNatClampNeg) (hF (0 : Int32).toNatClampNeg) wF nW g) (htl : ¬ tl = (1024 : Int32)) (htb : ¬ tl < 0 ∧ tl.toNatClampNeg < 1024) (hcc : (icF (0 : Int32).toNatClampNeg) = 0 → cc = 0) :
    MetFree l y14 (head1 (Jvm.Cond.code y14 prog_22_method_11_code 5 (some .boolean) :: ws) RM_3_0_0_50) (fun a U => a = #[(.ref o0), (.int 0), (.int p2)] ∧ Z.Warmed39 U.vm ∧ U.heap = h0) (fun _ _ _ _ _ => True) (fun _ U o U' => ∃ v L, o = .returned v ∧ Q14 Z o0 p2 tl cc lA hA sA cA chA icA bA tvA twA tsA tzA wA nW wF sF lF hF chF icF tvF twF tsF tzF g h0 n0 v U'.heap L ∧ FrameEnd U o U' L RM_3_0_0_50.cells RM_3_0_0_50.slots) := by
  refine MetFree.of_bodySF (plainFor_of_name pn_2) hisR ?_
  intro p e s m args below meth c s₁ Bd hml0 hP hK
  obtain ⟨rfl, hZ, hh⟩ := hP
  have hx := Bd.exec
  have hby := Bd.bytes
  have hml : c.maxLocals = 5 := hml0
  have hown : s.vm.findClass "com/example/whittle/whittle/engine/Domains" = some m.cls := findClass_of_methodNamed Bd.named
  have X0 : Stand p l e RM_3_0_0_50 s m _ below meth c s₁ [] 0 0 := Stand.of_body Bd
  have e0 : s₁.heap = h0 := by rw [← hh, Bd.state]; rfl
  have N0 := Fr.nil n0
  refine Go.into (P := fun oo uu => ∃ v L, oo = .returned v ∧ Q14 Z o0 p2 tl cc lA hA sA cA chA icA bA tvA twA tsA tzA wA nW wF sF lF hF chF icF tvF twF tsF tzF g h0 n0 v uu.heap L ∧ FrameEnd s oo uu L RM_3_0_0_50.cells RM_3_0_0_50.slots) (ef_14_aaa m o0 (0 : Int32) p2) ?_
  show Go p e below _ (s₁.setTop (mkF m 0 #[sR o0, sI 0, sI p2, .unset, .unset] []))
  have hB1a : ¬ (hF (0 : Int32).toNatClampNeg) < (f8 (p2 + (1 : Int32)) (lF (0 : Int32).toNatClampNeg)) → ¬ (((f8 (p2 + (1 : Int32)) (lF (0 : Int32).toNatClampNeg)).toUInt32 >>> ((6 : Int32) &&& 31).toUInt32).toInt32) < 0 ∧ (((f8 (p2 + (1 : Int32)) (lF (0 : Int32).toNatClampNeg)).toUInt32 >>> ((6 : Int32) &&& 31).toUInt32).toInt32).toNatClampNeg < nW := (own_nx_eq hI (own_m8 _ _)).1
  have hB2a : ¬ (hF (0 : Int32).toNatClampNeg) < (f8 (p2 + (1 : Int32)) (lF (0 : Int32).toNatClampNeg)) → ((wF (((f8 (p2 + (1 : Int32)) (lF (0 : Int32).toNatClampNeg)).toUInt32 >>> ((6 : Int32) &&& 31).toUInt32).toInt32).toNatClampNeg) &&& ((-1 : Int64) <<< ((f8 (p2 + (1 : Int32)) (lF (0 : Int32).toNatClampNeg)) &&& 0x3f).toInt64)) = (0 : Int64) → ¬ ((((f8 (p2 + (1 : Int32)) (lF (0 : Int32).toNatClampNeg)).toUInt32 >>> ((6 : Int32) &&& 31).toUInt32).toInt32) + (1 : Int32)) < 0 ∧ ((((f8 (p2 + (1 : Int32)) (lF (0 : Int32).toNatClampNeg)).toUInt32 >>> ((6 : Int32) &&& 31).toUInt32).toInt32) + (1 : Int32)).toNatClampNeg < nW := (own_nx_eq hI (own_m8 _ _)).2.1
  have hTa : ¬ (hF (0 : Int32).toNatClampNeg) < (f8 (p2 + (1 : Int32)) (lF (0 : Int32).toNatClampNeg)) → ((wF (((f8 (p2 + (1 : Int32)) (lF (0 : Int32).toNatClampNeg)).toUInt32 >>> ((6 : Int32) &&& 31).toUInt32).toInt32).toNatClampNeg) &&& ((-1 : Int64) <<< ((f8 (p2 + (1 : Int32)) (lF (0 : Int32).toNatClampNeg)) &&& 0x3f).toInt64)) = (0 : Int64) → ¬ (wF ((((f8 (p2 + (1 : Int32)) (lF (0 : Int32).toNatClampNeg)).toUInt32 >>> ((6 : Int32) &&& 31).toUInt32).toInt32) + (1 : Int32)).toNatClampNeg) = (0 : Int64) := (own_nx_eq hI (own_m8 _ _)).2.2.1
  have hB1b : ¬ (f10 (p2 - (1 : Int32)) (hF (0 : Int32).toNatClampNeg)) < (lF (0 : Int32).toNatClampNeg) → ¬ (((f10 (p2 - (1 : Int32)) (hF (0 : Int32).toNatClampNeg)).toUInt32 >>> ((6 : Int32) &&& 31).toUInt32).toInt32) < 0 ∧ (((f10 (p2 - (1 : Int32)) (hF (0 : Int32).toNatClampNeg)).toUInt32 >>> ((6 : Int32) &&& 31).toUInt32).toInt32).toNatClampNeg < nW := (own_pv_eq hI (own_m10 _ _)).1
  have hB2b : ¬ (f10 (p2 - (1 : Int32)) (hF (0 : Int32).toNatClampNeg)) < (lF (0 : Int32).toNatClampNeg) → ((wF (((f10 (p2 - (1 : Int32)) (hF (0 : Int32).toNatClampNeg)).toUInt32 >>> ((6 : Int32) &&& 31).toUInt32).toInt32).toNatClampNeg) &&& (((-1 : Int64).toUInt64 >>> (((63 : Int32) - ((f10 (p2 - (1 : Int32)) (hF (0 : Int32).toNatClampNeg)) &&& (63 : Int32))) &&& 0x3f).toInt64.toUInt64).toInt64)) = (0 : Int64) → ¬ ((((f10 (p2 - (1 : Int32)) (hF (0 : Int32).toNatClampNeg)).toUInt32 >>> ((6 : Int32) &&& 31).toUInt32).toInt32) + (-1 : Int32)) < 0 ∧ ((((f10 (p2 - (1 : Int32)) (hF (0 : Int32).toNatClampNeg)).toUInt32 >>> ((6 : Int32) &&& 31).toUInt32).toInt32) + (-1 : Int32)).toNatClampNeg < nW := (own_pv_eq hI (own_m10 _ _)).2.1
  have hTb : ¬ (f10 (p2 - (1 : Int32)) (hF (0 : Int32).toNatClampNeg)) < (lF (0 : Int32).toNatClampNeg) → ((wF (((f10 (p2 - (1 : Int32)) (hF (0 : Int32).toNatClampNeg)).toUInt32 >>> ((6 : Int32) &&& 31).toUInt32).toInt32).toNatClampNeg) &&& (((-1 : Int64).toUInt64 >>> (((63 : Int32) - ((f10 (p2 - (1 : Int32)) (hF (0 : Int32).toNatClampNeg)) &&& (63 : Int32))) &&& 0x3f).toInt64.toUInt64).toInt64)) = (0 : Int64) → ¬ (wF ((((f10 (p2 - (1 : Int32)) (hF (0 : Int32).toNatClampNeg)).toUInt32 >>> ((6 : Int32) &&& 31).toUInt32).toInt32) + (-1 : Int32)).toNatClampNeg) = (0 : Int64) := (own_pv_eq hI (own_m10 _ _)).2.2.1
  have hB : ¬ p2 < (lF (0 : Int32).toNatClampNeg) → ¬ (hF (0 : Int32).toNatClampNeg) < p2 → ¬ ((p2.toUInt32 >>> ((6 : Int32) &&& 31).toUInt32).toInt32) < 0 ∧ ((p2.toUInt32 >>> ((6 : Int32) &&& 31).toUInt32).toInt32).toNatClampNeg < nW := fun a b => hI.toown_I0.B _ a b
  refine Vi (s₁.setTop (mkF m 3 #[sR o0, sI 0, sI p2, .unset, .unset] [(.int p2), (.int 0), (.ref o0)])) (fun tZ kZ => ?_) ?_
  · refine XS.aloadN X0.here hx rfl (hb hby d14_0) rfl rfl ?_
    refine XS.iloadN X0.here hx rfl (hb hby d14_1) rfl ?_
    refine XS.iloadN X0.here hx rfl (hb hby d14_2) rfl ?_
    exact kZ
  obtain ⟨cq1, kq1, q1a, q1b, q1c⟩ := isOf hZ e0 ha0
  obtain ⟨_, _, ⟨T1, L1, k1, n1⟩, -, X1, ⟨Lc1, hQ1, l1, y1, z1⟩, st1⟩ := X0.virtualBack hx (y := y15) (z := y15) hown (wz hZ hw 107 rfl) (wz hZ hw 108 rfl) (notFace_of_selects (args := #[]) (wz hZ hw 110 rfl)) (wz hZ hw 110 rfl) (wz hZ hw 109 rfl) (by decide) (backOf (W := 0) (rm15 l Z a0 hw [] o0 p2 lA lF hA hF bA wA nW wF h0 n0 Z0 ha0 ha4 ha18 ha5 ha19 ha10 ha15 ha16 hB) hZ (wq hw 111 rfl) (wq hw 2 rfl) (by decide) (by decide)) q1a q1c (g := (mkF m 3 #[sR o0, sI 0, sI p2, .unset, .unset] [(.int p2), (.int 0), (.ref o0)])) rfl (by rw [hml]; rfl) (Steps.refl _) (argsL := [(.int 0), (.int p2)]) (rest := []) (lenOf pd_9 rfl) rfl (leW rfl) (hb hby d14_3) (fun _ _ => ⟨rfl, e0, (by decide : 0 + 0 ≤ _), (by decide : 0 + 0 ≤ _)⟩)
  dsimp only [Pt.U, Pt.locs, Pt.cells, Pt.slots] at X1 l1 y1 z1 st1 hQ1
  subst l1 y1 z1
  obtain ⟨rfl, N1q, e1⟩ := hQ1
  have N1 := Fr.app N0 N1q
  refine Go.via (fun t k => st1.trans k) ?_
  by_cases hc6 : (f15 o0 p2 lA lF hA hF bA wA nW wF) = (0 : Int32)
  · refine Vi (T1.setTop (mkF m 9 #[sR o0, sI 0, sI p2, .unset, .unset] [])) (fun tZ kZ => ?_) ?_
    · show Steps p.tables e below (T1.setTop (mkF m 6 #[sR o0, sI 0, sI p2, .unset, .unset] [(.int (f15 o0 p2 lA lF hA hF bA wA nW wF))])) _
      refine XS.ifNo X1.here hx rfl (hb hby d14_6) rfl ((if0 _ _).trans (teq hc6).2) ?_
      exact kZ
    refine Vi (T1.setTop (mkF m 10 #[sR o0, sI 0, sI p2, .unset, .unset] [(.int 1)])) (fun tZ kZ => ?_) ?_
    · refine XS.iconst X1.here hx rfl (hb hby d14_9) ?_
      exact kZ
    refine Go.retN X1 hx Bd.notSynchronized (t := .boolean) Bd.returns (by simp) (hb hby d14_10) (by decide) (by decide) ?_
    rw [e1]
    exact ⟨(lF), (hF), (sF), (chF), (icF), (tvF), (twF), (tsF), (tzF), (tl), (cc), (wF), _, rfl, N1, (Keep.refl h0 [tvA, twA, tsA, tzA, o0, lA, hA, sA, icA, chA, wA]), ha0, ha1, ha2, ha3, ha4, ha5, ha6, ha7, ha8, ha9, ha10, ha11, ha12, ha13, ha14, ha15, ha16, ha17, ha18, ha19, ha20, ha21, ha22, ha23, ha24, ha25, own_E14 (own_no hI hc6) (Or.inl rfl) hcc⟩
  · refine Vi (T1.setTop (mkF m 11 #[sR o0, sI 0, sI p2, .unset, .unset] [])) (fun tZ kZ => ?_) ?_
    · show Steps p.tables e below (T1.setTop (mkF m 6 #[sR o0, sI 0, sI p2, .unset, .unset] [(.int (f15 o0 p2 lA lF hA hF bA wA nW wF))])) _
      refine XS.ifYes X1.here hx rfl (pc0 := 6) (pc' := 11) rfl (hb hby d14_6) rfl ((if0 _ _).trans (feq hc6).2) (by decide) (by decide) ?_
      exact kZ
    refine Vi (T1.setTop (mkF m 12 #[sR o0, sI 0, sI p2, .unset, .unset] [(.ref o0)])) (fun tZ kZ => ?_) ?_
    · refine XS.aloadN X1.here hx rfl (hb hby d14_11) rfl rfl ?_
      exact kZ
    obtain ⟨T2, X2, e2, st2⟩ := getF X1 hx hZ hown (host := "") (Or.inl (wq hw 70 rfl)) Via.refl e1 ha3 (g := (mkF m 12 #[sR o0, sI 0, sI p2, .unset, .unset] [(.ref o0)])) rfl rfl (hb hby d14_12)
    refine Go.via st2 ?_
    refine Vi (T2.setTop (mkF m 29 #[sR o0, sI 0, sI p2, .unset, .unset] [])) (fun tZ kZ => ?_) ?_
    · refine XS.ifnullYes X2.here hx rfl (pc0 := 15) (pc' := 29) rfl (hb hby d14_15) rfl (by decide) (by decide) ?_
      exact kZ
    obtain ⟨hcl, hch, -⟩ := own_in hI hc6
    refine Vi (T2.setTop (mkF m 30 #[sR o0, sI 0, sI p2, .unset, .unset] [(.ref o0)])) (fun tZ kZ => ?_) ?_
    · refine XS.aloadN X2.here hx rfl (hb hby d14_29) rfl rfl ?_
      exact kZ
    obtain ⟨T3, X3, e3, st3⟩ := getF X2 hx hZ hown (host := "") (Or.inl (wq hw 34 rfl)) Via.refl e2 ha6 (g := (mkF m 30 #[sR o0, sI 0, sI p2, .unset, .unset] [(.ref o0)])) rfl rfl (hb hby d14_30)
    refine Go.via st3 ?_
    refine Vi (T3.setTop (mkF m 40 #[sR o0, sI 0, sI p2, sI ((sF (0 : Int32).toNatClampNeg) - (1 : Int32)), .unset] [(.ref o0), (.int p2)])) (fun tZ kZ => ?_) ?_
    · refine XS.iloadN X3.here hx rfl (hb hby d14_33) rfl ?_
      refine AV.iaload ha17 X3 hx hZ e3 (j := (0 : Int32)) (by decide) (hb hby d14_34) ?_
      refine XS.iconst X3.here hx rfl (hb hby d14_35) ?_
      refine XS.isub X3.here hx rfl (hb hby d14_36) rfl ?_
      refine XS.istoreN X3.here hx rfl (hb hby d14_37) rfl (l' := #[sR o0, sI 0, sI p2, sI ((sF (0 : Int32).toNatClampNeg) - (1 : Int32)), .unset]) rfl ?_
      refine XS.iloadN X3.here hx rfl (hb hby d14_38) rfl ?_
      refine XS.aloadN X3.here hx rfl (hb hby d14_39) rfl rfl ?_
      exact kZ
    obtain ⟨T4, X4, e4, st4⟩ := getF X3 hx hZ hown (host := "") (Or.inl (wq hw 36 rfl)) Via.refl e3 ha4 (g := (mkF m 40 #[sR o0, sI 0, sI p2, sI ((sF (0 : Int32).toNatClampNeg) - (1 : Int32)), .unset] [(.ref o0), (.int p2)])) rfl rfl (hb hby d14_40)
    refine Go.via st4 ?_
    refine Vi (T4.setTop (mkF m 45 #[sR o0, sI 0, sI p2, sI ((sF (0 : Int32).toNatClampNeg) - (1 : Int32)), .unset] [(.int (lF (0 : Int32).toNatClampNeg)), (.int p2)])) (fun tZ kZ => ?_) ?_
    · refine XS.iloadN X4.here hx rfl (hb hby d14_43) rfl ?_
      refine AV.iaload ha18 X4 hx hZ e4 (j := (0 : Int32)) (by decide) (hb hby d14_44) ?_
      exact kZ
    by_cases hc45 : p2 = (lF (0 : Int32).toNatClampNeg)
    · refine Vi (T4.setTop (mkF m 48 #[sR o0, sI 0, sI p2, sI ((sF (0 : Int32).toNatClampNeg) - (1 : Int32)), .unset] [])) (fun tZ kZ => ?_) ?_
      · show Steps p.tables e below (T4.setTop (mkF m 45 #[sR o0, sI 0, sI p2, sI ((sF (0 : Int32).toNatClampNeg) - (1 : Int32)), .unset] [(.int (lF (0 : Int32).toNatClampNeg)), (.int p2)])) _
        refine XS.icmpNo X4.here hx rfl (hb hby d14_45) rfl (teq hc45).2 ?_
        exact kZ
      refine Vi (T4.setTop (mkF m 53 #[sR o0, sI 0, sI p2, sI ((sF (0 : Int32).toNatClampNeg) - (1 : Int32)), .unset] [(.int (p2 + (1 : Int32))), (.int 0), (.ref o0)])) (fun tZ kZ => ?_) ?_
      · refine XS.aloadN X4.here hx rfl (hb hby d14_48) rfl rfl ?_
        refine XS.iloadN X4.here hx rfl (hb hby d14_49) rfl ?_
        refine XS.iloadN X4.here hx rfl (hb hby d14_50) rfl ?_
        refine XS.iconst X4.here hx rfl (hb hby d14_51) ?_
        refine XS.iadd X4.here hx rfl (hb hby d14_52) rfl ?_
        exact kZ
      obtain ⟨cq5, kq5, q5a, q5b, q5c⟩ := isOf hZ e4 ha0
      obtain ⟨_, _, ⟨T5, L5, k5, n5⟩, -, X5, ⟨Lc5, hQ5, l5, y5, z5⟩, st5⟩ := X4.virtualBack hx (y := y7) (z := y7) hown (wz hZ hw 72 rfl) (wz hZ hw 73 rfl) (notFace_of_selects (args := #[]) (wz hZ hw 75 rfl)) (wz hZ hw 75 rfl) (wz hZ hw 74 rfl) (by decide) (backOf (W := 0) (rm7 l Z a0 hw [] o0 (p2 + (1 : Int32)) lA lF hA hF bA wA nW wF h0 n0 Z0 ha0 ha4 ha18 ha5 ha19 ha10 ha15 ha16 hB1a hB2a hTa) hZ (wq hw 76 rfl) (wq hw 2 rfl) (by decide) (by decide)) q5a q5c (g := (mkF m 53 #[sR o0, sI 0, sI p2, sI ((sF (0 : Int32).toNatClampNeg) - (1 : Int32)), .unset] [(.int (p2 + (1 : Int32))), (.int 0), (.ref o0)])) rfl (by rw [hml]; rfl) (Steps.refl _) (argsL := [(.int 0), (.int (p2 + (1 : Int32)))]) (rest := []) (lenOf pd_5 rfl) rfl (leW rfl) (hb hby d14_53) (fun _ _ => ⟨rfl, e4, (by decide : 0 + 0 + 0 ≤ _), (by decide : 0 + 0 + 0 ≤ _)⟩)
      dsimp only [Pt.U, Pt.locs, Pt.cells, Pt.slots] at X5 l5 y5 z5 st5 hQ5
      subst l5 y5 z5
      obtain ⟨rfl, N5q, e5⟩ := hQ5
      have N5 := Fr.app N1 N5q
      refine Go.via (fun t k => st5.trans k) ?_
      refine Vi (T5.setTop (mkF m 74 #[sR o0, sI 0, sI p2, sI ((sF (0 : Int32).toNatClampNeg) - (1 : Int32)), sI (f7 o0 (p2 + (1 : Int32)) lA lF hA hF bA wA nW wF)] [(.ref o0), (.int (if (f7 o0 (p2 + (1 : Int32)) lA lF hA hF bA wA nW wF) < (0 : Int32) then (p2 + (1 : Int32)) else (f7 o0 (p2 + (1 : Int32)) lA lF hA hF bA wA nW wF))), (.int 0), (.ref o0)])) (fun tZ kZ => ?_) ?_
      · refine XS.istore X5.here hx rfl (hb hby d14_56) rfl (l' := #[sR o0, sI 0, sI p2, sI ((sF (0 : Int32).toNatClampNeg) - (1 : Int32)), sI (f7 o0 (p2 + (1 : Int32)) lA lF hA hF bA wA nW wF)]) rfl ?_
        refine XS.aloadN X5.here hx rfl (hb hby d14_58) rfl rfl ?_
        refine XS.iloadN X5.here hx rfl (hb hby d14_59) rfl ?_
        refine XS.iload X5.here hx rfl (hb hby d14_60) rfl ?_
        have sg62 : Steps p.tables e below (T5.setTop (mkF m 73 #[sR o0, sI 0, sI p2, sI ((sF (0 : Int32).toNatClampNeg) - (1 : Int32)), sI (f7 o0 (p2 + (1 : Int32)) lA lF hA hF bA wA nW wF)] [(.int (if (f7 o0 (p2 + (1 : Int32)) lA lF hA hF bA wA nW wF) < (0 : Int32) then (p2 + (1 : Int32)) else (f7 o0 (p2 + (1 : Int32)) lA lF hA hF bA wA nW wF))), (.int 0), (.ref o0)])) tZ → Steps p.tables e below (T5.setTop (mkF m 62 #[sR o0, sI 0, sI p2, sI ((sF (0 : Int32).toNatClampNeg) - (1 : Int32)), sI (f7 o0 (p2 + (1 : Int32)) lA lF hA hF bA wA nW wF)] [(.int (f7 o0 (p2 + (1 : Int32)) lA lF hA hF bA wA nW wF)), (.int 0), (.ref o0)])) tZ := by
          intro kj
          by_cases hc62 : (f7 o0 (p2 + (1 : Int32)) lA lF hA hF bA wA nW wF) < (0 : Int32)
          · try simp only [if_pos hc62] at kj
            refine XS.ifNo X5.here hx rfl (hb hby d14_62) rfl ((if0 _ _).trans (tlt hc62).2.1) ?_
            refine XS.iloadN X5.here hx rfl (hb hby d14_65) rfl ?_
            refine XS.iconst X5.here hx rfl (hb hby d14_66) ?_
            refine XS.iadd X5.here hx rfl (hb hby d14_67) rfl ?_
            refine XS.goto X5.here hx rfl (pc0 := 68) (pc' := 73) rfl (hb hby d14_68) (by decide) (by decide) ?_
            exact kj
          · try simp only [if_neg hc62] at kj
            refine XS.ifYes X5.here hx rfl (pc0 := 62) (pc' := 71) rfl (hb hby d14_62) rfl ((if0 _ _).trans (flt hc62).2.1) (by decide) (by decide) ?_
            refine XS.iload X5.here hx rfl (hb hby d14_71) rfl ?_
            exact kj
        refine sg62 ?_
        show Steps p.tables e below (T5.setTop (mkF m 73 #[sR o0, sI 0, sI p2, sI ((sF (0 : Int32).toNatClampNeg) - (1 : Int32)), sI (f7 o0 (p2 + (1 : Int32)) lA lF hA hF bA wA nW wF)] [(.int (if (f7 o0 (p2 + (1 : Int32)) lA lF hA hF bA wA nW wF) < (0 : Int32) then (p2 + (1 : Int32)) else (f7 o0 (p2 + (1 : Int32)) lA lF hA hF bA wA nW wF))), (.int 0), (.ref o0)])) _
        refine XS.aloadN X5.here hx rfl (hb hby d14_73) rfl rfl ?_
        exact kZ
      obtain ⟨T6, X6, e6, st6⟩ := getF X5 hx hZ hown (host := "") (Or.inl (wq hw 38 rfl)) Via.refl e5 ha5 (g := (mkF m 74 #[sR o0, sI 0, sI p2, sI ((sF (0 : Int32).toNatClampNeg) - (1 : Int32)), sI (f7 o0 (p2 + (1 : Int32)) lA lF hA hF bA wA nW wF)] [(.ref o0), (.int (if (f7 o0 (p2 + (1 : Int32)) lA lF hA hF bA wA nW wF) < (0 : Int32) then (p2 + (1 : Int32)) else (f7 o0 (p2 + (1 : Int32)) lA lF hA hF bA wA nW wF))), (.int 0), (.ref o0)])) rfl rfl (hb hby d14_74)
      refine Go.via st6 ?_
      refine Vi (T6.setTop (mkF m 80 #[sR o0, sI 0, sI p2, sI ((sF (0 : Int32).toNatClampNeg) - (1 : Int32)), sI (f7 o0 (p2 + (1 : Int32)) lA lF hA hF bA wA nW wF)] [(.int ((sF (0 : Int32).toNatClampNeg) - (1 : Int32))), (.int (hF (0 : Int32).toNatClampNeg)), (.int (if (f7 o0 (p2 + (1 : Int32)) lA lF hA hF bA wA nW wF) < (0 : Int32) then (p2 + (1 : Int32)) else (f7 o0 (p2 + (1 : Int32)) lA lF hA hF bA wA nW wF))), (.int 0), (.ref o0)])) (fun tZ kZ => ?_) ?_
      · refine XS.iloadN X6.here hx rfl (hb hby d14_77) rfl ?_
        refine AV.iaload ha19 X6 hx hZ e6 (j := (0 : Int32)) (by decide) (hb hby d14_78) ?_
        refine XS.iloadN X6.here hx rfl (hb hby d14_79) rfl ?_
        exact kZ
      obtain ⟨cq7, q7, q7'⟩ := ha0.cell
      obtain ⟨_, _, ⟨T7, L7, k7, n7⟩, -, X7, ⟨Lc7, hQ7, l7, y7, z7⟩, st7⟩ := X6.privateBack hx (y := y11) hown (wz hZ hw 89 rfl) (wz hZ hw 90 rfl) (mvT hZ (own_selp (y := y11) (wq hw 90 rfl) (wq hw 91 rfl) (wq hw 1 rfl) (by decide))) (Cond.privateMethod_at (mvP hZ (wq hw 91 rfl) (args := #[]))) (wz hZ hw 92 rfl) (by decide) (backOf (W := 0) (rm11 l Z a0 hw [] o0 (if (f7 o0 (p2 + (1 : Int32)) lA lF hA hF bA wA nW wF) < (0 : Int32) then (p2 + (1 : Int32)) else (f7 o0 (p2 + (1 : Int32)) lA lF hA hF bA wA nW wF)) (hF (0 : Int32).toNatClampNeg) ((sF (0 : Int32).toNatClampNeg) - (1 : Int32)) tl cc lA hA sA cA chA icA bA tvA twA tsA tzA sF lF hF tvF twF tsF tzF h0 n0 Z0 ha0 ha1 ha2 ha3 ha4 ha5 ha6 ha7 ha8 ha9 ha10 ha11 ha12 ha13 ha14 ha17 ha18 ha19 ha22 ha23 ha24 ha25 ha26 ha28 ha29 ha30 ha33 ha34 ha35 ha36 hne_o0_sA hne_o0_lA hne_o0_hA hne_o0_tvA hne_o0_twA hne_o0_tsA hne_o0_tzA hne_sA_lA hne_sA_hA hne_sA_tvA hne_sA_twA hne_sA_tsA hne_sA_tzA hne_lA_hA hne_lA_tvA hne_lA_twA hne_lA_tsA hne_lA_tzA hne_hA_tvA hne_hA_twA hne_hA_tsA hne_hA_tzA hne_tvA_twA hne_tvA_tsA hne_tvA_tzA hne_twA_tsA hne_twA_tzA hne_tsA_tzA htl htb) hZ (wq hw 92 rfl) (wq hw 2 rfl) (by decide) (by decide)) (g := (mkF m 80 #[sR o0, sI 0, sI p2, sI ((sF (0 : Int32).toNatClampNeg) - (1 : Int32)), sI (f7 o0 (p2 + (1 : Int32)) lA lF hA hF bA wA nW wF)] [(.int ((sF (0 : Int32).toNatClampNeg) - (1 : Int32))), (.int (hF (0 : Int32).toNatClampNeg)), (.int (if (f7 o0 (p2 + (1 : Int32)) lA lF hA hF bA wA nW wF) < (0 : Int32) then (p2 + (1 : Int32)) else (f7 o0 (p2 + (1 : Int32)) lA lF hA hF bA wA nW wF))), (.int 0), (.ref o0)])) rfl (by rw [hml]; rfl) (Steps.refl _) (a := o0) (by rw [e6]; exact q7) q7' (argsL := [(.int 0), (.int (if (f7 o0 (p2 + (1 : Int32)) lA lF hA hF bA wA nW wF) < (0 : Int32) then (p2 + (1 : Int32)) else (f7 o0 (p2 + (1 : Int32)) lA lF hA hF bA wA nW wF))), (.int (hF (0 : Int32).toNatClampNeg)), (.int ((sF (0 : Int32).toNatClampNeg) - (1 : Int32)))]) (rest := []) (lenOf pd_6 rfl) rfl (leW rfl) (hb hby d14_80) (fun _ _ => ⟨rfl, e6, (by decide : 0 + 0 + 0 + 0 ≤ _), (by decide : 0 + 0 + 0 + 0 ≤ _)⟩)
      dsimp only [Pt.U, Pt.locs, Pt.cells, Pt.slots] at X7 l7 y7 z7 st7 hQ7
      subst l7 y7 z7
      obtain ⟨rfl, N7q, Kq7, f7_0, f7_1, f7_2, f7_3, f7_4, f7_5, f7_6, f7_7, f7_8, f7_9, f7_10, f7_11, f7_12, f7_13, f7_14, f7_15, f7_16, f7_17, f7_18, f7_19, f7_20, f7_21⟩ := hQ7
      have c8_15 := ha15.keep Kq7 (ninS hne_bA_tvA (ninS hne_bA_twA (ninS hne_bA_tsA (ninS hne_bA_tzA (ninS (Ne.symm hne_o0_bA) (ninS hne_bA_lA (ninS hne_bA_hA (ninS hne_bA_sA nin0))))))))
      have c8_16 := ha16.keep Kq7 (ninS hne_wA_tvA (ninS hne_wA_twA (ninS hne_wA_tsA (ninS hne_wA_tzA (ninS (Ne.symm hne_o0_wA) (ninS hne_wA_lA (ninS hne_wA_hA (ninS hne_wA_sA nin0))))))))
      have c8_20 := ha20.keep Kq7 (ninS hne_chA_tvA (ninS hne_chA_twA (ninS hne_chA_tsA (ninS hne_chA_tzA (ninS (Ne.symm hne_o0_chA) (ninS (Ne.symm hne_lA_chA) (ninS (Ne.symm hne_hA_chA) (ninS (Ne.symm hne_sA_chA) nin0))))))))
      have c8_21 := ha21.keep Kq7 (ninS hne_icA_tvA (ninS hne_icA_twA (ninS hne_icA_tsA (ninS hne_icA_tzA (ninS (Ne.symm hne_o0_icA) (ninS (Ne.symm hne_lA_icA) (ninS (Ne.symm hne_hA_icA) (ninS (Ne.symm hne_sA_icA) nin0))))))))
      have K7 : Keep h0 T7.heap [tvA, twA, tsA, tzA, o0, lA, hA, sA, icA, chA, wA] := (Keep.refl h0 [tvA, twA, tsA, tzA, o0, lA, hA, sA, icA, chA, wA]).trans Kq7 (allS (Or.inl (by simp)) (allS (Or.inl (by simp)) (allS (Or.inl (by simp)) (allS (Or.inl (by simp)) (allS (Or.inl (by simp)) (allS (Or.inl (by simp)) (allS (Or.inl (by simp)) (allS (Or.inl (by simp)) all0))))))))
      have Z7 := Nat.le_trans Z0 Kq7.1
      have N7 := Fr.app N5 N7q
      refine Go.via (fun t k => st7.trans k) ?_
      refine Vi (T7.setTop (mkF m 169 #[sR o0, sI 0, sI p2, sI ((sF (0 : Int32).toNatClampNeg) - (1 : Int32)), sI (f7 o0 (p2 + (1 : Int32)) lA lF hA hF bA wA nW wF)] [(.int 0), (.ref o0)])) (fun tZ kZ => ?_) ?_
      · refine XS.goto X7.here hx rfl (pc0 := 83) (pc' := 167) rfl (hb hby d14_83) (by decide) (by decide) ?_
        refine XS.aloadN X7.here hx rfl (hb hby d14_167) rfl rfl ?_
        refine XS.iloadN X7.here hx rfl (hb hby d14_168) rfl ?_
        exact kZ
      by_cases hic : (icF (0 : Int32).toNatClampNeg) = 0
      · show Go p e below _ (T7.setTop (mkF m 169 #[sR o0, sI 0, sI p2, sI ((sF (0 : Int32).toNatClampNeg) - (1 : Int32)), sI (f7 o0 (p2 + (1 : Int32)) lA lF hA hF bA wA nW wF)] [(.int 0), (.ref o0)]))
        obtain ⟨cq9, q9, q9'⟩ := f7_0.cell
        obtain ⟨_, _, ⟨T9, L9, k9, n9⟩, -, X9, ⟨Lc9, hQ9, l9, y9, z9⟩, st9⟩ := X7.privateBack hx (y := y13) hown (wz hZ hw 98 rfl) (wz hZ hw 99 rfl) (mvT hZ (own_selp (y := y13) (wq hw 99 rfl) (wq hw 100 rfl) (wq hw 1 rfl) (by decide))) (Cond.privateMethod_at (mvP hZ (wq hw 100 rfl) (args := #[]))) (wz hZ hw 101 rfl) (by decide) (backOf (W := 0) (rm13n l Z a0 hw [] o0 (tl + (1 : Int32)) cc lA hA sA cA chA icA bA tvA twA tsA tzA chF icF T7.heap n0 Z7 f7_0 f7_1 f7_2 f7_3 f7_4 f7_5 f7_6 f7_7 f7_8 f7_9 f7_10 f7_11 f7_12 f7_13 f7_14 c8_20 c8_21 ha26 ha31 ha32 hne_o0_chA hne_o0_icA hne_chA_icA hic (hcc hic)) hZ (wq hw 101 rfl) (wq hw 2 rfl) (by decide) (by decide)) (g := (mkF m 169 #[sR o0, sI 0, sI p2, sI ((sF (0 : Int32).toNatClampNeg) - (1 : Int32)), sI (f7 o0 (p2 + (1 : Int32)) lA lF hA hF bA wA nW wF)] [(.int 0), (.ref o0)])) rfl (by rw [hml]; rfl) (Steps.refl _) (a := o0) q9 q9' (argsL := [(.int 0)]) (rest := []) (lenOf pd_8 rfl) rfl (leW rfl) (hb hby d14_169) (fun _ _ => ⟨rfl, rfl, (by decide : 0 + 0 + 0 + 0 + 0 ≤ _), (by decide : 0 + 0 + 0 + 0 + 0 ≤ _)⟩)
        dsimp only [Pt.U, Pt.locs, Pt.cells, Pt.slots] at X9 l9 y9 z9 st9 hQ9
        subst l9 y9 z9
        obtain ⟨rfl, N9q, Kq9, f9_0, f9_1, f9_2, f9_3, f9_4, f9_5, f9_6, f9_7, f9_8, f9_9, f9_10, f9_11, f9_12, f9_13, f9_14, f9_15, f9_16⟩ := hQ9
        have c10_15 := c8_15.keep Kq9 (ninS hne_bA_icA (ninS (Ne.symm hne_o0_bA) (ninS hne_bA_chA nin0)))
        have c10_16 := c8_16.keep Kq9 (ninS hne_wA_icA (ninS (Ne.symm hne_o0_wA) (ninS hne_wA_chA nin0)))
        have c10_17 := f7_15.keep Kq9 (ninS hne_sA_icA (ninS (Ne.symm hne_o0_sA) (ninS hne_sA_chA nin0)))
        have c10_18 := f7_16.keep Kq9 (ninS hne_lA_icA (ninS (Ne.symm hne_o0_lA) (ninS hne_lA_chA nin0)))
        have c10_19 := f7_17.keep Kq9 (ninS hne_hA_icA (ninS (Ne.symm hne_o0_hA) (ninS hne_hA_chA nin0)))
        have c10_22 := f7_18.keep Kq9 (ninS (Ne.symm hne_icA_tvA) (ninS (Ne.symm hne_o0_tvA) (ninS (Ne.symm hne_chA_tvA) nin0)))
        have c10_23 := f7_19.keep Kq9 (ninS (Ne.symm hne_icA_twA) (ninS (Ne.symm hne_o0_twA) (ninS (Ne.symm hne_chA_twA) nin0)))
        have c10_24 := f7_20.keep Kq9 (ninS (Ne.symm hne_icA_tsA) (ninS (Ne.symm hne_o0_tsA) (ninS (Ne.symm hne_chA_tsA) nin0)))
        have c10_25 := f7_21.keep Kq9 (ninS (Ne.symm hne_icA_tzA) (ninS (Ne.symm hne_o0_tzA) (ninS (Ne.symm hne_chA_tzA) nin0)))
        have K9 : Keep h0 T9.heap [tvA, twA, tsA, tzA, o0, lA, hA, sA, icA, chA, wA] := K7.trans Kq9 (allS (Or.inl (by simp)) (allS (Or.inl (by simp)) (allS (Or.inl (by simp)) all0)))
        have Z9 := Nat.le_trans Z7 Kq9.1
        have N9 := Fr.app N7 N9q
        refine Go.via (fun t k => st9.trans k) ?_
        refine Vi (T9.setTop (mkF m 181 #[sR o0, sI 0, sI p2, sI ((sF (0 : Int32).toNatClampNeg) - (1 : Int32)), sI (f7 o0 (p2 + (1 : Int32)) lA lF hA hF bA wA nW wF)] [(.int (if (0 : Int32) < ((sF (0 : Int32).toNatClampNeg) - (1 : Int32)) then (1 : Int32) else (0 : Int32)))])) (fun tZ kZ => ?_) ?_
        · refine XS.iloadN X9.here hx rfl (hb hby d14_172) rfl ?_
          have sg173 : Steps p.tables e below (T9.setTop (mkF m 181 #[sR o0, sI 0, sI p2, sI ((sF (0 : Int32).toNatClampNeg) - (1 : Int32)), sI (f7 o0 (p2 + (1 : Int32)) lA lF hA hF bA wA nW wF)] [(.int (if (0 : Int32) < ((sF (0 : Int32).toNatClampNeg) - (1 : Int32)) then (1 : Int32) else (0 : Int32)))])) tZ → Steps p.tables e below (T9.setTop (mkF m 173 #[sR o0, sI 0, sI p2, sI ((sF (0 : Int32).toNatClampNeg) - (1 : Int32)), sI (f7 o0 (p2 + (1 : Int32)) lA lF hA hF bA wA nW wF)] [(.int ((sF (0 : Int32).toNatClampNeg) - (1 : Int32)))])) tZ := by
            intro kj
            by_cases hc173 : (0 : Int32) < ((sF (0 : Int32).toNatClampNeg) - (1 : Int32))
            · try simp only [if_pos hc173] at kj
              refine XS.ifNo X9.here hx rfl (hb hby d14_173) rfl ((if0 _ _).trans (tlt hc173).2.2.2) ?_
              refine XS.iconst X9.here hx rfl (hb hby d14_176) ?_
              refine XS.goto X9.here hx rfl (pc0 := 177) (pc' := 181) rfl (hb hby d14_177) (by decide) (by decide) ?_
              exact kj
            · try simp only [if_neg hc173] at kj
              refine XS.ifYes X9.here hx rfl (pc0 := 173) (pc' := 180) rfl (hb hby d14_173) rfl ((if0 _ _).trans (flt hc173).2.2.2) (by decide) (by decide) ?_
              refine XS.iconst X9.here hx rfl (hb hby d14_180) ?_
              exact kj
          refine sg173 ?_
          show Steps p.tables e below (T9.setTop (mkF m 181 #[sR o0, sI 0, sI p2, sI ((sF (0 : Int32).toNatClampNeg) - (1 : Int32)), sI (f7 o0 (p2 + (1 : Int32)) lA lF hA hF bA wA nW wF)] [(.int (if (0 : Int32) < ((sF (0 : Int32).toNatClampNeg) - (1 : Int32)) then (1 : Int32) else (0 : Int32)))])) _
          exact kZ
        refine Go.retN X9 hx Bd.notSynchronized (t := .boolean) Bd.returns (by simp) (hb hby d14_181) (by decide) (by decide) ?_
        exact ⟨((up lF (0 : Int32).toNatClampNeg (if (f7 o0 (p2 + (1 : Int32)) lA lF hA hF bA wA nW wF) < (0 : Int32) then (p2 + (1 : Int32)) else (f7 o0 (p2 + (1 : Int32)) lA lF hA hF bA wA nW wF)))), ((up hF (0 : Int32).toNatClampNeg (hF (0 : Int32).toNatClampNeg))), ((up sF (0 : Int32).toNatClampNeg ((sF (0 : Int32).toNatClampNeg) - (1 : Int32)))), ((up chF cc.toNatClampNeg (0 : Int32))), ((up icF (0 : Int32).toNatClampNeg (1 : Int32))), ((up tvF tl.toNatClampNeg (0 : Int32))), ((up twF tl.toNatClampNeg (-1 : Int32))), ((up tsF tl.toNatClampNeg ((((lF (0 : Int32).toNatClampNeg).toInt64) <<< ((32 : Int32) &&& 0x3f).toInt64) ||| (((hF (0 : Int32).toNatClampNeg).toInt64) &&& (4294967295 : Int64))))), ((up tzF tl.toNatClampNeg (sF (0 : Int32).toNatClampNeg))), ((tl + (1 : Int32))), ((cc + (1 : Int32))), (wF), _, rfl, N9, K9, f9_0, f9_1, f9_2, f9_3, f9_4, f9_5, f9_6, f9_7, f9_8, f9_9, f9_10, f9_11, f9_12, f9_13, f9_14, c10_15, c10_16, c10_17, c10_18, c10_19, f9_15, f9_16, c10_22, c10_23, c10_24, c10_25, own_E14 (own_low hI hc6 hc45 rfl own_up own_up) (Or.inr rfl) own_note⟩
      · show Go p e below _ (T7.setTop (mkF m 169 #[sR o0, sI 0, sI p2, sI ((sF (0 : Int32).toNatClampNeg) - (1 : Int32)), sI (f7 o0 (p2 + (1 : Int32)) lA lF hA hF bA wA nW wF)] [(.int 0), (.ref o0)]))
        obtain ⟨cq11, q11, q11'⟩ := f7_0.cell
        obtain ⟨_, _, ⟨T11, L11, k11, n11⟩, -, X11, ⟨Lc11, hQ11, l11, y11, z11⟩, st11⟩ := X7.privateBack hx (y := y13) hown (wz hZ hw 98 rfl) (wz hZ hw 99 rfl) (mvT hZ (own_selp (y := y13) (wq hw 99 rfl) (wq hw 100 rfl) (wq hw 1 rfl) (by decide))) (Cond.privateMethod_at (mvP hZ (wq hw 100 rfl) (args := #[]))) (wz hZ hw 101 rfl) (by decide) (backOf (W := 0) (rm13k l Z a0 hw [] o0 icA icF T7.heap n0 Z7 f7_0 f7_9 c8_21 hic) hZ (wq hw 101 rfl) (wq hw 2 rfl) (by decide) (by decide)) (g := (mkF m 169 #[sR o0, sI 0, sI p2, sI ((sF (0 : Int32).toNatClampNeg) - (1 : Int32)), sI (f7 o0 (p2 + (1 : Int32)) lA lF hA hF bA wA nW wF)] [(.int 0), (.ref o0)])) rfl (by rw [hml]; rfl) (Steps.refl _) (a := o0) q11 q11' (argsL := [(.int 0)]) (rest := []) (lenOf pd_8 rfl) rfl (leW rfl) (hb hby d14_169) (fun _ _ => ⟨rfl, rfl, (by decide : 0 + 0 + 0 + 0 + 0 ≤ _), (by decide : 0 + 0 + 0 + 0 + 0 ≤ _)⟩)
        dsimp only [Pt.U, Pt.locs, Pt.cells, Pt.slots] at X11 l11 y11 z11 st11 hQ11
        subst l11 y11 z11
        obtain ⟨rfl, N11q, e11⟩ := hQ11
        have N11 := Fr.app N7 N11q
        refine Go.via (fun t k => st11.trans k) ?_
        refine Vi (T11.setTop (mkF m 181 #[sR o0, sI 0, sI p2, sI ((sF (0 : Int32).toNatClampNeg) - (1 : Int32)), sI (f7 o0 (p2 + (1 : Int32)) lA lF hA hF bA wA nW wF)] [(.int (if (0 : Int32) < ((sF (0 : Int32).toNatClampNeg) - (1 : Int32)) then (1 : Int32) else (0 : Int32)))])) (fun tZ kZ => ?_) ?_
        · refine XS.iloadN X11.here hx rfl (hb hby d14_172) rfl ?_
          have sg173 : Steps p.tables e below (T11.setTop (mkF m 181 #[sR o0, sI 0, sI p2, sI ((sF (0 : Int32).toNatClampNeg) - (1 : Int32)), sI (f7 o0 (p2 + (1 : Int32)) lA lF hA hF bA wA nW wF)] [(.int (if (0 : Int32) < ((sF (0 : Int32).toNatClampNeg) - (1 : Int32)) then (1 : Int32) else (0 : Int32)))])) tZ → Steps p.tables e below (T11.setTop (mkF m 173 #[sR o0, sI 0, sI p2, sI ((sF (0 : Int32).toNatClampNeg) - (1 : Int32)), sI (f7 o0 (p2 + (1 : Int32)) lA lF hA hF bA wA nW wF)] [(.int ((sF (0 : Int32).toNatClampNeg) - (1 : Int32)))])) tZ := by
            intro kj
            by_cases hc173 : (0 : Int32) < ((sF (0 : Int32).toNatClampNeg) - (1 : Int32))
            · try simp only [if_pos hc173] at kj
              refine XS.ifNo X11.here hx rfl (hb hby d14_173) rfl ((if0 _ _).trans (tlt hc173).2.2.2) ?_
              refine XS.iconst X11.here hx rfl (hb hby d14_176) ?_
              refine XS.goto X11.here hx rfl (pc0 := 177) (pc' := 181) rfl (hb hby d14_177) (by decide) (by decide) ?_
              exact kj
            · try simp only [if_neg hc173] at kj
              refine XS.ifYes X11.here hx rfl (pc0 := 173) (pc' := 180) rfl (hb hby d14_173) rfl ((if0 _ _).trans (flt hc173).2.2.2) (by decide) (by decide) ?_
              refine XS.iconst X11.here hx rfl (hb hby d14_180) ?_
              exact kj
          refine sg173 ?_
          show Steps p.tables e below (T11.setTop (mkF m 181 #[sR o0, sI 0, sI p2, sI ((sF (0 : Int32).toNatClampNeg) - (1 : Int32)), sI (f7 o0 (p2 + (1 : Int32)) lA lF hA hF bA wA nW wF)] [(.int (if (0 : Int32) < ((sF (0 : Int32).toNatClampNeg) - (1 : Int32)) then (1 : Int32) else (0 : Int32)))])) _
          exact kZ
        refine Go.retN X11 hx Bd.notSynchronized (t := .boolean) Bd.returns (by simp) (hb hby d14_181) (by decide) (by decide) ?_
        rw [e11]
        exact ⟨((up lF (0 : Int32).toNatClampNeg (if (f7 o0 (p2 + (1 : Int32)) lA lF hA hF bA wA nW wF) < (0 : Int32) then (p2 + (1 : Int32)) else (f7 o0 (p2 + (1 : Int32)) lA lF hA hF bA wA nW wF)))), ((up hF (0 : Int32).toNatClampNeg (hF (0 : Int32).toNatClampNeg))), ((up sF (0 : Int32).toNatClampNeg ((sF (0 : Int32).toNatClampNeg) - (1 : Int32)))), (chF), (icF), ((up tvF tl.toNatClampNeg (0 : Int32))), ((up twF tl.toNatClampNeg (-1 : Int32))), ((up tsF tl.toNatClampNeg ((((lF (0 : Int32).toNatClampNeg).toInt64) <<< ((32 : Int32) &&& 0x3f).toInt64) ||| (((hF (0 : Int32).toNatClampNeg).toInt64) &&& (4294967295 : Int64))))), ((up tzF tl.toNatClampNeg (sF (0 : Int32).toNatClampNeg))), ((tl + (1 : Int32))), (cc), (wF), _, rfl, N11, K7, f7_0, f7_1, f7_2, f7_3, f7_4, f7_5, f7_6, f7_7, f7_8, f7_9, f7_10, f7_11, f7_12, f7_13, f7_14, c8_15, c8_16, f7_15, f7_16, f7_17, c8_20, c8_21, f7_18, f7_19, f7_20, f7_21, own_E14 (own_low hI hc6 hc45 rfl own_up own_up) (Or.inr rfl) (fun h => absurd h hic)⟩
    · refine Vi (T4.setTop (mkF m 86 #[sR o0, sI 0, sI p2, sI ((sF (0 : Int32).toNatClampNeg) - (1 : Int32)), .unset] [])) (fun tZ kZ => ?_) ?_
      · show Steps p.tables e below (T4.setTop (mkF m 45 #[sR o0, sI 0, sI p2, sI ((sF (0 : Int32).toNatClampNeg) - (1 : Int32)), .unset] [(.int (lF (0 : Int32).toNatClampNeg)), (.int p2)])) _
        refine XS.icmpYes X4.here hx rfl (pc0 := 45) (pc' := 86) rfl (hb hby d14_45) rfl (feq hc45).2 (by decide) (by decide) ?_
        exact kZ
      refine Vi (T4.setTop (mkF m 88 #[sR o0, sI 0, sI p2, sI ((sF (0 : Int32).toNatClampNeg) - (1 : Int32)), .unset] [(.ref o0), (.int p2)])) (fun tZ kZ => ?_) ?_
      · refine XS.iloadN X4.here hx rfl (hb hby d14_86) rfl ?_
        refine XS.aloadN X4.here hx rfl (hb hby d14_87) rfl rfl ?_
        exact kZ
      obtain ⟨T12, X12, e12, st12⟩ := getF X4 hx hZ hown (host := "") (Or.inl (wq hw 38 rfl)) Via.refl e4 ha5 (g := (mkF m 88 #[sR o0, sI 0, sI p2, sI ((sF (0 : Int32).toNatClampNeg) - (1 : Int32)), .unset] [(.ref o0), (.int p2)])) rfl rfl (hb hby d14_88)
      refine Go.via st12 ?_
      refine Vi (T12.setTop (mkF m 93 #[sR o0, sI 0, sI p2, sI ((sF (0 : Int32).toNatClampNeg) - (1 : Int32)), .unset] [(.int (hF (0 : Int32).toNatClampNeg)), (.int p2)])) (fun tZ kZ => ?_) ?_
      · refine XS.iloadN X12.here hx rfl (hb hby d14_91) rfl ?_
        refine AV.iaload ha19 X12 hx hZ e12 (j := (0 : Int32)) (by decide) (hb hby d14_92) ?_
        exact kZ
      by_cases hc93 : p2 = (hF (0 : Int32).toNatClampNeg)
      · refine Vi (T12.setTop (mkF m 96 #[sR o0, sI 0, sI p2, sI ((sF (0 : Int32).toNatClampNeg) - (1 : Int32)), .unset] [])) (fun tZ kZ => ?_) ?_
        · show Steps p.tables e below (T12.setTop (mkF m 93 #[sR o0, sI 0, sI p2, sI ((sF (0 : Int32).toNatClampNeg) - (1 : Int32)), .unset] [(.int (hF (0 : Int32).toNatClampNeg)), (.int p2)])) _
          refine XS.icmpNo X12.here hx rfl (hb hby d14_93) rfl (teq hc93).2 ?_
          exact kZ
        refine Vi (T12.setTop (mkF m 99 #[sR o0, sI 0, sI p2, sI ((sF (0 : Int32).toNatClampNeg) - (1 : Int32)), .unset] [(.ref o0), (.int 0), (.ref o0)])) (fun tZ kZ => ?_) ?_
        · refine XS.aloadN X12.here hx rfl (hb hby d14_96) rfl rfl ?_
          refine XS.iloadN X12.here hx rfl (hb hby d14_97) rfl ?_
          refine XS.aloadN X12.here hx rfl (hb hby d14_98) rfl rfl ?_
          exact kZ
        obtain ⟨T13, X13, e13, st13⟩ := getF X12 hx hZ hown (host := "") (Or.inl (wq hw 36 rfl)) Via.refl e12 ha4 (g := (mkF m 99 #[sR o0, sI 0, sI p2, sI ((sF (0 : Int32).toNatClampNeg) - (1 : Int32)), .unset] [(.ref o0), (.int 0), (.ref o0)])) rfl rfl (hb hby d14_99)
        refine Go.via st13 ?_
        refine Vi (T13.setTop (mkF m 109 #[sR o0, sI 0, sI p2, sI ((sF (0 : Int32).toNatClampNeg) - (1 : Int32)), .unset] [(.int (p2 - (1 : Int32))), (.int 0), (.ref o0), (.int (lF (0 : Int32).toNatClampNeg)), (.int 0), (.ref o0)])) (fun tZ kZ => ?_) ?_
        · refine XS.iloadN X13.here hx rfl (hb hby d14_102) rfl ?_
          refine AV.iaload ha18 X13 hx hZ e13 (j := (0 : Int32)) (by decide) (hb hby d14_103) ?_
          refine XS.aloadN X13.here hx rfl (hb hby d14_104) rfl rfl ?_
          refine XS.iloadN X13.here hx rfl (hb hby d14_105) rfl ?_
          refine XS.iloadN X13.here hx rfl (hb hby d14_106) rfl ?_
          refine XS.iconst X13.here hx rfl (hb hby d14_107) ?_
          refine XS.isub X13.here hx rfl (hb hby d14_108) rfl ?_
          exact kZ
        obtain ⟨cq14, kq14, q14a, q14b, q14c⟩ := isOf hZ e13 ha0
        obtain ⟨_, _, ⟨T14, L14, k14, n14⟩, -, X14, ⟨Lc14, hQ14, l14, y14, z14⟩, st14⟩ := X13.virtualBack hx (y := y9) (z := y9) hown (wz hZ hw 81 rfl) (wz hZ hw 82 rfl) (notFace_of_selects (args := #[]) (wz hZ hw 84 rfl)) (wz hZ hw 84 rfl) (wz hZ hw 83 rfl) (by decide) (backOf (W := 3) (rm9 l Z a0 hw [] o0 (p2 - (1 : Int32)) lA lF hA hF bA wA nW wF h0 n0 Z0 ha0 ha4 ha18 ha5 ha19 ha10 ha15 ha16 hB1b hB2b hTb) hZ (wq hw 85 rfl) (wq hw 2 rfl) (by decide) (by decide)) q14a q14c (g := (mkF m 109 #[sR o0, sI 0, sI p2, sI ((sF (0 : Int32).toNatClampNeg) - (1 : Int32)), .unset] [(.int (p2 - (1 : Int32))), (.int 0), (.ref o0), (.int (lF (0 : Int32).toNatClampNeg)), (.int 0), (.ref o0)])) rfl (by rw [hml]; rfl) (Steps.refl _) (argsL := [(.int 0), (.int (p2 - (1 : Int32)))]) (rest := [(.int (lF (0 : Int32).toNatClampNeg)), (.int 0), (.ref o0)]) (lenOf pd_5 rfl) rfl (leW rfl) (hb hby d14_109) (fun _ _ => ⟨rfl, e13, (by decide : 0 + 0 + 0 ≤ _), (by decide : 0 + 0 + 0 ≤ _)⟩)
        dsimp only [Pt.U, Pt.locs, Pt.cells, Pt.slots] at X14 l14 y14 z14 st14 hQ14
        subst l14 y14 z14
        obtain ⟨rfl, N14q, e14⟩ := hQ14
        have N14 := Fr.app N1 N14q
        refine Go.via (fun t k => st14.trans k) ?_
        refine Vi (T14.setTop (mkF m 113 #[sR o0, sI 0, sI p2, sI ((sF (0 : Int32).toNatClampNeg) - (1 : Int32)), .unset] [(.int ((sF (0 : Int32).toNatClampNeg) - (1 : Int32))), (.int (f9 o0 (p2 - (1 : Int32)) lA lF hA hF bA wA nW wF)), (.int (lF (0 : Int32).toNatClampNeg)), (.int 0), (.ref o0)])) (fun tZ kZ => ?_) ?_
        · refine XS.iloadN X14.here hx rfl (hb hby d14_112) rfl ?_
          exact kZ
        obtain ⟨cq15, q15, q15'⟩ := ha0.cell
        obtain ⟨_, _, ⟨T15, L15, k15, n15⟩, -, X15, ⟨Lc15, hQ15, l15, y15, z15⟩, st15⟩ := X14.privateBack hx (y := y11) hown (wz hZ hw 89 rfl) (wz hZ hw 90 rfl) (mvT hZ (own_selp (y := y11) (wq hw 90 rfl) (wq hw 91 rfl) (wq hw 1 rfl) (by decide))) (Cond.privateMethod_at (mvP hZ (wq hw 91 rfl) (args := #[]))) (wz hZ hw 92 rfl) (by decide) (backOf (W := 0) (rm11 l Z a0 hw [] o0 (lF (0 : Int32).toNatClampNeg) (f9 o0 (p2 - (1 : Int32)) lA lF hA hF bA wA nW wF) ((sF (0 : Int32).toNatClampNeg) - (1 : Int32)) tl cc lA hA sA cA chA icA bA tvA twA tsA tzA sF lF hF tvF twF tsF tzF h0 n0 Z0 ha0 ha1 ha2 ha3 ha4 ha5 ha6 ha7 ha8 ha9 ha10 ha11 ha12 ha13 ha14 ha17 ha18 ha19 ha22 ha23 ha24 ha25 ha26 ha28 ha29 ha30 ha33 ha34 ha35 ha36 hne_o0_sA hne_o0_lA hne_o0_hA hne_o0_tvA hne_o0_twA hne_o0_tsA hne_o0_tzA hne_sA_lA hne_sA_hA hne_sA_tvA hne_sA_twA hne_sA_tsA hne_sA_tzA hne_lA_hA hne_lA_tvA hne_lA_twA hne_lA_tsA hne_lA_tzA hne_hA_tvA hne_hA_twA hne_hA_tsA hne_hA_tzA hne_tvA_twA hne_tvA_tsA hne_tvA_tzA hne_twA_tsA hne_twA_tzA hne_tsA_tzA htl htb) hZ (wq hw 92 rfl) (wq hw 2 rfl) (by decide) (by decide)) (g := (mkF m 113 #[sR o0, sI 0, sI p2, sI ((sF (0 : Int32).toNatClampNeg) - (1 : Int32)), .unset] [(.int ((sF (0 : Int32).toNatClampNeg) - (1 : Int32))), (.int (f9 o0 (p2 - (1 : Int32)) lA lF hA hF bA wA nW wF)), (.int (lF (0 : Int32).toNatClampNeg)), (.int 0), (.ref o0)])) rfl (by rw [hml]; rfl) (Steps.refl _) (a := o0) (by rw [e14]; exact q15) q15' (argsL := [(.int 0), (.int (lF (0 : Int32).toNatClampNeg)), (.int (f9 o0 (p2 - (1 : Int32)) lA lF hA hF bA wA nW wF)), (.int ((sF (0 : Int32).toNatClampNeg) - (1 : Int32)))]) (rest := []) (lenOf pd_6 rfl) rfl (leW rfl) (hb hby d14_113) (fun _ _ => ⟨rfl, e14, (by decide : 0 + 0 + 0 + 0 ≤ _), (by decide : 0 + 0 + 0 + 0 ≤ _)⟩)
        dsimp only [Pt.U, Pt.locs, Pt.cells, Pt.slots] at X15 l15 y15 z15 st15 hQ15
        subst l15 y15 z15
        obtain ⟨rfl, N15q, Kq15, f15_0, f15_1, f15_2, f15_3, f15_4, f15_5, f15_6, f15_7, f15_8, f15_9, f15_10, f15_11, f15_12, f15_13, f15_14, f15_15, f15_16, f15_17, f15_18, f15_19, f15_20, f15_21⟩ := hQ15
        have c16_15 := ha15.keep Kq15 (ninS hne_bA_tvA (ninS hne_bA_twA (ninS hne_bA_tsA (ninS hne_bA_tzA (ninS (Ne.symm hne_o0_bA) (ninS hne_bA_lA (ninS hne_bA_hA (ninS hne_bA_sA nin0))))))))
        have c16_16 := ha16.keep Kq15 (ninS hne_wA_tvA (ninS hne_wA_twA (ninS hne_wA_tsA (ninS hne_wA_tzA (ninS (Ne.symm hne_o0_wA) (ninS hne_wA_lA (ninS hne_wA_hA (ninS hne_wA_sA nin0))))))))
        have c16_20 := ha20.keep Kq15 (ninS hne_chA_tvA (ninS hne_chA_twA (ninS hne_chA_tsA (ninS hne_chA_tzA (ninS (Ne.symm hne_o0_chA) (ninS (Ne.symm hne_lA_chA) (ninS (Ne.symm hne_hA_chA) (ninS (Ne.symm hne_sA_chA) nin0))))))))
        have c16_21 := ha21.keep Kq15 (ninS hne_icA_tvA (ninS hne_icA_twA (ninS hne_icA_tsA (ninS hne_icA_tzA (ninS (Ne.symm hne_o0_icA) (ninS (Ne.symm hne_lA_icA) (ninS (Ne.symm hne_hA_icA) (ninS (Ne.symm hne_sA_icA) nin0))))))))
        have K15 : Keep h0 T15.heap [tvA, twA, tsA, tzA, o0, lA, hA, sA, icA, chA, wA] := (Keep.refl h0 [tvA, twA, tsA, tzA, o0, lA, hA, sA, icA, chA, wA]).trans Kq15 (allS (Or.inl (by simp)) (allS (Or.inl (by simp)) (allS (Or.inl (by simp)) (allS (Or.inl (by simp)) (allS (Or.inl (by simp)) (allS (Or.inl (by simp)) (allS (Or.inl (by simp)) (allS (Or.inl (by simp)) all0))))))))
        have Z15 := Nat.le_trans Z0 Kq15.1
        have N15 := Fr.app N14 N15q
        refine Go.via (fun t k => st15.trans k) ?_
        refine Vi (T15.setTop (mkF m 169 #[sR o0, sI 0, sI p2, sI ((sF (0 : Int32).toNatClampNeg) - (1 : Int32)), .unset] [(.int 0), (.ref o0)])) (fun tZ kZ => ?_) ?_
        · refine XS.goto X15.here hx rfl (pc0 := 116) (pc' := 167) rfl (hb hby d14_116) (by decide) (by decide) ?_
          refine XS.aloadN X15.here hx rfl (hb hby d14_167) rfl rfl ?_
          refine XS.iloadN X15.here hx rfl (hb hby d14_168) rfl ?_
          exact kZ
        by_cases hic : (icF (0 : Int32).toNatClampNeg) = 0
        · show Go p e below _ (T15.setTop (mkF m 169 #[sR o0, sI 0, sI p2, sI ((sF (0 : Int32).toNatClampNeg) - (1 : Int32)), .unset] [(.int 0), (.ref o0)]))
          obtain ⟨cq17, q17, q17'⟩ := f15_0.cell
          obtain ⟨_, _, ⟨T17, L17, k17, n17⟩, -, X17, ⟨Lc17, hQ17, l17, y17, z17⟩, st17⟩ := X15.privateBack hx (y := y13) hown (wz hZ hw 98 rfl) (wz hZ hw 99 rfl) (mvT hZ (own_selp (y := y13) (wq hw 99 rfl) (wq hw 100 rfl) (wq hw 1 rfl) (by decide))) (Cond.privateMethod_at (mvP hZ (wq hw 100 rfl) (args := #[]))) (wz hZ hw 101 rfl) (by decide) (backOf (W := 0) (rm13n l Z a0 hw [] o0 (tl + (1 : Int32)) cc lA hA sA cA chA icA bA tvA twA tsA tzA chF icF T15.heap n0 Z15 f15_0 f15_1 f15_2 f15_3 f15_4 f15_5 f15_6 f15_7 f15_8 f15_9 f15_10 f15_11 f15_12 f15_13 f15_14 c16_20 c16_21 ha26 ha31 ha32 hne_o0_chA hne_o0_icA hne_chA_icA hic (hcc hic)) hZ (wq hw 101 rfl) (wq hw 2 rfl) (by decide) (by decide)) (g := (mkF m 169 #[sR o0, sI 0, sI p2, sI ((sF (0 : Int32).toNatClampNeg) - (1 : Int32)), .unset] [(.int 0), (.ref o0)])) rfl (by rw [hml]; rfl) (Steps.refl _) (a := o0) q17 q17' (argsL := [(.int 0)]) (rest := []) (lenOf pd_8 rfl) rfl (leW rfl) (hb hby d14_169) (fun _ _ => ⟨rfl, rfl, (by decide : 0 + 0 + 0 + 0 + 0 ≤ _), (by decide : 0 + 0 + 0 + 0 + 0 ≤ _)⟩)
          dsimp only [Pt.U, Pt.locs, Pt.cells, Pt.slots] at X17 l17 y17 z17 st17 hQ17
          subst l17 y17 z17
          obtain ⟨rfl, N17q, Kq17, f17_0, f17_1, f17_2, f17_3, f17_4, f17_5, f17_6, f17_7, f17_8, f17_9, f17_10, f17_11, f17_12, f17_13, f17_14, f17_15, f17_16⟩ := hQ17
          have c18_15 := c16_15.keep Kq17 (ninS hne_bA_icA (ninS (Ne.symm hne_o0_bA) (ninS hne_bA_chA nin0)))
          have c18_16 := c16_16.keep Kq17 (ninS hne_wA_icA (ninS (Ne.symm hne_o0_wA) (ninS hne_wA_chA nin0)))
          have c18_17 := f15_15.keep Kq17 (ninS hne_sA_icA (ninS (Ne.symm hne_o0_sA) (ninS hne_sA_chA nin0)))
          have c18_18 := f15_16.keep Kq17 (ninS hne_lA_icA (ninS (Ne.symm hne_o0_lA) (ninS hne_lA_chA nin0)))
          have c18_19 := f15_17.keep Kq17 (ninS hne_hA_icA (ninS (Ne.symm hne_o0_hA) (ninS hne_hA_chA nin0)))
          have c18_22 := f15_18.keep Kq17 (ninS (Ne.symm hne_icA_tvA) (ninS (Ne.symm hne_o0_tvA) (ninS (Ne.symm hne_chA_tvA) nin0)))
          have c18_23 := f15_19.keep Kq17 (ninS (Ne.symm hne_icA_twA) (ninS (Ne.symm hne_o0_twA) (ninS (Ne.symm hne_chA_twA) nin0)))
          have c18_24 := f15_20.keep Kq17 (ninS (Ne.symm hne_icA_tsA) (ninS (Ne.symm hne_o0_tsA) (ninS (Ne.symm hne_chA_tsA) nin0)))
          have c18_25 := f15_21.keep Kq17 (ninS (Ne.symm hne_icA_tzA) (ninS (Ne.symm hne_o0_tzA) (ninS (Ne.symm hne_chA_tzA) nin0)))
          have K17 : Keep h0 T17.heap [tvA, twA, tsA, tzA, o0, lA, hA, sA, icA, chA, wA] := K15.trans Kq17 (allS (Or.inl (by simp)) (allS (Or.inl (by simp)) (allS (Or.inl (by simp)) all0)))
          have Z17 := Nat.le_trans Z15 Kq17.1
          have N17 := Fr.app N15 N17q
          refine Go.via (fun t k => st17.trans k) ?_
          refine Vi (T17.setTop (mkF m 181 #[sR o0, sI 0, sI p2, sI ((sF (0 : Int32).toNatClampNeg) - (1 : Int32)), .unset] [(.int (if (0 : Int32) < ((sF (0 : Int32).toNatClampNeg) - (1 : Int32)) then (1 : Int32) else (0 : Int32)))])) (fun tZ kZ => ?_) ?_
          · refine XS.iloadN X17.here hx rfl (hb hby d14_172) rfl ?_
            have sg173 : Steps p.tables e below (T17.setTop (mkF m 181 #[sR o0, sI 0, sI p2, sI ((sF (0 : Int32).toNatClampNeg) - (1 : Int32)), .unset] [(.int (if (0 : Int32) < ((sF (0 : Int32).toNatClampNeg) - (1 : Int32)) then (1 : Int32) else (0 : Int32)))])) tZ → Steps p.tables e below (T17.setTop (mkF m 173 #[sR o0, sI 0, sI p2, sI ((sF (0 : Int32).toNatClampNeg) - (1 : Int32)), .unset] [(.int ((sF (0 : Int32).toNatClampNeg) - (1 : Int32)))])) tZ := by
              intro kj
              by_cases hc173 : (0 : Int32) < ((sF (0 : Int32).toNatClampNeg) - (1 : Int32))
              · try simp only [if_pos hc173] at kj
                refine XS.ifNo X17.here hx rfl (hb hby d14_173) rfl ((if0 _ _).trans (tlt hc173).2.2.2) ?_
                refine XS.iconst X17.here hx rfl (hb hby d14_176) ?_
                refine XS.goto X17.here hx rfl (pc0 := 177) (pc' := 181) rfl (hb hby d14_177) (by decide) (by decide) ?_
                exact kj
              · try simp only [if_neg hc173] at kj
                refine XS.ifYes X17.here hx rfl (pc0 := 173) (pc' := 180) rfl (hb hby d14_173) rfl ((if0 _ _).trans (flt hc173).2.2.2) (by decide) (by decide) ?_
                refine XS.iconst X17.here hx rfl (hb hby d14_180) ?_
                exact kj
            refine sg173 ?_
            show Steps p.tables e below (T17.setTop (mkF m 181 #[sR o0, sI 0, sI p2, sI ((sF (0 : Int32).toNatClampNeg) - (1 : Int32)), .unset] [(.int (if (0 : Int32) < ((sF (0 : Int32).toNatClampNeg) - (1 : Int32)) then (1 : Int32) else (0 : Int32)))])) _
            exact kZ
          refine Go.retN X17 hx Bd.notSynchronized (t := .boolean) Bd.returns (by simp) (hb hby d14_181) (by decide) (by decide) ?_
          exact ⟨((up lF (0 : Int32).toNatClampNeg (lF (0 : Int32).toNatClampNeg))), ((up hF (0 : Int32).toNatClampNeg (f9 o0 (p2 - (1 : Int32)) lA lF hA hF bA wA nW wF))), ((up sF (0 : Int32).toNatClampNeg ((sF (0 : Int32).toNatClampNeg) - (1 : Int32)))), ((up chF cc.toNatClampNeg (0 : Int32))), ((up icF (0 : Int32).toNatClampNeg (1 : Int32))), ((up tvF tl.toNatClampNeg (0 : Int32))), ((up twF tl.toNatClampNeg (-1 : Int32))), ((up tsF tl.toNatClampNeg ((((lF (0 : Int32).toNatClampNeg).toInt64) <<< ((32 : Int32) &&& 0x3f).toInt64) ||| (((hF (0 : Int32).toNatClampNeg).toInt64) &&& (4294967295 : Int64))))), ((up tzF tl.toNatClampNeg (sF (0 : Int32).toNatClampNeg))), ((tl + (1 : Int32))), ((cc + (1 : Int32))), (wF), _, rfl, N17, K17, f17_0, f17_1, f17_2, f17_3, f17_4, f17_5, f17_6, f17_7, f17_8, f17_9, f17_10, f17_11, f17_12, f17_13, f17_14, c18_15, c18_16, c18_17, c18_18, c18_19, f17_15, f17_16, c18_22, c18_23, c18_24, c18_25, own_E14 (own_high hI hc6 hc45 hc93 rfl own_up own_up) (Or.inr rfl) own_note⟩
        · show Go p e below _ (T15.setTop (mkF m 169 #[sR o0, sI 0, sI p2, sI ((sF (0 : Int32).toNatClampNeg) - (1 : Int32)), .unset] [(.int 0), (.ref o0)]))
          obtain ⟨cq19, q19, q19'⟩ := f15_0.cell
          obtain ⟨_, _, ⟨T19, L19, k19, n19⟩, -, X19, ⟨Lc19, hQ19, l19, y19, z19⟩, st19⟩ := X15.privateBack hx (y := y13) hown (wz hZ hw 98 rfl) (wz hZ hw 99 rfl) (mvT hZ (own_selp (y := y13) (wq hw 99 rfl) (wq hw 100 rfl) (wq hw 1 rfl) (by decide))) (Cond.privateMethod_at (mvP hZ (wq hw 100 rfl) (args := #[]))) (wz hZ hw 101 rfl) (by decide) (backOf (W := 0) (rm13k l Z a0 hw [] o0 icA icF T15.heap n0 Z15 f15_0 f15_9 c16_21 hic) hZ (wq hw 101 rfl) (wq hw 2 rfl) (by decide) (by decide)) (g := (mkF m 169 #[sR o0, sI 0, sI p2, sI ((sF (0 : Int32).toNatClampNeg) - (1 : Int32)), .unset] [(.int 0), (.ref o0)])) rfl (by rw [hml]; rfl) (Steps.refl _) (a := o0) q19 q19' (argsL := [(.int 0)]) (rest := []) (lenOf pd_8 rfl) rfl (leW rfl) (hb hby d14_169) (fun _ _ => ⟨rfl, rfl, (by decide : 0 + 0 + 0 + 0 + 0 ≤ _), (by decide : 0 + 0 + 0 + 0 + 0 ≤ _)⟩)
          dsimp only [Pt.U, Pt.locs, Pt.cells, Pt.slots] at X19 l19 y19 z19 st19 hQ19
          subst l19 y19 z19
          obtain ⟨rfl, N19q, e19⟩ := hQ19
          have N19 := Fr.app N15 N19q
          refine Go.via (fun t k => st19.trans k) ?_
          refine Vi (T19.setTop (mkF m 181 #[sR o0, sI 0, sI p2, sI ((sF (0 : Int32).toNatClampNeg) - (1 : Int32)), .unset] [(.int (if (0 : Int32) < ((sF (0 : Int32).toNatClampNeg) - (1 : Int32)) then (1 : Int32) else (0 : Int32)))])) (fun tZ kZ => ?_) ?_
          · refine XS.iloadN X19.here hx rfl (hb hby d14_172) rfl ?_
            have sg173 : Steps p.tables e below (T19.setTop (mkF m 181 #[sR o0, sI 0, sI p2, sI ((sF (0 : Int32).toNatClampNeg) - (1 : Int32)), .unset] [(.int (if (0 : Int32) < ((sF (0 : Int32).toNatClampNeg) - (1 : Int32)) then (1 : Int32) else (0 : Int32)))])) tZ → Steps p.tables e below (T19.setTop (mkF m 173 #[sR o0, sI 0, sI p2, sI ((sF (0 : Int32).toNatClampNeg) - (1 : Int32)), .unset] [(.int ((sF (0 : Int32).toNatClampNeg) - (1 : Int32)))])) tZ := by
              intro kj
              by_cases hc173 : (0 : Int32) < ((sF (0 : Int32).toNatClampNeg) - (1 : Int32))
              · try simp only [if_pos hc173] at kj
                refine XS.ifNo X19.here hx rfl (hb hby d14_173) rfl ((if0 _ _).trans (tlt hc173).2.2.2) ?_
                refine XS.iconst X19.here hx rfl (hb hby d14_176) ?_
                refine XS.goto X19.here hx rfl (pc0 := 177) (pc' := 181) rfl (hb hby d14_177) (by decide) (by decide) ?_
                exact kj
              · try simp only [if_neg hc173] at kj
                refine XS.ifYes X19.here hx rfl (pc0 := 173) (pc' := 180) rfl (hb hby d14_173) rfl ((if0 _ _).trans (flt hc173).2.2.2) (by decide) (by decide) ?_
                refine XS.iconst X19.here hx rfl (hb hby d14_180) ?_
                exact kj
            refine sg173 ?_
            show Steps p.tables e below (T19.setTop (mkF m 181 #[sR o0, sI 0, sI p2, sI ((sF (0 : Int32).toNatClampNeg) - (1 : Int32)), .unset] [(.int (if (0 : Int32) < ((sF (0 : Int32).toNatClampNeg) - (1 : Int32)) then (1 : Int32) else (0 : Int32)))])) _
            exact kZ
          refine Go.retN X19 hx Bd.notSynchronized (t := .boolean) Bd.returns (by simp) (hb hby d14_181) (by decide) (by decide) ?_
          rw [e19]
          exact ⟨((up lF (0 : Int32).toNatClampNeg (lF (0 : Int32).toNatClampNeg))), ((up hF (0 : Int32).toNatClampNeg (f9 o0 (p2 - (1 : Int32)) lA lF hA hF bA wA nW wF))), ((up sF (0 : Int32).toNatClampNeg ((sF (0 : Int32).toNatClampNeg) - (1 : Int32)))), (chF), (icF), ((up tvF tl.toNatClampNeg (0 : Int32))), ((up twF tl.toNatClampNeg (-1 : Int32))), ((up tsF tl.toNatClampNeg ((((lF (0 : Int32).toNatClampNeg).toInt64) <<< ((32 : Int32) &&& 0x3f).toInt64) ||| (((hF (0 : Int32).toNatClampNeg).toInt64) &&& (4294967295 : Int64))))), ((up tzF tl.toNatClampNeg (sF (0 : Int32).toNatClampNeg))), ((tl + (1 : Int32))), (cc), (wF), _, rfl, N19, K15, f15_0, f15_1, f15_2, f15_3, f15_4, f15_5, f15_6, f15_7, f15_8, f15_9, f15_10, f15_11, f15_12, f15_13, f15_14, c16_15, c16_16, f15_15, f15_16, f15_17, c16_20, c16_21, f15_18, f15_19, f15_20, f15_21, own_E14 (own_high hI hc6 hc45 hc93 rfl own_up own_up) (Or.inr rfl) (fun h => absurd h hic)⟩
      · refine Vi (T12.setTop (mkF m 119 #[sR o0, sI 0, sI p2, sI ((sF (0 : Int32).toNatClampNeg) - (1 : Int32)), .unset] [])) (fun tZ kZ => ?_) ?_
        · show Steps p.tables e below (T12.setTop (mkF m 93 #[sR o0, sI 0, sI p2, sI ((sF (0 : Int32).toNatClampNeg) - (1 : Int32)), .unset] [(.int (hF (0 : Int32).toNatClampNeg)), (.int p2)])) _
          refine XS.icmpYes X12.here hx rfl (pc0 := 93) (pc' := 119) rfl (hb hby d14_93) rfl (feq hc93).2 (by decide) (by decide) ?_
          exact kZ
        refine Vi (T12.setTop (mkF m 126 #[sR o0, sI 0, sI p2, sI ((sF (0 : Int32).toNatClampNeg) - (1 : Int32)), .unset] [(.ref o0), (.int ((p2.toUInt32 >>> ((6 : Int32) &&& 31).toUInt32).toInt32)), (.int 0), (.ref o0)])) (fun tZ kZ => ?_) ?_
        · refine XS.aloadN X12.here hx rfl (hb hby d14_119) rfl rfl ?_
          refine XS.iloadN X12.here hx rfl (hb hby d14_120) rfl ?_
          refine XS.iloadN X12.here hx rfl (hb hby d14_121) rfl ?_
          refine XS.bipush X12.here hx rfl (hb hby d14_122) ?_
          refine XS.iushr X12.here hx rfl (hb hby d14_124) rfl ?_
          refine XS.aloadN X12.here hx rfl (hb hby d14_125) rfl rfl ?_
          exact kZ
        obtain ⟨T20, X20, e20, st20⟩ := getF X12 hx hZ hown (host := "") (Or.inl (wq hw 32 rfl)) Via.refl e12 ha10 (g := (mkF m 126 #[sR o0, sI 0, sI p2, sI ((sF (0 : Int32).toNatClampNeg) - (1 : Int32)), .unset] [(.ref o0), (.int ((p2.toUInt32 >>> ((6 : Int32) &&& 31).toUInt32).toInt32)), (.int 0), (.ref o0)])) rfl rfl (hb hby d14_126)
        refine Go.via st20 ?_
        refine Vi (T20.setTop (mkF m 136 #[sR o0, sI 0, sI p2, sI ((sF (0 : Int32).toNatClampNeg) - (1 : Int32)), .unset] [(.long (wF ((p2.toUInt32 >>> ((6 : Int32) &&& 31).toUInt32).toInt32).toNatClampNeg)), (.int ((p2.toUInt32 >>> ((6 : Int32) &&& 31).toUInt32).toInt32)), (.int 0), (.ref o0)])) (fun tZ kZ => ?_) ?_
        · refine XS.iloadN X20.here hx rfl (hb hby d14_129) rfl ?_
          refine AV.aaload ha15 rfl X20 hx hZ e20 (j := (0 : Int32)) (by decide) (hb hby d14_130) ?_
          refine XS.iloadN X20.here hx rfl (hb hby d14_131) rfl ?_
          refine XS.bipush X20.here hx rfl (hb hby d14_132) ?_
          refine XS.iushr X20.here hx rfl (hb hby d14_134) rfl ?_
          refine AV.laload ha16 X20 hx hZ e20 (j := ((p2.toUInt32 >>> ((6 : Int32) &&& 31).toUInt32).toInt32)) (hB hcl hch) (hb hby d14_135) ?_
          exact kZ
        obtain ⟨cq21, q21, q21'⟩ := ha0.cell
        obtain ⟨_, _, ⟨T21, L21, k21, n21⟩, -, X21, ⟨Lc21, hQ21, l21, y21, z21⟩, st21⟩ := X20.privateBack hx (y := y12) hown (wz hZ hw 94 rfl) (wz hZ hw 95 rfl) (mvT hZ (own_selp (y := y12) (wq hw 95 rfl) (wq hw 96 rfl) (wq hw 1 rfl) (by decide))) (Cond.privateMethod_at (mvP hZ (wq hw 96 rfl) (args := #[]))) (wz hZ hw 97 rfl) (by decide) (backOf (W := 0) (rm12 l Z a0 hw [] o0 ((p2.toUInt32 >>> ((6 : Int32) &&& 31).toUInt32).toInt32) (wF ((p2.toUInt32 >>> ((6 : Int32) &&& 31).toUInt32).toInt32).toNatClampNeg) tl cc lA hA sA cA chA icA bA tvA twA tsA tzA sF tvF twF tsF tzF h0 n0 Z0 ha0 ha1 ha2 ha3 ha4 ha5 ha6 ha7 ha8 ha9 ha10 ha11 ha12 ha13 ha14 ha17 ha22 ha23 ha24 ha25 ha26 ha33 ha34 ha35 ha36 hne_o0_sA hne_o0_tvA hne_o0_twA hne_o0_tsA hne_o0_tzA hne_sA_tvA hne_sA_twA hne_sA_tsA hne_sA_tzA hne_tvA_twA hne_tvA_tsA hne_tvA_tzA hne_twA_tsA hne_twA_tzA hne_tsA_tzA htl htb) hZ (wq hw 97 rfl) (wq hw 2 rfl) (by decide) (by decide)) (g := (mkF m 136 #[sR o0, sI 0, sI p2, sI ((sF (0 : Int32).toNatClampNeg) - (1 : Int32)), .unset] [(.long (wF ((p2.toUInt32 >>> ((6 : Int32) &&& 31).toUInt32).toInt32).toNatClampNeg)), (.int ((p2.toUInt32 >>> ((6 : Int32) &&& 31).toUInt32).toInt32)), (.int 0), (.ref o0)])) rfl (by rw [hml]; rfl) (Steps.refl _) (a := o0) (by rw [e20]; exact q21) q21' (argsL := [(.int 0), (.int ((p2.toUInt32 >>> ((6 : Int32) &&& 31).toUInt32).toInt32)), (.long (wF ((p2.toUInt32 >>> ((6 : Int32) &&& 31).toUInt32).toInt32).toNatClampNeg))]) (rest := []) (lenOf pd_7 rfl) rfl (leW rfl) (hb hby d14_136) (fun _ _ => ⟨rfl, e20, (by decide : 0 + 0 + 0 ≤ _), (by decide : 0 + 0 + 0 ≤ _)⟩)
        dsimp only [Pt.U, Pt.locs, Pt.cells, Pt.slots] at X21 l21 y21 z21 st21 hQ21
        subst l21 y21 z21
        obtain ⟨rfl, N21q, Kq21, f21_0, f21_1, f21_2, f21_3, f21_4, f21_5, f21_6, f21_7, f21_8, f21_9, f21_10, f21_11, f21_12, f21_13, f21_14, f21_15, f21_16, f21_17, f21_18, f21_19⟩ := hQ21
        have c22_15 := ha15.keep Kq21 (ninS hne_bA_tvA (ninS hne_bA_twA (ninS hne_bA_tsA (ninS hne_bA_tzA (ninS (Ne.symm hne_o0_bA) nin0)))))
        have c22_16 := ha16.keep Kq21 (ninS hne_wA_tvA (ninS hne_wA_twA (ninS hne_wA_tsA (ninS hne_wA_tzA (ninS (Ne.symm hne_o0_wA) nin0)))))
        have c22_18 := ha18.keep Kq21 (ninS hne_lA_tvA (ninS hne_lA_twA (ninS hne_lA_tsA (ninS hne_lA_tzA (ninS (Ne.symm hne_o0_lA) nin0)))))
        have c22_19 := ha19.keep Kq21 (ninS hne_hA_tvA (ninS hne_hA_twA (ninS hne_hA_tsA (ninS hne_hA_tzA (ninS (Ne.symm hne_o0_hA) nin0)))))
        have c22_20 := ha20.keep Kq21 (ninS hne_chA_tvA (ninS hne_chA_twA (ninS hne_chA_tsA (ninS hne_chA_tzA (ninS (Ne.symm hne_o0_chA) nin0)))))
        have c22_21 := ha21.keep Kq21 (ninS hne_icA_tvA (ninS hne_icA_twA (ninS hne_icA_tsA (ninS hne_icA_tzA (ninS (Ne.symm hne_o0_icA) nin0)))))
        have K21 : Keep h0 T21.heap [tvA, twA, tsA, tzA, o0, lA, hA, sA, icA, chA, wA] := (Keep.refl h0 [tvA, twA, tsA, tzA, o0, lA, hA, sA, icA, chA, wA]).trans Kq21 (allS (Or.inl (by simp)) (allS (Or.inl (by simp)) (allS (Or.inl (by simp)) (allS (Or.inl (by simp)) (allS (Or.inl (by simp)) all0)))))
        have Z21 := Nat.le_trans Z0 Kq21.1
        have N21 := Fr.app N1 N21q
        refine Go.via (fun t k => st21.trans k) ?_
        refine Vi (T21.setTop (mkF m 140 #[sR o0, sI 0, sI p2, sI ((sF (0 : Int32).toNatClampNeg) - (1 : Int32)), .unset] [(.ref o0)])) (fun tZ kZ => ?_) ?_
        · refine XS.aloadN X21.here hx rfl (hb hby d14_139) rfl rfl ?_
          exact kZ
        obtain ⟨T23, X23, e23, st23⟩ := getF X21 hx hZ hown (host := "") (Or.inl (wq hw 32 rfl)) Via.refl rfl f21_10 (g := (mkF m 140 #[sR o0, sI 0, sI p2, sI ((sF (0 : Int32).toNatClampNeg) - (1 : Int32)), .unset] [(.ref o0)])) rfl rfl (hb hby d14_140)
        refine Go.via st23 ?_
        refine Vi (T23.setTop (mkF m 159 #[sR o0, sI 0, sI p2, sI ((sF (0 : Int32).toNatClampNeg) - (1 : Int32)), .unset] [(.long ((wF ((p2.toUInt32 >>> ((6 : Int32) &&& 31).toUInt32).toInt32).toNatClampNeg) &&& (((1 : Int64) <<< (p2 &&& 0x3f).toInt64) ^^^ (-1 : Int64)))), (.int ((p2.toUInt32 >>> ((6 : Int32) &&& 31).toUInt32).toInt32)), (.ref wA)])) (fun tZ kZ => ?_) ?_
        · refine XS.iloadN X23.here hx rfl (hb hby d14_143) rfl ?_
          refine AV.aaload c22_15 rfl X23 hx hZ e23 (j := (0 : Int32)) (by decide) (hb hby d14_144) ?_
          refine XS.iloadN X23.here hx rfl (hb hby d14_145) rfl ?_
          refine XS.bipush X23.here hx rfl (hb hby d14_146) ?_
          refine XS.iushr X23.here hx rfl (hb hby d14_148) rfl ?_
          refine Jvm.Free.XT.dup2 X23.here hx rfl (hb hby d14_149) rfl rfl rfl ?_
          refine AV.laload c22_16 X23 hx hZ e23 (j := ((p2.toUInt32 >>> ((6 : Int32) &&& 31).toUInt32).toInt32)) (hB hcl hch) (hb hby d14_150) ?_
          refine XS.lconst X23.here hx rfl (hb hby d14_151) ?_
          refine XS.iloadN X23.here hx rfl (hb hby d14_152) rfl ?_
          refine XS.lshl X23.here hx rfl (hb hby d14_153) rfl ?_
          refine X23.ldc2Long hx hown (wz hZ hw 51 rfl) (g := (mkF m 154 #[sR o0, sI 0, sI p2, sI ((sF (0 : Int32).toNatClampNeg) - (1 : Int32)), .unset] [(.long ((1 : Int64) <<< (p2 &&& 0x3f).toInt64)), (.long (wF ((p2.toUInt32 >>> ((6 : Int32) &&& 31).toUInt32).toInt32).toNatClampNeg)), (.int ((p2.toUInt32 >>> ((6 : Int32) &&& 31).toUInt32).toInt32)), (.ref wA)])) rfl (hb hby d14_154) _ ?_
          refine XS.lxor X23.here hx rfl (hb hby d14_157) rfl ?_
          refine XS.land X23.here hx rfl (hb hby d14_158) rfl ?_
          exact kZ
        obtain ⟨T24, h24, X24, e24, W24, V24, st24⟩ := AV.lastore c22_16 X23 hx hZ e23 (j := ((p2.toUInt32 >>> ((6 : Int32) &&& 31).toUInt32).toInt32)) (hB hcl hch) (Ls := #[sR o0, sI 0, sI p2, sI ((sF (0 : Int32).toNatClampNeg) - (1 : Int32)), .unset]) (rest := []) (hb hby d14_159) (x := ((wF ((p2.toUInt32 >>> ((6 : Int32) &&& 31).toUInt32).toInt32).toNatClampNeg) &&& (((1 : Int64) <<< (p2 &&& 0x3f).toInt64) ^^^ (-1 : Int64))))
        have N24 := Fr.snoc X24 N21 ha27
        have c25_0 := f21_0.wr W24
        have c25_1 := f21_1.other W24 (Or.inl hne_o0_wA)
        have c25_2 := f21_2.other W24 (Or.inl hne_o0_wA)
        have c25_3 := f21_3.other W24 (Or.inl hne_o0_wA)
        have c25_4 := f21_4.other W24 (Or.inl hne_o0_wA)
        have c25_5 := f21_5.other W24 (Or.inl hne_o0_wA)
        have c25_6 := f21_6.other W24 (Or.inl hne_o0_wA)
        have c25_7 := f21_7.other W24 (Or.inl hne_o0_wA)
        have c25_8 := f21_8.other W24 (Or.inl hne_o0_wA)
        have c25_9 := f21_9.other W24 (Or.inl hne_o0_wA)
        have c25_10 := f21_10.other W24 (Or.inl hne_o0_wA)
        have c25_11 := f21_11.other W24 (Or.inl hne_o0_wA)
        have c25_12 := f21_12.other W24 (Or.inl hne_o0_wA)
        have c25_13 := f21_13.other W24 (Or.inl hne_o0_wA)
        have c25_14 := f21_14.other W24 (Or.inl hne_o0_wA)
        have c25_15 := c22_15.other W24 hne_bA_wA
        have c25_17 := f21_15.other W24 (Ne.symm hne_wA_sA)
        have c25_18 := c22_18.other W24 (Ne.symm hne_wA_lA)
        have c25_19 := c22_19.other W24 (Ne.symm hne_wA_hA)
        have c25_20 := c22_20.other W24 (Ne.symm hne_wA_chA)
        have c25_21 := c22_21.other W24 (Ne.symm hne_wA_icA)
        have c25_22 := f21_16.other W24 (Ne.symm hne_wA_tvA)
        have c25_23 := f21_17.other W24 (Ne.symm hne_wA_twA)
        have c25_24 := f21_18.other W24 (Ne.symm hne_wA_tsA)
        have c25_25 := f21_19.other W24 (Ne.symm hne_wA_tzA)
        have K24 : Keep h0 h24 [tvA, twA, tsA, tzA, o0, lA, hA, sA, icA, chA, wA] := K21.wr W24 (Or.inl (by simp))
        have Z24 := Nat.le_trans Z21 (Keep.of_wr W24).1
        refine Go.via st24 ?_
        refine Vi (T24.setTop (mkF m 161 #[sR o0, sI 0, sI p2, sI ((sF (0 : Int32).toNatClampNeg) - (1 : Int32)), .unset] [(.ref o0)])) (fun tZ kZ => ?_) ?_
        · refine XS.aloadN X24.here hx rfl (hb hby d14_160) rfl rfl ?_
          exact kZ
        obtain ⟨T26, X26, e26, st26⟩ := getF X24 hx hZ hown (host := "") (Or.inl (wq hw 34 rfl)) Via.refl e24 c25_6 (g := (mkF m 161 #[sR o0, sI 0, sI p2, sI ((sF (0 : Int32).toNatClampNeg) - (1 : Int32)), .unset] [(.ref o0)])) rfl rfl (hb hby d14_161)
        refine Go.via st26 ?_
        refine Vi (T26.setTop (mkF m 166 #[sR o0, sI 0, sI p2, sI ((sF (0 : Int32).toNatClampNeg) - (1 : Int32)), .unset] [(.int ((sF (0 : Int32).toNatClampNeg) - (1 : Int32))), (.int 0), (.ref sA)])) (fun tZ kZ => ?_) ?_
        · refine XS.iloadN X26.here hx rfl (hb hby d14_164) rfl ?_
          refine XS.iloadN X26.here hx rfl (hb hby d14_165) rfl ?_
          exact kZ
        obtain ⟨T27, h27, X27, e27, W27, V27, st27⟩ := AV.iastore c25_17 X26 hx hZ e26 (j := (0 : Int32)) (by decide) (Ls := #[sR o0, sI 0, sI p2, sI ((sF (0 : Int32).toNatClampNeg) - (1 : Int32)), .unset]) (rest := []) (hb hby d14_166) (x := ((sF (0 : Int32).toNatClampNeg) - (1 : Int32)))
        have N27 := Fr.snoc X27 N24 ha28
        have c28_0 := c25_0.wr W27
        have c28_1 := c25_1.other W27 (Or.inl hne_o0_sA)
        have c28_2 := c25_2.other W27 (Or.inl hne_o0_sA)
        have c28_3 := c25_3.other W27 (Or.inl hne_o0_sA)
        have c28_4 := c25_4.other W27 (Or.inl hne_o0_sA)
        have c28_5 := c25_5.other W27 (Or.inl hne_o0_sA)
        have c28_6 := c25_6.other W27 (Or.inl hne_o0_sA)
        have c28_7 := c25_7.other W27 (Or.inl hne_o0_sA)
        have c28_8 := c25_8.other W27 (Or.inl hne_o0_sA)
        have c28_9 := c25_9.other W27 (Or.inl hne_o0_sA)
        have c28_10 := c25_10.other W27 (Or.inl hne_o0_sA)
        have c28_11 := c25_11.other W27 (Or.inl hne_o0_sA)
        have c28_12 := c25_12.other W27 (Or.inl hne_o0_sA)
        have c28_13 := c25_13.other W27 (Or.inl hne_o0_sA)
        have c28_14 := c25_14.other W27 (Or.inl hne_o0_sA)
        have c28_15 := c25_15.other W27 hne_bA_sA
        have c28_16 := V24.other W27 hne_wA_sA
        have c28_18 := c25_18.other W27 (Ne.symm hne_sA_lA)
        have c28_19 := c25_19.other W27 (Ne.symm hne_sA_hA)
        have c28_20 := c25_20.other W27 (Ne.symm hne_sA_chA)
        have c28_21 := c25_21.other W27 (Ne.symm hne_sA_icA)
        have c28_22 := c25_22.other W27 (Ne.symm hne_sA_tvA)
        have c28_23 := c25_23.other W27 (Ne.symm hne_sA_twA)
        have c28_24 := c25_24.other W27 (Ne.symm hne_sA_tsA)
        have c28_25 := c25_25.other W27 (Ne.symm hne_sA_tzA)
        have K27 : Keep h0 h27 [tvA, twA, tsA, tzA, o0, lA, hA, sA, icA, chA, wA] := K24.wr W27 (Or.inl (by simp))
        have Z27 := Nat.le_trans Z24 (Keep.of_wr W27).1
        refine Go.via st27 ?_
        refine Vi (T27.setTop (mkF m 169 #[sR o0, sI 0, sI p2, sI ((sF (0 : Int32).toNatClampNeg) - (1 : Int32)), .unset] [(.int 0), (.ref o0)])) (fun tZ kZ => ?_) ?_
        · refine XS.aloadN X27.here hx rfl (hb hby d14_167) rfl rfl ?_
          refine XS.iloadN X27.here hx rfl (hb hby d14_168) rfl ?_
          exact kZ
        by_cases hic : (icF (0 : Int32).toNatClampNeg) = 0
        · show Go p e below _ (T27.setTop (mkF m 169 #[sR o0, sI 0, sI p2, sI ((sF (0 : Int32).toNatClampNeg) - (1 : Int32)), .unset] [(.int 0), (.ref o0)]))
          obtain ⟨cq29, q29, q29'⟩ := c28_0.cell
          obtain ⟨_, _, ⟨T29, L29, k29, n29⟩, -, X29, ⟨Lc29, hQ29, l29, y29, z29⟩, st29⟩ := X27.privateBack hx (y := y13) hown (wz hZ hw 98 rfl) (wz hZ hw 99 rfl) (mvT hZ (own_selp (y := y13) (wq hw 99 rfl) (wq hw 100 rfl) (wq hw 1 rfl) (by decide))) (Cond.privateMethod_at (mvP hZ (wq hw 100 rfl) (args := #[]))) (wz hZ hw 101 rfl) (by decide) (backOf (W := 0) (rm13n l Z a0 hw [] o0 (tl + (1 : Int32)) cc lA hA sA cA chA icA bA tvA twA tsA tzA chF icF h27 n0 Z27 c28_0 c28_1 c28_2 c28_3 c28_4 c28_5 c28_6 c28_7 c28_8 c28_9 c28_10 c28_11 c28_12 c28_13 c28_14 c28_20 c28_21 ha26 ha31 ha32 hne_o0_chA hne_o0_icA hne_chA_icA hic (hcc hic)) hZ (wq hw 101 rfl) (wq hw 2 rfl) (by decide) (by decide)) (g := (mkF m 169 #[sR o0, sI 0, sI p2, sI ((sF (0 : Int32).toNatClampNeg) - (1 : Int32)), .unset] [(.int 0), (.ref o0)])) rfl (by rw [hml]; rfl) (Steps.refl _) (a := o0) (by rw [e27]; exact q29) q29' (argsL := [(.int 0)]) (rest := []) (lenOf pd_8 rfl) rfl (leW rfl) (hb hby d14_169) (fun _ _ => ⟨rfl, e27, (by decide : 0 + 0 + 0 + 0 ≤ _), (by decide : 0 + 0 + 0 + 0 ≤ _)⟩)
          dsimp only [Pt.U, Pt.locs, Pt.cells, Pt.slots] at X29 l29 y29 z29 st29 hQ29
          subst l29 y29 z29
          obtain ⟨rfl, N29q, Kq29, f29_0, f29_1, f29_2, f29_3, f29_4, f29_5, f29_6, f29_7, f29_8, f29_9, f29_10, f29_11, f29_12, f29_13, f29_14, f29_15, f29_16⟩ := hQ29
          have c30_15 := c28_15.keep Kq29 (ninS hne_bA_icA (ninS (Ne.symm hne_o0_bA) (ninS hne_bA_chA nin0)))
          have c30_16 := c28_16.keep Kq29 (ninS hne_wA_icA (ninS (Ne.symm hne_o0_wA) (ninS hne_wA_chA nin0)))
          have c30_17 := V27.keep Kq29 (ninS hne_sA_icA (ninS (Ne.symm hne_o0_sA) (ninS hne_sA_chA nin0)))
          have c30_18 := c28_18.keep Kq29 (ninS hne_lA_icA (ninS (Ne.symm hne_o0_lA) (ninS hne_lA_chA nin0)))
          have c30_19 := c28_19.keep Kq29 (ninS hne_hA_icA (ninS (Ne.symm hne_o0_hA) (ninS hne_hA_chA nin0)))
          have c30_22 := c28_22.keep Kq29 (ninS (Ne.symm hne_icA_tvA) (ninS (Ne.symm hne_o0_tvA) (ninS (Ne.symm hne_chA_tvA) nin0)))
          have c30_23 := c28_23.keep Kq29 (ninS (Ne.symm hne_icA_twA) (ninS (Ne.symm hne_o0_twA) (ninS (Ne.symm hne_chA_twA) nin0)))
          have c30_24 := c28_24.keep Kq29 (ninS (Ne.symm hne_icA_tsA) (ninS (Ne.symm hne_o0_tsA) (ninS (Ne.symm hne_chA_tsA) nin0)))
          have c30_25 := c28_25.keep Kq29 (ninS (Ne.symm hne_icA_tzA) (ninS (Ne.symm hne_o0_tzA) (ninS (Ne.symm hne_chA_tzA) nin0)))
          have K29 : Keep h0 T29.heap [tvA, twA, tsA, tzA, o0, lA, hA, sA, icA, chA, wA] := K27.trans Kq29 (allS (Or.inl (by simp)) (allS (Or.inl (by simp)) (allS (Or.inl (by simp)) all0)))
          have Z29 := Nat.le_trans Z27 Kq29.1
          have N29 := Fr.app N27 N29q
          refine Go.via (fun t k => st29.trans k) ?_
          refine Vi (T29.setTop (mkF m 181 #[sR o0, sI 0, sI p2, sI ((sF (0 : Int32).toNatClampNeg) - (1 : Int32)), .unset] [(.int (if (0 : Int32) < ((sF (0 : Int32).toNatClampNeg) - (1 : Int32)) then (1 : Int32) else (0 : Int32)))])) (fun tZ kZ => ?_) ?_
          · refine XS.iloadN X29.here hx rfl (hb hby d14_172) rfl ?_
            have sg173 : Steps p.tables e below (T29.setTop (mkF m 181 #[sR o0, sI 0, sI p2, sI ((sF (0 : Int32).toNatClampNeg) - (1 : Int32)), .unset] [(.int (if (0 : Int32) < ((sF (0 : Int32).toNatClampNeg) - (1 : Int32)) then (1 : Int32) else (0 : Int32)))])) tZ → Steps p.tables e below (T29.setTop (mkF m 173 #[sR o0, sI 0, sI p2, sI ((sF (0 : Int32).toNatClampNeg) - (1 : Int32)), .unset] [(.int ((sF (0 : Int32).toNatClampNeg) - (1 : Int32)))])) tZ := by
              intro kj
              by_cases hc173 : (0 : Int32) < ((sF (0 : Int32).toNatClampNeg) - (1 : Int32))
              · try simp only [if_pos hc173] at kj
                refine XS.ifNo X29.here hx rfl (hb hby d14_173) rfl ((if0 _ _).trans (tlt hc173).2.2.2) ?_
                refine XS.iconst X29.here hx rfl (hb hby d14_176) ?_
                refine XS.goto X29.here hx rfl (pc0 := 177) (pc' := 181) rfl (hb hby d14_177) (by decide) (by decide) ?_
                exact kj
              · try simp only [if_neg hc173] at kj
                refine XS.ifYes X29.here hx rfl (pc0 := 173) (pc' := 180) rfl (hb hby d14_173) rfl ((if0 _ _).trans (flt hc173).2.2.2) (by decide) (by decide) ?_
                refine XS.iconst X29.here hx rfl (hb hby d14_180) ?_
                exact kj
            refine sg173 ?_
            show Steps p.tables e below (T29.setTop (mkF m 181 #[sR o0, sI 0, sI p2, sI ((sF (0 : Int32).toNatClampNeg) - (1 : Int32)), .unset] [(.int (if (0 : Int32) < ((sF (0 : Int32).toNatClampNeg) - (1 : Int32)) then (1 : Int32) else (0 : Int32)))])) _
            exact kZ
          refine Go.retN X29 hx Bd.notSynchronized (t := .boolean) Bd.returns (by simp) (hb hby d14_181) (by decide) (by decide) ?_
          exact ⟨(lF), (hF), ((up sF (0 : Int32).toNatClampNeg ((sF (0 : Int32).toNatClampNeg) - (1 : Int32)))), ((up chF cc.toNatClampNeg (0 : Int32))), ((up icF (0 : Int32).toNatClampNeg (1 : Int32))), ((up tvF tl.toNatClampNeg (0 : Int32))), ((up twF tl.toNatClampNeg ((p2.toUInt32 >>> ((6 : Int32) &&& 31).toUInt32).toInt32))), ((up tsF tl.toNatClampNeg (wF ((p2.toUInt32 >>> ((6 : Int32) &&& 31).toUInt32).toInt32).toNatClampNeg))), ((up tzF tl.toNatClampNeg (sF (0 : Int32).toNatClampNeg))), ((tl + (1 : Int32))), ((cc + (1 : Int32))), ((up wF ((p2.toUInt32 >>> ((6 : Int32) &&& 31).toUInt32).toInt32).toNatClampNeg ((wF ((p2.toUInt32 >>> ((6 : Int32) &&& 31).toUInt32).toInt32).toNatClampNeg) &&& (((1 : Int64) <<< (p2 &&& 0x3f).toInt64) ^^^ (-1 : Int64))))), _, rfl, N29, K29, f29_0, f29_1, f29_2, f29_3, f29_4, f29_5, f29_6, f29_7, f29_8, f29_9, f29_10, f29_11, f29_12, f29_13, f29_14, c30_15, c30_16, c30_17, c30_18, c30_19, f29_15, f29_16, c30_22, c30_23, c30_24, c30_25, own_E14 (own_bit hI hc6 hc45 hc93 rfl) (Or.inr rfl) own_note⟩
        · show Go p e below _ (T27.setTop (mkF m 169 #[sR o0, sI 0, sI p2, sI ((sF (0 : Int32).toNatClampNeg) - (1 : Int32)), .unset] [(.int 0), (.ref o0)]))
          obtain ⟨cq31, q31, q31'⟩ := c28_0.cell
          obtain ⟨_, _, ⟨T31, L31, k31, n31⟩, -, X31, ⟨Lc31, hQ31, l31, y31, z31⟩, st31⟩ := X27.privateBack hx (y := y13) hown (wz hZ hw 98 rfl) (wz hZ hw 99 rfl) (mvT hZ (own_selp (y := y13) (wq hw 99 rfl) (wq hw 100 rfl) (wq hw 1 rfl) (by decide))) (Cond.privateMethod_at (mvP hZ (wq hw 100 rfl) (args := #[]))) (wz hZ hw 101 rfl) (by decide) (backOf (W := 0) (rm13k l Z a0 hw [] o0 icA icF h27 n0 Z27 c28_0 c28_9 c28_21 hic) hZ (wq hw 101 rfl) (wq hw 2 rfl) (by decide) (by decide)) (g := (mkF m 169 #[sR o0, sI 0, sI p2, sI ((sF (0 : Int32).toNatClampNeg) - (1 : Int32)), .unset] [(.int 0), (.ref o0)])) rfl (by rw [hml]; rfl) (Steps.refl _) (a := o0) (by rw [e27]; exact q31) q31' (argsL := [(.int 0)]) (rest := []) (lenOf pd_8 rfl) rfl (leW rfl) (hb hby d14_169) (fun _ _ => ⟨rfl, e27, (by decide : 0 + 0 + 0 + 0 ≤ _), (by decide : 0 + 0 + 0 + 0 ≤ _)⟩)
          dsimp only [Pt.U, Pt.locs, Pt.cells, Pt.slots] at X31 l31 y31 z31 st31 hQ31
          subst l31 y31 z31
          obtain ⟨rfl, N31q, e31⟩ := hQ31
          have N31 := Fr.app N27 N31q
          refine Go.via (fun t k => st31.trans k) ?_
          refine Vi (T31.setTop (mkF m 181 #[sR o0, sI 0, sI p2, sI ((sF (0 : Int32).toNatClampNeg) - (1 : Int32)), .unset] [(.int (if (0 : Int32) < ((sF (0 : Int32).toNatClampNeg) - (1 : Int32)) then (1 : Int32) else (0 : Int32)))])) (fun tZ kZ => ?_) ?_
          · refine XS.iloadN X31.here hx rfl (hb hby d14_172) rfl ?_
            have sg173 : Steps p.tables e below (T31.setTop (mkF m 181 #[sR o0, sI 0, sI p2, sI ((sF (0 : Int32).toNatClampNeg) - (1 : Int32)), .unset] [(.int (if (0 : Int32) < ((sF (0 : Int32).toNatClampNeg) - (1 : Int32)) then (1 : Int32) else (0 : Int32)))])) tZ → Steps p.tables e below (T31.setTop (mkF m 173 #[sR o0, sI 0, sI p2, sI ((sF (0 : Int32).toNatClampNeg) - (1 : Int32)), .unset] [(.int ((sF (0 : Int32).toNatClampNeg) - (1 : Int32)))])) tZ := by
              intro kj
              by_cases hc173 : (0 : Int32) < ((sF (0 : Int32).toNatClampNeg) - (1 : Int32))
              · try simp only [if_pos hc173] at kj
                refine XS.ifNo X31.here hx rfl (hb hby d14_173) rfl ((if0 _ _).trans (tlt hc173).2.2.2) ?_
                refine XS.iconst X31.here hx rfl (hb hby d14_176) ?_
                refine XS.goto X31.here hx rfl (pc0 := 177) (pc' := 181) rfl (hb hby d14_177) (by decide) (by decide) ?_
                exact kj
              · try simp only [if_neg hc173] at kj
                refine XS.ifYes X31.here hx rfl (pc0 := 173) (pc' := 180) rfl (hb hby d14_173) rfl ((if0 _ _).trans (flt hc173).2.2.2) (by decide) (by decide) ?_
                refine XS.iconst X31.here hx rfl (hb hby d14_180) ?_
                exact kj
            refine sg173 ?_
            show Steps p.tables e below (T31.setTop (mkF m 181 #[sR o0, sI 0, sI p2, sI ((sF (0 : Int32).toNatClampNeg) - (1 : Int32)), .unset] [(.int (if (0 : Int32) < ((sF (0 : Int32).toNatClampNeg) - (1 : Int32)) then (1 : Int32) else (0 : Int32)))])) _
            exact kZ
          refine Go.retN X31 hx Bd.notSynchronized (t := .boolean) Bd.returns (by simp) (hb hby d14_181) (by decide) (by decide) ?_
          rw [e31]
          exact ⟨(lF), (hF), ((up sF (0 : Int32).toNatClampNeg ((sF (0 : Int32).toNatClampNeg) - (1 : Int32)))), (chF), (icF), ((up tvF tl.toNatClampNeg (0 : Int32))), ((up twF tl.toNatClampNeg ((p2.toUInt32 >>> ((6 : Int32) &&& 31).toUInt32).toInt32))), ((up tsF tl.toNatClampNeg (wF ((p2.toUInt32 >>> ((6 : Int32) &&& 31).toUInt32).toInt32).toNatClampNeg))), ((up tzF tl.toNatClampNeg (sF (0 : Int32).toNatClampNeg))), ((tl + (1 : Int32))), (cc), ((up wF ((p2.toUInt32 >>> ((6 : Int32) &&& 31).toUInt32).toInt32).toNatClampNeg ((wF ((p2.toUInt32 >>> ((6 : Int32) &&& 31).toUInt32).toInt32).toNatClampNeg) &&& (((1 : Int64) <<< (p2 &&& 0x3f).toInt64) ^^^ (-1 : Int64))))), _, rfl, N31, K27, c28_0, c28_1, c28_2, c28_3, c28_4, c28_5, c28_6, c28_7, c28_8, c28_9, c28_10, c28_11, c28_12, c28_13, c28_14, c28_15, c28_16, V27, c28_18, c28_19, c28_20, c28_21, c28_22, c28_23, c28_24, c28_25, own_E14 (own_bit hI hc6 hc45 hc93 rfl) (Or.inr rfl) (fun h => absurd h hic)⟩
theorem own_sz (c : Int32) : c = c - 1 - 0 + 1 := by simp
def Q0 (n0 : Nat) (v : Option Value) (h : Heap) (L : List Loc) : Prop := v = some (.int 1) ∧ Fr n0 L
theorem pd_0 : parseMethodDescriptor "([I)V" = some ⟨[(.array .int)], none⟩ := by decide +kernel
theorem pd_4 : parseMethodDescriptor "(III)Z" = some ⟨[.int, .int, .int], some .boolean⟩ := by decide +kernel
theorem pn_4 : plainName "com/example/whittle/whittle/engine/DomainsContainsPinLaw" = true := by first | (simp [plainName, overriddenIn]; done) | decide +kernel
theorem ef_0_aaaaaa (m : MethodId) (x0 : Int32) (x1 : Int32) (x2 : Int32) (x3 : Int32) (x4 : Int32) (x5 : Int32) : entryFrame m #[(.int x0), (.int x1), (.int x2), (.int x3), (.int x4), (.int x5)] maxLocals = mkF m 0 #[.val (.int x0), .val (.int x1), .val (.int x2), .val (.int x3), .val (.int x4), .val (.int x5), .unset, .unset, .unset] [] := by first | (simp [entryFrame, mkF, argsToLocals, Value.category, maxLocals]; done) | rfl
theorem rm0 (l : Launch) (Z : State) (a0 : Array Value) (hw : HW a0 Z) (ws : List Jvm.Cond) (p0 : Int32) (p1 : Int32) (p2 : Int32) (p3 : Int32) (p4 : Int32) (p5 : Int32) (h0 : Heap) (n0 : Nat) (Z0 : n0 ≤ h0.size) :
    MetFree l x (head1 (Jvm.Cond.code x code maxLocals ret :: ws) room_1) (fun a U => a = #[(.int p0), (.int p1), (.int p2), (.int p3), (.int p4), (.int p5)] ∧ Z.Warmed39 U.vm ∧ U.heap = h0) (fun _ _ _ _ _ => True) (fun _ U o U' => ∃ v L, o = .returned v ∧ Q0 n0 v U'.heap L ∧ FrameEnd U o U' L 40 8320) := by
  refine MetFree.of_bodySF (plainFor_of_name pn_4) hisR ?_
  intro p e s m args below meth c s₁ Bd hml0 hP hK
  obtain ⟨rfl, hZ, hh⟩ := hP
  have hx := Bd.exec
  have hby := Bd.bytes
  have hml : c.maxLocals = 9 := hml0
  have hown : s.vm.findClass "com/example/whittle/whittle/engine/DomainsContainsPinLaw" = some m.cls := findClass_of_methodNamed Bd.named
  have X0 : Stand p l e room_1 s m #[(.int p0), (.int p1), (.int p2), (.int p3), (.int p4), (.int p5)] below meth c s₁ [] 0 0 := Stand.of_body Bd
  have e0 : s₁.heap = h0 := by rw [← hh, Bd.state]; rfl
  have N0 := Fr.nil n0
  refine Go.into (P := fun oo uu => ∃ v L, oo = .returned v ∧ Q0 n0 v uu.heap L ∧ FrameEnd s oo uu L 40 8320) (ef_0_aaaaaa m p0 p1 p2 p3 p4 p5) ?_
  show Go p e below _ (s₁.setTop (mkF m 0 #[sI p0, sI p1, sI p2, sI p3, sI p4, sI p5, .unset, .unset, .unset] []))
  refine Vi (s₁.setTop (mkF m 7 #[sI p0, sI p1, sI p2, sI p3, sI p4, sI p5, sI (p0 &&& (511 : Int32)), .unset, .unset] [])) (fun tZ kZ => ?_) ?_
  · refine XS.iloadN X0.here hx rfl (hb hby at_0) rfl ?_
    refine XS.sipush X0.here hx rfl (hb hby at_1) ?_
    refine XS.iand X0.here hx rfl (hb hby at_4) rfl ?_
    refine XS.istore X0.here hx rfl (hb hby at_5) rfl (l' := #[sI p0, sI p1, sI p2, sI p3, sI p4, sI p5, sI (p0 &&& (511 : Int32)), .unset, .unset]) rfl ?_
    exact kZ
  obtain ⟨T1, h1, X1, e1, E1, A1, D1, -, st1⟩ := newO X0 hx hZ hown (wq hw 0 rfl) (wq hw 1 rfl) (wq hw 2 rfl) e0 (g := (mkF m 7 #[sI p0, sI p1, sI p2, sI p3, sI p4, sI p5, sI (p0 &&& (511 : Int32)), .unset, .unset] [])) rfl (hb hby at_7) (by decide) (by decide)
  obtain ⟨b1, g1⟩ : ∃ z, z = h0.size := ⟨_, rfl⟩
  rw [← g1] at A1 D1 st1
  have g_b1 : n0 ≤ b1 := Nat.le_trans Z0 (Nat.le_of_eq g1.symm)
  have sz_b1 : h0.size ≤ b1 := Nat.le_trans ((Keep.refl h0 [])).1 (Nat.le_of_eq g1.symm)
  have K1 : Keep h0 h1 [] := (Keep.refl h0 []).ext E1
  have Z1 := Nat.le_trans Z0 E1.1
  have F1_trailVariable : Fld Z h1 b1 "com/example/whittle/whittle/engine/Domains" "trailVariable" "[I" .null := D1 (Or.inl (wq hw 11 rfl)) (ty := (.array .int)) (by decide)
  have F1_trailWord : Fld Z h1 b1 "com/example/whittle/whittle/engine/Domains" "trailWord" "[I" .null := D1 (Or.inl (wq hw 13 rfl)) (ty := (.array .int)) (by decide)
  have F1_trailSaved : Fld Z h1 b1 "com/example/whittle/whittle/engine/Domains" "trailSaved" "[J" .null := D1 (Or.inl (wq hw 16 rfl)) (ty := (.array .long)) (by decide)
  have F1_trailSize : Fld Z h1 b1 "com/example/whittle/whittle/engine/Domains" "trailSize" "[I" .null := D1 (Or.inl (wq hw 18 rfl)) (ty := (.array .int)) (by decide)
  have F1_capacities : Fld Z h1 b1 "com/example/whittle/whittle/engine/Domains" "capacities" "[I" .null := D1 (Or.inr (wq hw 29 rfl)) (ty := (.array .int)) (by decide)
  have F1_bits : Fld Z h1 b1 "com/example/whittle/whittle/engine/Domains" "bits" "[[J" .null := D1 (Or.inr (wq hw 33 rfl)) (ty := (.array (.array .long))) (by decide)
  have F1_sizes : Fld Z h1 b1 "com/example/whittle/whittle/engine/Domains" "sizes" "[I" .null := D1 (Or.inr (wq hw 35 rfl)) (ty := (.array .int)) (by decide)
  have F1_low : Fld Z h1 b1 "com/example/whittle/whittle/engine/Domains" "low" "[I" .null := D1 (Or.inr (wq hw 37 rfl)) (ty := (.array .int)) (by decide)
  have F1_high : Fld Z h1 b1 "com/example/whittle/whittle/engine/Domains" "high" "[I" .null := D1 (Or.inr (wq hw 39 rfl)) (ty := (.array .int)) (by decide)
  have F1_changed : Fld Z h1 b1 "com/example/whittle/whittle/engine/Domains" "changed" "[I" .null := D1 (Or.inr (wq hw 42 rfl)) (ty := (.array .int)) (by decide)
  have F1_isChanged : Fld Z h1 b1 "com/example/whittle/whittle/engine/Domains" "isChanged" "[Z" .null := D1 (Or.inr (wq hw 45 rfl)) (ty := (.array .boolean)) (by decide)
  have F1_trailLength : Fld Z h1 b1 "com/example/whittle/whittle/engine/Domains" "trailLength" "I" (.int 0) := D1 (Or.inl (wq hw 57 rfl)) (ty := .int) (by decide)
  have F1_changedCount : Fld Z h1 b1 "com/example/whittle/whittle/engine/Domains" "changedCount" "I" (.int 0) := D1 (Or.inl (wq hw 64 rfl)) (ty := .int) (by decide)
  have F1_listener : Fld Z h1 b1 "com/example/whittle/whittle/engine/Domains" "listener" "Lcom/example/whittle/whittle/engine/Domains$RemovalListener;" .null := D1 (Or.inl (wq hw 71 rfl)) (ty := (.object "com/example/whittle/whittle/engine/Domains$RemovalListener")) (by decide)
  refine Go.via st1 ?_
  refine Vi (T1.setTop (mkF m 12 #[sI p0, sI p1, sI p2, sI p3, sI p4, sI p5, sI (p0 &&& (511 : Int32)), .unset, .unset] [(.int 1), (.ref b1), (.ref b1)])) (fun tZ kZ => ?_) ?_
  · refine XS.dup X1.here hx rfl (hb hby at_10) rfl rfl ?_
    refine XS.iconst X1.here hx rfl (hb hby at_11) ?_
    exact kZ
  obtain ⟨T3, h3, k3, X3, e3, E3, A3, B3, st3⟩ := newPE X1 hx hZ (wq hw 3 rfl) e1 (g := (mkF m 12 #[sI p0, sI p1, sI p2, sI p3, sI p4, sI p5, sI (p0 &&& (511 : Int32)), .unset, .unset] [(.int 1), (.ref b1), (.ref b1)])) rfl (hb hby at_12) rfl (by decide) (cap := 1) (by decide) (by decide) (by decide) (by decide) (ad := "[I") rfl
  obtain ⟨b3, g3⟩ : ∃ z, z = h1.size := ⟨_, rfl⟩
  rw [← g3] at A3 B3 st3
  have g_b3 : n0 ≤ b3 := Nat.le_trans Z1 (Nat.le_of_eq g3.symm)
  have sz_b3 : h0.size ≤ b3 := Nat.le_trans (K1).1 (Nat.le_of_eq g3.symm)
  have ne_b1_b3 : b1 ≠ b3 := Nat.ne_of_lt (Nat.lt_of_lt_of_le A1.lt (Nat.le_of_eq g3.symm))
  have c4_1 := A1.ext E3
  have c4_2 := F1_trailVariable.ext E3
  have c4_3 := F1_trailWord.ext E3
  have c4_4 := F1_trailSaved.ext E3
  have c4_5 := F1_trailSize.ext E3
  have c4_6 := F1_capacities.ext E3
  have c4_7 := F1_bits.ext E3
  have c4_8 := F1_sizes.ext E3
  have c4_9 := F1_low.ext E3
  have c4_10 := F1_high.ext E3
  have c4_11 := F1_changed.ext E3
  have c4_12 := F1_isChanged.ext E3
  have c4_13 := F1_trailLength.ext E3
  have c4_14 := F1_changedCount.ext E3
  have c4_15 := F1_listener.ext E3
  have K3 : Keep h0 h3 [] := K1.ext E3
  have Z3 := Nat.le_trans Z1 E3.1
  have V3 : AV Z h3 b3 .int 1 (fun k => .int ((fun _ => (0 : Int32)) k)) := by have q := AV.new A3; exact q
  refine Go.via st3 ?_
  refine Vi (T3.setTop (mkF m 18 #[sI p0, sI p1, sI p2, sI p3, sI p4, sI p5, sI (p0 &&& (511 : Int32)), .unset, .unset] [(.int (p0 &&& (511 : Int32))), (.int 0), (.ref b3), (.ref b3), (.ref b1), (.ref b1)])) (fun tZ kZ => ?_) ?_
  · refine XS.dup X3.here hx rfl (hb hby at_14) rfl rfl ?_
    refine XS.iconst X3.here hx rfl (hb hby at_15) ?_
    refine XS.iload X3.here hx rfl (hb hby at_16) rfl ?_
    exact kZ
  obtain ⟨T5, h5, X5, e5, W5, V5, st5⟩ := AV.iastore V3 X3 hx hZ e3 (j := (0 : Int32)) (by decide) (Ls := #[sI p0, sI p1, sI p2, sI p3, sI p4, sI p5, sI (p0 &&& (511 : Int32)), .unset, .unset]) (rest := [(.ref b3), (.ref b1), (.ref b1)]) (hb hby at_18) (x := (p0 &&& (511 : Int32)))
  have N5 := Fr.snoc X5 N0 g_b3
  have c6_1 := c4_1.wr W5
  have c6_2 := c4_2.other W5 (Or.inl ne_b1_b3)
  have c6_3 := c4_3.other W5 (Or.inl ne_b1_b3)
  have c6_4 := c4_4.other W5 (Or.inl ne_b1_b3)
  have c6_5 := c4_5.other W5 (Or.inl ne_b1_b3)
  have c6_6 := c4_6.other W5 (Or.inl ne_b1_b3)
  have c6_7 := c4_7.other W5 (Or.inl ne_b1_b3)
  have c6_8 := c4_8.other W5 (Or.inl ne_b1_b3)
  have c6_9 := c4_9.other W5 (Or.inl ne_b1_b3)
  have c6_10 := c4_10.other W5 (Or.inl ne_b1_b3)
  have c6_11 := c4_11.other W5 (Or.inl ne_b1_b3)
  have c6_12 := c4_12.other W5 (Or.inl ne_b1_b3)
  have c6_13 := c4_13.other W5 (Or.inl ne_b1_b3)
  have c6_14 := c4_14.other W5 (Or.inl ne_b1_b3)
  have c6_15 := c4_15.other W5 (Or.inl ne_b1_b3)
  have c6_17 := B3.wr W5
  have K5 : Keep h0 h5 [] := K3.wr W5 (Or.inr sz_b3)
  have Z5 := Nat.le_trans Z3 (Keep.of_wr W5).1
  refine Go.via st5 ?_
  obtain ⟨nW, hnW⟩ : ∃ z, (own_J ((p0 &&& (511 : Int32)) + (63 : Int32))).toNatClampNeg = z := ⟨_, rfl⟩
  obtain ⟨_, _, ⟨T7, L7, k7, n7⟩, -, X7, ⟨Lc7, hQ7, l7, y7, z7⟩, st7⟩ := X5.specialBack hx (y := y1) rfl hown (wz hZ hw 4 rfl) (wz hZ hw 5 rfl) (wz hZ hw 6 rfl) (by decide) (backOf (W := 1) (rm1 l Z a0 hw [] b1 b3 (up (fun _ => (0 : Int32)) (0 : Int32).toNatClampNeg (p0 &&& (511 : Int32))) nW h5 n0 Z5 c6_1 c6_13 c6_14 c6_15 c6_9 c6_10 c6_8 c6_6 c6_11 c6_12 c6_7 c6_2 c6_3 c6_4 c6_5 g_b1 c6_17 V5 ne_b1_b3 (by rw [own_up]; exact (own_nW p0).1) (by rw [own_up]; exact (own_nW p0).2) (by rw [own_up]; exact hnW)) hZ (wq hw 6 rfl) (wq hw 2 rfl) (by decide) (by decide)) (g := (mkF m 19 #[sI p0, sI p1, sI p2, sI p3, sI p4, sI p5, sI (p0 &&& (511 : Int32)), .unset, .unset] [(.ref b3), (.ref b1), (.ref b1)])) rfl (by rw [hml]; rfl) (Steps.refl _) (a := b1) (argsL := [(.ref b3)]) (rest := [(.ref b1)]) (lenOf pd_0 rfl) rfl (leW rfl) (hb hby at_19) (fun _ _ => ⟨rfl, e5, (by decide : 0 + 1 + 1 + 12 ≤ _), (by decide : 0 + 14 + 1 + 4111 ≤ _)⟩)
  dsimp only [Pt.U, Pt.locs, Pt.cells, Pt.slots] at X7 l7 y7 z7 st7 hQ7
  subst l7 y7 z7
  obtain ⟨rfl, N7q, b7_0, b7_1, b7_2, b7_3, b7_4, b7_5, b7_6, b7_7, b7_8, b7_9, b7_10, b7_11, hz_b7_0, hz_b7_1, hz_b7_2, hz_b7_3, hz_b7_4, hz_b7_5, hz_b7_6, hz_b7_7, hz_b7_8, hz_b7_9, hz_b7_10, hz_b7_11, ne_b7_0_b7_1, ne_b7_0_b7_2, ne_b7_0_b7_3, ne_b7_0_b7_4, ne_b7_0_b7_5, ne_b7_0_b7_6, ne_b7_0_b7_7, ne_b7_0_b7_8, ne_b7_0_b7_9, ne_b7_0_b7_10, ne_b7_0_b7_11, ne_b7_1_b7_2, ne_b7_1_b7_3, ne_b7_1_b7_4, ne_b7_1_b7_5, ne_b7_1_b7_6, ne_b7_1_b7_7, ne_b7_1_b7_8, ne_b7_1_b7_9, ne_b7_1_b7_10, ne_b7_1_b7_11, ne_b7_2_b7_3, ne_b7_2_b7_4, ne_b7_2_b7_5, ne_b7_2_b7_6, ne_b7_2_b7_7, ne_b7_2_b7_8, ne_b7_2_b7_9, ne_b7_2_b7_10, ne_b7_2_b7_11, ne_b7_3_b7_4, ne_b7_3_b7_5, ne_b7_3_b7_6, ne_b7_3_b7_7, ne_b7_3_b7_8, ne_b7_3_b7_9, ne_b7_3_b7_10, ne_b7_3_b7_11, ne_b7_4_b7_5, ne_b7_4_b7_6, ne_b7_4_b7_7, ne_b7_4_b7_8, ne_b7_4_b7_9, ne_b7_4_b7_10, ne_b7_4_b7_11, ne_b7_5_b7_6, ne_b7_5_b7_7, ne_b7_5_b7_8, ne_b7_5_b7_9, ne_b7_5_b7_10, ne_b7_5_b7_11, ne_b7_6_b7_7, ne_b7_6_b7_8, ne_b7_6_b7_9, ne_b7_6_b7_10, ne_b7_6_b7_11, ne_b7_7_b7_8, ne_b7_7_b7_9, ne_b7_7_b7_10, ne_b7_7_b7_11, ne_b7_8_b7_9, ne_b7_8_b7_10, ne_b7_8_b7_11, ne_b7_9_b7_10, ne_b7_9_b7_11, ne_b7_10_b7_11, Kq7, f7_0, f7_1, f7_2, f7_3, f7_4, f7_5, f7_6, f7_7, f7_8, f7_9, f7_10, f7_11, f7_12, f7_13, f7_14, f7_15, f7_16, f7_17, f7_18, f7_19, f7_20, f7_21, f7_22, f7_23, f7_24, f7_25, f7_26, f7_27, f7_28, f7_29, f7_30, f7_31, f7_32, f7_33, f7_34, f7_35, f7_36, f7_37, f7_38, f7_39, f7_40, f7_41⟩ := hQ7
  have g_b7_0 : n0 ≤ b7_0 := Nat.le_trans Z5 hz_b7_0
  have sz_b7_0 : h0.size ≤ b7_0 := Nat.le_trans (K5).1 hz_b7_0
  have ne_b1_b7_0 : b1 ≠ b7_0 := Nat.ne_of_lt (Nat.lt_of_lt_of_le c6_1.lt hz_b7_0)
  have ne_b3_b7_0 : b3 ≠ b7_0 := Nat.ne_of_lt (Nat.lt_of_lt_of_le c6_17.lt hz_b7_0)
  have g_b7_1 : n0 ≤ b7_1 := Nat.le_trans Z5 hz_b7_1
  have sz_b7_1 : h0.size ≤ b7_1 := Nat.le_trans (K5).1 hz_b7_1
  have ne_b1_b7_1 : b1 ≠ b7_1 := Nat.ne_of_lt (Nat.lt_of_lt_of_le c6_1.lt hz_b7_1)
  have ne_b3_b7_1 : b3 ≠ b7_1 := Nat.ne_of_lt (Nat.lt_of_lt_of_le c6_17.lt hz_b7_1)
  have g_b7_2 : n0 ≤ b7_2 := Nat.le_trans Z5 hz_b7_2
  have sz_b7_2 : h0.size ≤ b7_2 := Nat.le_trans (K5).1 hz_b7_2
  have ne_b1_b7_2 : b1 ≠ b7_2 := Nat.ne_of_lt (Nat.lt_of_lt_of_le c6_1.lt hz_b7_2)
  have ne_b3_b7_2 : b3 ≠ b7_2 := Nat.ne_of_lt (Nat.lt_of_lt_of_le c6_17.lt hz_b7_2)
  have g_b7_3 : n0 ≤ b7_3 := Nat.le_trans Z5 hz_b7_3
  have sz_b7_3 : h0.size ≤ b7_3 := Nat.le_trans (K5).1 hz_b7_3
  have ne_b1_b7_3 : b1 ≠ b7_3 := Nat.ne_of_lt (Nat.lt_of_lt_of_le c6_1.lt hz_b7_3)
  have ne_b3_b7_3 : b3 ≠ b7_3 := Nat.ne_of_lt (Nat.lt_of_lt_of_le c6_17.lt hz_b7_3)
  have g_b7_4 : n0 ≤ b7_4 := Nat.le_trans Z5 hz_b7_4
  have sz_b7_4 : h0.size ≤ b7_4 := Nat.le_trans (K5).1 hz_b7_4
  have ne_b1_b7_4 : b1 ≠ b7_4 := Nat.ne_of_lt (Nat.lt_of_lt_of_le c6_1.lt hz_b7_4)
  have ne_b3_b7_4 : b3 ≠ b7_4 := Nat.ne_of_lt (Nat.lt_of_lt_of_le c6_17.lt hz_b7_4)
  have g_b7_5 : n0 ≤ b7_5 := Nat.le_trans Z5 hz_b7_5
  have sz_b7_5 : h0.size ≤ b7_5 := Nat.le_trans (K5).1 hz_b7_5
  have ne_b1_b7_5 : b1 ≠ b7_5 := Nat.ne_of_lt (Nat.lt_of_lt_of_le c6_1.lt hz_b7_5)
  have ne_b3_b7_5 : b3 ≠ b7_5 := Nat.ne_of_lt (Nat.lt_of_lt_of_le c6_17.lt hz_b7_5)
  have g_b7_6 : n0 ≤ b7_6 := Nat.le_trans Z5 hz_b7_6
  have sz_b7_6 : h0.size ≤ b7_6 := Nat.le_trans (K5).1 hz_b7_6
  have ne_b1_b7_6 : b1 ≠ b7_6 := Nat.ne_of_lt (Nat.lt_of_lt_of_le c6_1.lt hz_b7_6)
  have ne_b3_b7_6 : b3 ≠ b7_6 := Nat.ne_of_lt (Nat.lt_of_lt_of_le c6_17.lt hz_b7_6)
  have g_b7_7 : n0 ≤ b7_7 := Nat.le_trans Z5 hz_b7_7
  have sz_b7_7 : h0.size ≤ b7_7 := Nat.le_trans (K5).1 hz_b7_7
  have ne_b1_b7_7 : b1 ≠ b7_7 := Nat.ne_of_lt (Nat.lt_of_lt_of_le c6_1.lt hz_b7_7)
  have ne_b3_b7_7 : b3 ≠ b7_7 := Nat.ne_of_lt (Nat.lt_of_lt_of_le c6_17.lt hz_b7_7)
  have g_b7_8 : n0 ≤ b7_8 := Nat.le_trans Z5 hz_b7_8
  have sz_b7_8 : h0.size ≤ b7_8 := Nat.le_trans (K5).1 hz_b7_8
  have ne_b1_b7_8 : b1 ≠ b7_8 := Nat.ne_of_lt (Nat.lt_of_lt_of_le c6_1.lt hz_b7_8)
  have ne_b3_b7_8 : b3 ≠ b7_8 := Nat.ne_of_lt (Nat.lt_of_lt_of_le c6_17.lt hz_b7_8)
  have g_b7_9 : n0 ≤ b7_9 := Nat.le_trans Z5 hz_b7_9
  have sz_b7_9 : h0.size ≤ b7_9 := Nat.le_trans (K5).1 hz_b7_9
  have ne_b1_b7_9 : b1 ≠ b7_9 := Nat.ne_of_lt (Nat.lt_of_lt_of_le c6_1.lt hz_b7_9)
  have ne_b3_b7_9 : b3 ≠ b7_9 := Nat.ne_of_lt (Nat.lt_of_lt_of_le c6_17.lt hz_b7_9)
  have g_b7_10 : n0 ≤ b7_10 := Nat.le_trans Z5 hz_b7_10
  have sz_b7_10 : h0.size ≤ b7_10 := Nat.le_trans (K5).1 hz_b7_10
  have ne_b1_b7_10 : b1 ≠ b7_10 := Nat.ne_of_lt (Nat.lt_of_lt_of_le c6_1.lt hz_b7_10)
  have ne_b3_b7_10 : b3 ≠ b7_10 := Nat.ne_of_lt (Nat.lt_of_lt_of_le c6_17.lt hz_b7_10)
  have g_b7_11 : n0 ≤ b7_11 := Nat.le_trans Z5 hz_b7_11
  have sz_b7_11 : h0.size ≤ b7_11 := Nat.le_trans (K5).1 hz_b7_11
  have ne_b1_b7_11 : b1 ≠ b7_11 := Nat.ne_of_lt (Nat.lt_of_lt_of_le c6_1.lt hz_b7_11)
  have ne_b3_b7_11 : b3 ≠ b7_11 := Nat.ne_of_lt (Nat.lt_of_lt_of_le c6_17.lt hz_b7_11)
  have K7 : Keep h0 T7.heap [] := K5.trans Kq7 (allS (Or.inr sz_b1) all0)
  have Z7 := Nat.le_trans Z5 Kq7.1
  have N7 := Fr.app N5 N7q
  refine Go.via (fun t k => st7.trans k) ?_
  have VB : AV Z T7.heap b7_5 (.array .long) 1 (fun _ => Value.ref b7_9) := f7_27.congr (fun j hj => by obtain rfl : j = 0 := (by omega); rfl)
  refine Vi (T7.setTop (mkF m 26 #[sI p0, sI p1, sI p2, sI p3, sI p4, sI p5, sI (p0 &&& (511 : Int32)), sR b1, .unset] [(.ref b1)])) (fun tZ kZ => ?_) ?_
  · refine XS.astore X7.here hx rfl (hb hby at_22) rfl rfl (l' := #[sI p0, sI p1, sI p2, sI p3, sI p4, sI p5, sI (p0 &&& (511 : Int32)), sR b1, .unset]) rfl ?_
    refine XS.aload X7.here hx rfl (hb hby at_24) rfl rfl ?_
    exact kZ
  obtain ⟨cq9, kq9, q9a, q9b, q9c⟩ := isOf hZ rfl f7_0
  obtain ⟨_, _, ⟨T9, L9, k9, n9⟩, -, X9, ⟨Lc9, hQ9, l9, y9, z9⟩, st9⟩ := X7.virtualBack hx (y := y3) (z := y3) hown (wz hZ hw 46 rfl) (wz hZ hw 47 rfl) (notFace_of_selects (args := #[]) (wz hZ hw 49 rfl)) (wz hZ hw 49 rfl) (wz hZ hw 48 rfl) (by decide) (backOf (W := 0) (rm3 l Z a0 hw [] b1 b7_7 b7_8 b7_6 b7_4 b7_10 b7_11 b7_5 b7_0 b7_1 b7_2 b7_3 b7_9 nW (fun _ => (0 : Int64)) (fun _ => (0 : Int32)) (fun _ => (0 : Int32)) (fun _ => (0 : Int32)) (up (fun _ => (0 : Int32)) (0 : Int32).toNatClampNeg (p0 &&& (511 : Int32))) T7.heap n0 Z7 f7_0 f7_3 f7_4 f7_5 f7_6 f7_7 f7_8 f7_9 f7_10 f7_11 f7_12 f7_13 f7_14 VB f7_37 f7_31 f7_33 f7_35 f7_25 f7_1 f7_2 g_b1 g_b7_9 g_b7_6 g_b7_7 g_b7_8 ne_b1_b7_4 ne_b1_b7_5 ne_b1_b7_9 ne_b1_b7_6 ne_b1_b7_7 ne_b1_b7_8 ne_b7_4_b7_5 ne_b7_4_b7_9 ne_b7_4_b7_6 ne_b7_4_b7_7 ne_b7_4_b7_8 ne_b7_5_b7_9 ne_b7_5_b7_6 ne_b7_5_b7_7 ne_b7_5_b7_8 (Ne.symm ne_b7_6_b7_9) (Ne.symm ne_b7_7_b7_9) (Ne.symm ne_b7_8_b7_9) ne_b7_6_b7_7 ne_b7_6_b7_8 ne_b7_7_b7_8) hZ (wq hw 50 rfl) (wq hw 2 rfl) (by decide) (by decide)) q9a q9c (g := (mkF m 26 #[sI p0, sI p1, sI p2, sI p3, sI p4, sI p5, sI (p0 &&& (511 : Int32)), sR b1, .unset] [(.ref b1)])) rfl (by rw [hml]; rfl) (Steps.refl _) (argsL := []) (rest := []) (lenOf pd_1 rfl) rfl (leW rfl) (hb hby at_26) (fun _ _ => ⟨rfl, rfl, (by decide : 0 + 1 + 1 + 12 + 0 ≤ _), (by decide : 0 + 14 + 1 + 4111 + 0 ≤ _)⟩)
  dsimp only [Pt.U, Pt.locs, Pt.cells, Pt.slots] at X9 l9 y9 z9 st9 hQ9
  subst l9 y9 z9
  obtain ⟨rfl, N9q, Kq9, f9_0, f9_1, f9_2, f9_3, f9_4, f9_5, f9_6, f9_7, f9_8, f9_9, f9_10, f9_11, f9_12, f9_13, f9_14, f9_15, f9_16, f9_17, f9_18, f9_19, f9_20⟩ := hQ9
  have c10_17 := f7_15.keep Kq9
  have c10_18 := f7_16.keep Kq9 (ninS ne_b3_b7_9 (ninS ne_b3_b7_6 (ninS ne_b3_b7_7 (ninS ne_b3_b7_8 (ninS (Ne.symm ne_b1_b3) nin0)))))
  have c10_19 := f7_17.keep Kq9
  have c10_20 := f7_18.keep Kq9 (ninS ne_b7_0_b7_9 (ninS ne_b7_0_b7_6 (ninS ne_b7_0_b7_7 (ninS ne_b7_0_b7_8 (ninS (Ne.symm ne_b1_b7_0) nin0)))))
  have c10_21 := f7_19.keep Kq9
  have c10_22 := f7_20.keep Kq9 (ninS ne_b7_1_b7_9 (ninS ne_b7_1_b7_6 (ninS ne_b7_1_b7_7 (ninS ne_b7_1_b7_8 (ninS (Ne.symm ne_b1_b7_1) nin0)))))
  have c10_23 := f7_21.keep Kq9
  have c10_24 := f7_22.keep Kq9 (ninS ne_b7_2_b7_9 (ninS ne_b7_2_b7_6 (ninS ne_b7_2_b7_7 (ninS ne_b7_2_b7_8 (ninS (Ne.symm ne_b1_b7_2) nin0)))))
  have c10_25 := f7_23.keep Kq9
  have c10_26 := f7_24.keep Kq9 (ninS ne_b7_3_b7_9 (ninS ne_b7_3_b7_6 (ninS ne_b7_3_b7_7 (ninS ne_b7_3_b7_8 (ninS (Ne.symm ne_b1_b7_3) nin0)))))
  have c10_28 := f7_26.keep Kq9
  have c10_30 := f7_28.keep Kq9
  have c10_31 := f7_29.keep Kq9
  have c10_32 := f7_30.keep Kq9
  have c10_34 := f7_32.keep Kq9
  have c10_36 := f7_34.keep Kq9
  have c10_38 := f7_36.keep Kq9
  have c10_40 := f7_38.keep Kq9
  have c10_41 := f7_39.keep Kq9 (ninS (Ne.symm ne_b7_9_b7_10) (ninS (Ne.symm ne_b7_6_b7_10) (ninS (Ne.symm ne_b7_7_b7_10) (ninS (Ne.symm ne_b7_8_b7_10) (ninS (Ne.symm ne_b1_b7_10) nin0)))))
  have c10_42 := f7_40.keep Kq9
  have c10_43 := f7_41.keep Kq9 (ninS (Ne.symm ne_b7_9_b7_11) (ninS (Ne.symm ne_b7_6_b7_11) (ninS (Ne.symm ne_b7_7_b7_11) (ninS (Ne.symm ne_b7_8_b7_11) (ninS (Ne.symm ne_b1_b7_11) nin0)))))
  have K9 : Keep h0 T9.heap [] := K7.trans Kq9 (allS (Or.inr sz_b7_9) (allS (Or.inr sz_b7_6) (allS (Or.inr sz_b7_7) (allS (Or.inr sz_b7_8) (allS (Or.inr sz_b1) all0)))))
  have Z9 := Nat.le_trans Z7 Kq9.1
  have N9 := Fr.app N7 N9q
  refine Go.via (fun t k => st9.trans k) ?_
  refine Vi (T9.setTop (mkF m 34 #[sI p0, sI p1, sI p2, sI p3, sI p4, sI p5, sI (p0 &&& (511 : Int32)), sR b1, .unset] [(.int p2), (.int p1), (.int 0), (.ref b1)])) (fun tZ kZ => ?_) ?_
  · refine XS.aload X9.here hx rfl (hb hby at_29) rfl rfl ?_
    refine XS.iconst X9.here hx rfl (hb hby at_31) ?_
    refine XS.iloadN X9.here hx rfl (hb hby at_32) rfl ?_
    refine XS.iloadN X9.here hx rfl (hb hby at_33) rfl ?_
    exact kZ
  have hl0 : ((up (fun _ => (0 : Int32)) (0 : Int32).toNatClampNeg (0 : Int32)) (0 : Int32).toNatClampNeg) = 0 := own_up
  have hh0 : ((up (fun _ => (0 : Int32)) (0 : Int32).toNatClampNeg (((up (fun _ => (0 : Int32)) (0 : Int32).toNatClampNeg (p0 &&& (511 : Int32))) (0 : Int32).toNatClampNeg) - (1 : Int32))) (0 : Int32).toNatClampNeg) = (p0 &&& (511 : Int32)) - 1 := by simp only [own_up]
  have I0 : own_I ((up (fun _ => (0 : Int32)) (0 : Int32).toNatClampNeg (0 : Int32)) (0 : Int32).toNatClampNeg) ((up (fun _ => (0 : Int32)) (0 : Int32).toNatClampNeg (((up (fun _ => (0 : Int32)) (0 : Int32).toNatClampNeg (p0 &&& (511 : Int32))) (0 : Int32).toNatClampNeg) - (1 : Int32))) (0 : Int32).toNatClampNeg) (fun _ => (-1 : Int64)) nW 512 := own_start hnW hl0 hh0 (fun _ => rfl)
  obtain ⟨cq11, kq11, q11a, q11b, q11c⟩ := isOf hZ rfl f9_0
  obtain ⟨_, _, ⟨T11, L11, k11, n11⟩, -, X11, ⟨Lc11, hQ11, l11, y11, z11⟩, st11⟩ := X9.virtualBack hx (y := y6) (z := y6) hown (wz hZ hw 65 rfl) (wz hZ hw 66 rfl) (notFace_of_selects (args := #[]) (wz hZ hw 68 rfl)) (wz hZ hw 68 rfl) (wz hZ hw 67 rfl) (by decide) (backOf (W := 0) (rm6 l Z a0 hw [] b1 p1 p2 (0 : Int32) (0 : Int32) b7_7 b7_8 b7_6 b7_4 b7_10 b7_11 b7_5 b7_0 b7_1 b7_2 b7_3 b7_9 nW (fun _ => (-1 : Int64)) (up (fun _ => (0 : Int32)) (0 : Int32).toNatClampNeg ((up (fun _ => (0 : Int32)) (0 : Int32).toNatClampNeg (p0 &&& (511 : Int32))) (0 : Int32).toNatClampNeg)) (up (fun _ => (0 : Int32)) (0 : Int32).toNatClampNeg (0 : Int32)) (up (fun _ => (0 : Int32)) (0 : Int32).toNatClampNeg (((up (fun _ => (0 : Int32)) (0 : Int32).toNatClampNeg (p0 &&& (511 : Int32))) (0 : Int32).toNatClampNeg) - (1 : Int32))) (fun _ => (0 : Int32)) (fun _ => (0 : Int32)) (fun _ => (0 : Int32)) (fun _ => (0 : Int32)) (fun _ => (0 : Int64)) (fun _ => (0 : Int32)) T9.heap n0 Z9 f9_0 f9_19 f9_20 f9_1 f9_2 f9_3 f9_4 f9_5 f9_6 f9_7 f9_8 f9_9 f9_10 f9_11 f9_12 f9_13 f9_14 f9_15 f9_16 f9_17 c10_41 c10_43 c10_20 c10_22 c10_24 c10_26 g_b1 g_b7_6 g_b7_7 g_b7_8 g_b7_10 g_b7_11 g_b7_0 g_b7_1 g_b7_2 g_b7_3 ne_b1_b7_5 ne_b1_b7_9 ne_b1_b7_6 ne_b1_b7_7 ne_b1_b7_8 ne_b1_b7_10 ne_b1_b7_11 ne_b1_b7_0 ne_b1_b7_1 ne_b1_b7_2 ne_b1_b7_3 ne_b7_5_b7_9 ne_b7_5_b7_6 ne_b7_5_b7_7 ne_b7_5_b7_8 ne_b7_5_b7_10 ne_b7_5_b7_11 (Ne.symm ne_b7_0_b7_5) (Ne.symm ne_b7_1_b7_5) (Ne.symm ne_b7_2_b7_5) (Ne.symm ne_b7_3_b7_5) (Ne.symm ne_b7_6_b7_9) (Ne.symm ne_b7_7_b7_9) (Ne.symm ne_b7_8_b7_9) ne_b7_9_b7_10 ne_b7_9_b7_11 (Ne.symm ne_b7_0_b7_9) (Ne.symm ne_b7_1_b7_9) (Ne.symm ne_b7_2_b7_9) (Ne.symm ne_b7_3_b7_9) ne_b7_6_b7_7 ne_b7_6_b7_8 ne_b7_6_b7_10 ne_b7_6_b7_11 (Ne.symm ne_b7_0_b7_6) (Ne.symm ne_b7_1_b7_6) (Ne.symm ne_b7_2_b7_6) (Ne.symm ne_b7_3_b7_6) ne_b7_7_b7_8 ne_b7_7_b7_10 ne_b7_7_b7_11 (Ne.symm ne_b7_0_b7_7) (Ne.symm ne_b7_1_b7_7) (Ne.symm ne_b7_2_b7_7) (Ne.symm ne_b7_3_b7_7) ne_b7_8_b7_10 ne_b7_8_b7_11 (Ne.symm ne_b7_0_b7_8) (Ne.symm ne_b7_1_b7_8) (Ne.symm ne_b7_2_b7_8) (Ne.symm ne_b7_3_b7_8) ne_b7_10_b7_11 (Ne.symm ne_b7_0_b7_10) (Ne.symm ne_b7_1_b7_10) (Ne.symm ne_b7_2_b7_10) (Ne.symm ne_b7_3_b7_10) (Ne.symm ne_b7_0_b7_11) (Ne.symm ne_b7_1_b7_11) (Ne.symm ne_b7_2_b7_11) (Ne.symm ne_b7_3_b7_11) ne_b7_0_b7_1 ne_b7_0_b7_2 ne_b7_0_b7_3 ne_b7_1_b7_2 ne_b7_1_b7_3 ne_b7_2_b7_3 I0 (by decide) (by decide) (by simp only [own_up]; exact own_sz _) (fun _ => rfl)) hZ (wq hw 69 rfl) (wq hw 2 rfl) (by decide) (by decide)) q11a q11c (g := (mkF m 34 #[sI p0, sI p1, sI p2, sI p3, sI p4, sI p5, sI (p0 &&& (511 : Int32)), sR b1, .unset] [(.int p2), (.int p1), (.int 0), (.ref b1)])) rfl (by rw [hml]; rfl) (Steps.refl _) (argsL := [(.int 0), (.int p1), (.int p2)]) (rest := []) (lenOf pd_4 rfl) rfl (leW rfl) (hb hby at_34) (fun _ _ => ⟨rfl, rfl, (by decide : 0 + 1 + 1 + 12 + 0 + 0 ≤ _), (by decide : 0 + 14 + 1 + 4111 + 0 + 0 ≤ _)⟩)
  dsimp only [Pt.U, Pt.locs, Pt.cells, Pt.slots] at X11 l11 y11 z11 st11 hQ11
  subst l11 y11 z11
  obtain ⟨lF_11, hF_11, sF_11, chF_11, icF_11, tvF_11, twF_11, tsF_11, tzF_11, tl_11, cc_11, rr11, rfl, N11q, Kq11, f11_0, f11_1, f11_2, f11_3, f11_4, f11_5, f11_6, f11_7, f11_8, f11_9, f11_10, f11_11, f11_12, f11_13, f11_14, f11_15, f11_16, f11_17, f11_18, f11_19, f11_20, f11_21, f11_22, f11_23, f11_24, f11_25, rel11⟩ := hQ11
  have c12_17 := c10_17.keep Kq11
  have c12_18 := c10_18.keep Kq11 (ninS ne_b3_b7_0 (ninS ne_b3_b7_1 (ninS ne_b3_b7_2 (ninS ne_b3_b7_3 (ninS (Ne.symm ne_b1_b3) (ninS ne_b3_b7_7 (ninS ne_b3_b7_8 (ninS ne_b3_b7_6 (ninS ne_b3_b7_11 (ninS ne_b3_b7_10 nin0))))))))))
  have c12_19 := c10_19.keep Kq11
  have c12_21 := c10_21.keep Kq11
  have c12_23 := c10_23.keep Kq11
  have c12_25 := c10_25.keep Kq11
  have c12_27 := f9_18.keep Kq11 (ninS (Ne.symm ne_b7_0_b7_4) (ninS (Ne.symm ne_b7_1_b7_4) (ninS (Ne.symm ne_b7_2_b7_4) (ninS (Ne.symm ne_b7_3_b7_4) (ninS (Ne.symm ne_b1_b7_4) (ninS ne_b7_4_b7_7 (ninS ne_b7_4_b7_8 (ninS ne_b7_4_b7_6 (ninS ne_b7_4_b7_11 (ninS ne_b7_4_b7_10 nin0))))))))))
  have c12_28 := c10_28.keep Kq11
  have c12_30 := c10_30.keep Kq11
  have c12_31 := c10_31.keep Kq11
  have c12_32 := c10_32.keep Kq11
  have c12_34 := c10_34.keep Kq11
  have c12_36 := c10_36.keep Kq11
  have c12_38 := c10_38.keep Kq11
  have c12_40 := c10_40.keep Kq11
  have c12_42 := c10_42.keep Kq11
  have K11 : Keep h0 T11.heap [] := K9.trans Kq11 (allS (Or.inr sz_b7_0) (allS (Or.inr sz_b7_1) (allS (Or.inr sz_b7_2) (allS (Or.inr sz_b7_3) (allS (Or.inr sz_b1) (allS (Or.inr sz_b7_7) (allS (Or.inr sz_b7_8) (allS (Or.inr sz_b7_6) (allS (Or.inr sz_b7_11) (allS (Or.inr sz_b7_10) all0))))))))))
  have Z11 := Nat.le_trans Z9 Kq11.1
  have N11 := Fr.app N9 N11q
  refine Go.via (fun t k => st11.trans k) ?_
  obtain ⟨Ia, ka, ta, na⟩ := rel11
  have tta : ¬ tl_11 = (1024 : Int32) ∧ (¬ tl_11 < 0 ∧ tl_11.toNatClampNeg < 1024) := by rcases ta with h | h <;> rw [h] <;> decide
  refine Vi (T11.setTop (mkF m 42 #[sI p0, sI p1, sI p2, sI p3, sI p4, sI p5, sI (p0 &&& (511 : Int32)), sR b1, .unset] [(.int p3), (.int 0), (.ref b1)])) (fun tZ kZ => ?_) ?_
  · refine XS.pop X11.here hx rfl (hb hby at_37) rfl rfl ?_
    refine XS.aload X11.here hx rfl (hb hby at_38) rfl rfl ?_
    refine XS.iconst X11.here hx rfl (hb hby at_40) ?_
    refine XS.iloadN X11.here hx rfl (hb hby at_41) rfl ?_
    exact kZ
  obtain ⟨cq13, kq13, q13a, q13b, q13c⟩ := isOf hZ rfl f11_0
  obtain ⟨_, _, ⟨T13, L13, k13, n13⟩, -, X13, ⟨Lc13, hQ13, l13, y13, z13⟩, st13⟩ := X11.virtualBack hx (y := y14) (z := y14) hown (wz hZ hw 102 rfl) (wz hZ hw 103 rfl) (notFace_of_selects (args := #[]) (wz hZ hw 105 rfl)) (wz hZ hw 105 rfl) (wz hZ hw 104 rfl) (by decide) (backOf (W := 0) (rm14 l Z a0 hw [] b1 p3 tl_11 cc_11 b7_7 b7_8 b7_6 b7_4 b7_10 b7_11 b7_5 b7_0 b7_1 b7_2 b7_3 b7_9 nW (fun _ => (-1 : Int64)) sF_11 lF_11 hF_11 chF_11 icF_11 tvF_11 twF_11 tsF_11 tzF_11 512 T11.heap n0 Z11 f11_0 f11_1 f11_2 f11_3 f11_4 f11_5 f11_6 f11_7 f11_8 f11_9 f11_10 f11_11 f11_12 f11_13 f11_14 f11_15 f11_16 f11_17 f11_18 f11_19 f11_20 f11_21 f11_22 f11_23 f11_24 f11_25 g_b1 g_b7_9 g_b7_6 g_b7_7 g_b7_8 g_b7_10 g_b7_11 g_b7_0 g_b7_1 g_b7_2 g_b7_3 ne_b1_b7_5 ne_b1_b7_9 ne_b1_b7_6 ne_b1_b7_7 ne_b1_b7_8 ne_b1_b7_10 ne_b1_b7_11 ne_b1_b7_0 ne_b1_b7_1 ne_b1_b7_2 ne_b1_b7_3 ne_b7_5_b7_9 ne_b7_5_b7_6 ne_b7_5_b7_7 ne_b7_5_b7_8 ne_b7_5_b7_10 ne_b7_5_b7_11 (Ne.symm ne_b7_0_b7_5) (Ne.symm ne_b7_1_b7_5) (Ne.symm ne_b7_2_b7_5) (Ne.symm ne_b7_3_b7_5) (Ne.symm ne_b7_6_b7_9) (Ne.symm ne_b7_7_b7_9) (Ne.symm ne_b7_8_b7_9) ne_b7_9_b7_10 ne_b7_9_b7_11 (Ne.symm ne_b7_0_b7_9) (Ne.symm ne_b7_1_b7_9) (Ne.symm ne_b7_2_b7_9) (Ne.symm ne_b7_3_b7_9) ne_b7_6_b7_7 ne_b7_6_b7_8 ne_b7_6_b7_10 ne_b7_6_b7_11 (Ne.symm ne_b7_0_b7_6) (Ne.symm ne_b7_1_b7_6) (Ne.symm ne_b7_2_b7_6) (Ne.symm ne_b7_3_b7_6) ne_b7_7_b7_8 ne_b7_7_b7_10 ne_b7_7_b7_11 (Ne.symm ne_b7_0_b7_7) (Ne.symm ne_b7_1_b7_7) (Ne.symm ne_b7_2_b7_7) (Ne.symm ne_b7_3_b7_7) ne_b7_8_b7_10 ne_b7_8_b7_11 (Ne.symm ne_b7_0_b7_8) (Ne.symm ne_b7_1_b7_8) (Ne.symm ne_b7_2_b7_8) (Ne.symm ne_b7_3_b7_8) ne_b7_10_b7_11 (Ne.symm ne_b7_0_b7_10) (Ne.symm ne_b7_1_b7_10) (Ne.symm ne_b7_2_b7_10) (Ne.symm ne_b7_3_b7_10) (Ne.symm ne_b7_0_b7_11) (Ne.symm ne_b7_1_b7_11) (Ne.symm ne_b7_2_b7_11) (Ne.symm ne_b7_3_b7_11) ne_b7_0_b7_1 ne_b7_0_b7_2 ne_b7_0_b7_3 ne_b7_1_b7_2 ne_b7_1_b7_3 ne_b7_2_b7_3 Ia tta.1 tta.2 na) hZ (wq hw 106 rfl) (wq hw 2 rfl) (by decide) (by decide)) q13a q13c (g := (mkF m 42 #[sI p0, sI p1, sI p2, sI p3, sI p4, sI p5, sI (p0 &&& (511 : Int32)), sR b1, .unset] [(.int p3), (.int 0), (.ref b1)])) rfl (by rw [hml]; rfl) (Steps.refl _) (argsL := [(.int 0), (.int p3)]) (rest := []) (lenOf pd_9 rfl) rfl (leW rfl) (hb hby at_42) (fun _ _ => ⟨rfl, rfl, (by decide : 0 + 1 + 1 + 12 + 0 + 0 + 0 ≤ _), (by decide : 0 + 14 + 1 + 4111 + 0 + 0 + 0 ≤ _)⟩)
  dsimp only [Pt.U, Pt.locs, Pt.cells, Pt.slots] at X13 l13 y13 z13 st13 hQ13
  subst l13 y13 z13
  obtain ⟨lF_13, hF_13, sF_13, chF_13, icF_13, tvF_13, twF_13, tsF_13, tzF_13, tl_13, cc_13, wF_13, rr13, rfl, N13q, Kq13, f13_0, f13_1, f13_2, f13_3, f13_4, f13_5, f13_6, f13_7, f13_8, f13_9, f13_10, f13_11, f13_12, f13_13, f13_14, f13_15, f13_16, f13_17, f13_18, f13_19, f13_20, f13_21, f13_22, f13_23, f13_24, f13_25, rel13⟩ := hQ13
  have c14_17 := c12_17.keep Kq13
  have c14_18 := c12_18.keep Kq13 (ninS ne_b3_b7_0 (ninS ne_b3_b7_1 (ninS ne_b3_b7_2 (ninS ne_b3_b7_3 (ninS (Ne.symm ne_b1_b3) (ninS ne_b3_b7_7 (ninS ne_b3_b7_8 (ninS ne_b3_b7_6 (ninS ne_b3_b7_11 (ninS ne_b3_b7_10 (ninS ne_b3_b7_9 nin0)))))))))))
  have c14_19 := c12_19.keep Kq13
  have c14_21 := c12_21.keep Kq13
  have c14_23 := c12_23.keep Kq13
  have c14_25 := c12_25.keep Kq13
  have c14_27 := c12_27.keep Kq13 (ninS (Ne.symm ne_b7_0_b7_4) (ninS (Ne.symm ne_b7_1_b7_4) (ninS (Ne.symm ne_b7_2_b7_4) (ninS (Ne.symm ne_b7_3_b7_4) (ninS (Ne.symm ne_b1_b7_4) (ninS ne_b7_4_b7_7 (ninS ne_b7_4_b7_8 (ninS ne_b7_4_b7_6 (ninS ne_b7_4_b7_11 (ninS ne_b7_4_b7_10 (ninS ne_b7_4_b7_9 nin0)))))))))))
  have c14_28 := c12_28.keep Kq13
  have c14_30 := c12_30.keep Kq13
  have c14_31 := c12_31.keep Kq13
  have c14_32 := c12_32.keep Kq13
  have c14_34 := c12_34.keep Kq13
  have c14_36 := c12_36.keep Kq13
  have c14_38 := c12_38.keep Kq13
  have c14_40 := c12_40.keep Kq13
  have c14_42 := c12_42.keep Kq13
  have K13 : Keep h0 T13.heap [] := K11.trans Kq13 (allS (Or.inr sz_b7_0) (allS (Or.inr sz_b7_1) (allS (Or.inr sz_b7_2) (allS (Or.inr sz_b7_3) (allS (Or.inr sz_b1) (allS (Or.inr sz_b7_7) (allS (Or.inr sz_b7_8) (allS (Or.inr sz_b7_6) (allS (Or.inr sz_b7_11) (allS (Or.inr sz_b7_10) (allS (Or.inr sz_b7_9) all0)))))))))))
  have Z13 := Nat.le_trans Z11 Kq13.1
  have N13 := Fr.app N11 N13q
  refine Go.via (fun t k => st13.trans k) ?_
  obtain ⟨kb, eb, -, tb, nb⟩ := rel13
  obtain ⟨gg, Ib⟩ := eb rfl
  have ttb : ¬ tl_13 = (1024 : Int32) ∧ (¬ tl_13 < 0 ∧ tl_13.toNatClampNeg < 1024) := by rcases ta with h | h <;> rcases tb with k | k <;> rw [k, h] <;> decide
  refine Vi (T13.setTop (mkF m 51 #[sI p0, sI p1, sI p2, sI p3, sI p4, sI p5, sI (p0 &&& (511 : Int32)), sR b1, .unset] [(.int p4), (.int 0), (.ref b1)])) (fun tZ kZ => ?_) ?_
  · refine XS.pop X13.here hx rfl (hb hby at_45) rfl rfl ?_
    refine XS.aload X13.here hx rfl (hb hby at_46) rfl rfl ?_
    refine XS.iconst X13.here hx rfl (hb hby at_48) ?_
    refine XS.iload X13.here hx rfl (hb hby at_49) rfl ?_
    exact kZ
  obtain ⟨cq15, kq15, q15a, q15b, q15c⟩ := isOf hZ rfl f13_0
  obtain ⟨_, _, ⟨T15, L15, k15, n15⟩, -, X15, ⟨Lc15, hQ15, l15, y15, z15⟩, st15⟩ := X13.virtualBack hx (y := y14) (z := y14) hown (wz hZ hw 102 rfl) (wz hZ hw 103 rfl) (notFace_of_selects (args := #[]) (wz hZ hw 105 rfl)) (wz hZ hw 105 rfl) (wz hZ hw 104 rfl) (by decide) (backOf (W := 0) (rm14 l Z a0 hw [] b1 p4 tl_13 cc_13 b7_7 b7_8 b7_6 b7_4 b7_10 b7_11 b7_5 b7_0 b7_1 b7_2 b7_3 b7_9 nW wF_13 sF_13 lF_13 hF_13 chF_13 icF_13 tvF_13 twF_13 tsF_13 tzF_13 gg T13.heap n0 Z13 f13_0 f13_1 f13_2 f13_3 f13_4 f13_5 f13_6 f13_7 f13_8 f13_9 f13_10 f13_11 f13_12 f13_13 f13_14 f13_15 f13_16 f13_17 f13_18 f13_19 f13_20 f13_21 f13_22 f13_23 f13_24 f13_25 g_b1 g_b7_9 g_b7_6 g_b7_7 g_b7_8 g_b7_10 g_b7_11 g_b7_0 g_b7_1 g_b7_2 g_b7_3 ne_b1_b7_5 ne_b1_b7_9 ne_b1_b7_6 ne_b1_b7_7 ne_b1_b7_8 ne_b1_b7_10 ne_b1_b7_11 ne_b1_b7_0 ne_b1_b7_1 ne_b1_b7_2 ne_b1_b7_3 ne_b7_5_b7_9 ne_b7_5_b7_6 ne_b7_5_b7_7 ne_b7_5_b7_8 ne_b7_5_b7_10 ne_b7_5_b7_11 (Ne.symm ne_b7_0_b7_5) (Ne.symm ne_b7_1_b7_5) (Ne.symm ne_b7_2_b7_5) (Ne.symm ne_b7_3_b7_5) (Ne.symm ne_b7_6_b7_9) (Ne.symm ne_b7_7_b7_9) (Ne.symm ne_b7_8_b7_9) ne_b7_9_b7_10 ne_b7_9_b7_11 (Ne.symm ne_b7_0_b7_9) (Ne.symm ne_b7_1_b7_9) (Ne.symm ne_b7_2_b7_9) (Ne.symm ne_b7_3_b7_9) ne_b7_6_b7_7 ne_b7_6_b7_8 ne_b7_6_b7_10 ne_b7_6_b7_11 (Ne.symm ne_b7_0_b7_6) (Ne.symm ne_b7_1_b7_6) (Ne.symm ne_b7_2_b7_6) (Ne.symm ne_b7_3_b7_6) ne_b7_7_b7_8 ne_b7_7_b7_10 ne_b7_7_b7_11 (Ne.symm ne_b7_0_b7_7) (Ne.symm ne_b7_1_b7_7) (Ne.symm ne_b7_2_b7_7) (Ne.symm ne_b7_3_b7_7) ne_b7_8_b7_10 ne_b7_8_b7_11 (Ne.symm ne_b7_0_b7_8) (Ne.symm ne_b7_1_b7_8) (Ne.symm ne_b7_2_b7_8) (Ne.symm ne_b7_3_b7_8) ne_b7_10_b7_11 (Ne.symm ne_b7_0_b7_10) (Ne.symm ne_b7_1_b7_10) (Ne.symm ne_b7_2_b7_10) (Ne.symm ne_b7_3_b7_10) (Ne.symm ne_b7_0_b7_11) (Ne.symm ne_b7_1_b7_11) (Ne.symm ne_b7_2_b7_11) (Ne.symm ne_b7_3_b7_11) ne_b7_0_b7_1 ne_b7_0_b7_2 ne_b7_0_b7_3 ne_b7_1_b7_2 ne_b7_1_b7_3 ne_b7_2_b7_3 Ib ttb.1 ttb.2 nb) hZ (wq hw 106 rfl) (wq hw 2 rfl) (by decide) (by decide)) q15a q15c (g := (mkF m 51 #[sI p0, sI p1, sI p2, sI p3, sI p4, sI p5, sI (p0 &&& (511 : Int32)), sR b1, .unset] [(.int p4), (.int 0), (.ref b1)])) rfl (by rw [hml]; rfl) (Steps.refl _) (argsL := [(.int 0), (.int p4)]) (rest := []) (lenOf pd_9 rfl) rfl (leW rfl) (hb hby at_51) (fun _ _ => ⟨rfl, rfl, (by decide : 0 + 1 + 1 + 12 + 0 + 0 + 0 + 0 ≤ _), (by decide : 0 + 14 + 1 + 4111 + 0 + 0 + 0 + 0 ≤ _)⟩)
  dsimp only [Pt.U, Pt.locs, Pt.cells, Pt.slots] at X15 l15 y15 z15 st15 hQ15
  subst l15 y15 z15
  obtain ⟨lF_15, hF_15, sF_15, chF_15, icF_15, tvF_15, twF_15, tsF_15, tzF_15, tl_15, cc_15, wF_15, rr15, rfl, N15q, Kq15, f15_0, f15_1, f15_2, f15_3, f15_4, f15_5, f15_6, f15_7, f15_8, f15_9, f15_10, f15_11, f15_12, f15_13, f15_14, f15_15, f15_16, f15_17, f15_18, f15_19, f15_20, f15_21, f15_22, f15_23, f15_24, f15_25, rel15⟩ := hQ15
  have c16_17 := c14_17.keep Kq15
  have c16_18 := c14_18.keep Kq15 (ninS ne_b3_b7_0 (ninS ne_b3_b7_1 (ninS ne_b3_b7_2 (ninS ne_b3_b7_3 (ninS (Ne.symm ne_b1_b3) (ninS ne_b3_b7_7 (ninS ne_b3_b7_8 (ninS ne_b3_b7_6 (ninS ne_b3_b7_11 (ninS ne_b3_b7_10 (ninS ne_b3_b7_9 nin0)))))))))))
  have c16_19 := c14_19.keep Kq15
  have c16_21 := c14_21.keep Kq15
  have c16_23 := c14_23.keep Kq15
  have c16_25 := c14_25.keep Kq15
  have c16_27 := c14_27.keep Kq15 (ninS (Ne.symm ne_b7_0_b7_4) (ninS (Ne.symm ne_b7_1_b7_4) (ninS (Ne.symm ne_b7_2_b7_4) (ninS (Ne.symm ne_b7_3_b7_4) (ninS (Ne.symm ne_b1_b7_4) (ninS ne_b7_4_b7_7 (ninS ne_b7_4_b7_8 (ninS ne_b7_4_b7_6 (ninS ne_b7_4_b7_11 (ninS ne_b7_4_b7_10 (ninS ne_b7_4_b7_9 nin0)))))))))))
  have c16_28 := c14_28.keep Kq15
  have c16_30 := c14_30.keep Kq15
  have c16_31 := c14_31.keep Kq15
  have c16_32 := c14_32.keep Kq15
  have c16_34 := c14_34.keep Kq15
  have c16_36 := c14_36.keep Kq15
  have c16_38 := c14_38.keep Kq15
  have c16_40 := c14_40.keep Kq15
  have c16_42 := c14_42.keep Kq15
  have K15 : Keep h0 T15.heap [] := K13.trans Kq15 (allS (Or.inr sz_b7_0) (allS (Or.inr sz_b7_1) (allS (Or.inr sz_b7_2) (allS (Or.inr sz_b7_3) (allS (Or.inr sz_b1) (allS (Or.inr sz_b7_7) (allS (Or.inr sz_b7_8) (allS (Or.inr sz_b7_6) (allS (Or.inr sz_b7_11) (allS (Or.inr sz_b7_10) (allS (Or.inr sz_b7_9) all0)))))))))))
  have Z15 := Nat.le_trans Z13 Kq15.1
  have N15 := Fr.app N13 N15q
  refine Go.via (fun t k => st15.trans k) ?_
  obtain ⟨kc, -, Bc, -, -⟩ := rel15
  refine Vi (T15.setTop (mkF m 104 #[sI p0, sI p1, sI p2, sI p3, sI p4, sI p5, sI (p0 &&& (511 : Int32)), sR b1, sI (if p5 < (0 : Int32) then (0 : Int32) else (if p5 < (p0 &&& (511 : Int32)) then (if p5 < p1 then (0 : Int32) else (if p2 < p5 then (0 : Int32) else (if p5 = p3 then (0 : Int32) else (if p5 = p4 then (0 : Int32) else (1 : Int32))))) else (0 : Int32)))] [(.int p5), (.int 0), (.ref b1)])) (fun tZ kZ => ?_) ?_
  · refine XS.pop X15.here hx rfl (hb hby at_54) rfl rfl ?_
    refine XS.iload X15.here hx rfl (hb hby at_55) rfl ?_
    have sg57 : Steps p.tables e below (T15.setTop (mkF m 97 #[sI p0, sI p1, sI p2, sI p3, sI p4, sI p5, sI (p0 &&& (511 : Int32)), sR b1, .unset] [(.int (if p5 < (0 : Int32) then (0 : Int32) else (if p5 < (p0 &&& (511 : Int32)) then (if p5 < p1 then (0 : Int32) else (if p2 < p5 then (0 : Int32) else (if p5 = p3 then (0 : Int32) else (if p5 = p4 then (0 : Int32) else (1 : Int32))))) else (0 : Int32))))])) tZ → Steps p.tables e below (T15.setTop (mkF m 57 #[sI p0, sI p1, sI p2, sI p3, sI p4, sI p5, sI (p0 &&& (511 : Int32)), sR b1, .unset] [(.int p5)])) tZ := by
      intro kj
      by_cases hc57 : p5 < (0 : Int32)
      · try simp only [if_pos hc57] at kj
        refine XS.ifYes X15.here hx rfl (pc0 := 57) (pc' := 96) rfl (hb hby at_57) rfl ((if0 _ _).trans (tlt hc57).1) (by decide) (by decide) ?_
        refine XS.iconst X15.here hx rfl (hb hby at_96) ?_
        exact kj
      · try simp only [if_neg hc57] at kj
        refine XS.ifNo X15.here hx rfl (hb hby at_57) rfl ((if0 _ _).trans (flt hc57).1) ?_
        refine XS.iload X15.here hx rfl (hb hby at_60) rfl ?_
        refine XS.iload X15.here hx rfl (hb hby at_62) rfl ?_
        have sg64 : Steps p.tables e below (T15.setTop (mkF m 97 #[sI p0, sI p1, sI p2, sI p3, sI p4, sI p5, sI (p0 &&& (511 : Int32)), sR b1, .unset] [(.int (if p5 < (p0 &&& (511 : Int32)) then (if p5 < p1 then (0 : Int32) else (if p2 < p5 then (0 : Int32) else (if p5 = p3 then (0 : Int32) else (if p5 = p4 then (0 : Int32) else (1 : Int32))))) else (0 : Int32)))])) tZ → Steps p.tables e below (T15.setTop (mkF m 64 #[sI p0, sI p1, sI p2, sI p3, sI p4, sI p5, sI (p0 &&& (511 : Int32)), sR b1, .unset] [(.int (p0 &&& (511 : Int32))), (.int p5)])) tZ := by
          intro kj
          by_cases hc64 : p5 < (p0 &&& (511 : Int32))
          · try simp only [if_pos hc64] at kj
            refine XS.icmpNo X15.here hx rfl (hb hby at_64) rfl (tlt hc64).2.1 ?_
            refine XS.iload X15.here hx rfl (hb hby at_67) rfl ?_
            refine XS.iloadN X15.here hx rfl (hb hby at_69) rfl ?_
            have sg70 : Steps p.tables e below (T15.setTop (mkF m 97 #[sI p0, sI p1, sI p2, sI p3, sI p4, sI p5, sI (p0 &&& (511 : Int32)), sR b1, .unset] [(.int (if p5 < p1 then (0 : Int32) else (if p2 < p5 then (0 : Int32) else (if p5 = p3 then (0 : Int32) else (if p5 = p4 then (0 : Int32) else (1 : Int32))))))])) tZ → Steps p.tables e below (T15.setTop (mkF m 70 #[sI p0, sI p1, sI p2, sI p3, sI p4, sI p5, sI (p0 &&& (511 : Int32)), sR b1, .unset] [(.int p1), (.int p5)])) tZ := by
              intro kj
              by_cases hc70 : p5 < p1
              · try simp only [if_pos hc70] at kj
                refine XS.icmpYes X15.here hx rfl (pc0 := 70) (pc' := 96) rfl (hb hby at_70) rfl (tlt hc70).1 (by decide) (by decide) ?_
                refine XS.iconst X15.here hx rfl (hb hby at_96) ?_
                exact kj
              · try simp only [if_neg hc70] at kj
                refine XS.icmpNo X15.here hx rfl (hb hby at_70) rfl (flt hc70).1 ?_
                refine XS.iload X15.here hx rfl (hb hby at_73) rfl ?_
                refine XS.iloadN X15.here hx rfl (hb hby at_75) rfl ?_
                have sg76 : Steps p.tables e below (T15.setTop (mkF m 97 #[sI p0, sI p1, sI p2, sI p3, sI p4, sI p5, sI (p0 &&& (511 : Int32)), sR b1, .unset] [(.int (if p2 < p5 then (0 : Int32) else (if p5 = p3 then (0 : Int32) else (if p5 = p4 then (0 : Int32) else (1 : Int32)))))])) tZ → Steps p.tables e below (T15.setTop (mkF m 76 #[sI p0, sI p1, sI p2, sI p3, sI p4, sI p5, sI (p0 &&& (511 : Int32)), sR b1, .unset] [(.int p2), (.int p5)])) tZ := by
                  intro kj
                  by_cases hc76 : p2 < p5
                  · try simp only [if_pos hc76] at kj
                    refine XS.icmpYes X15.here hx rfl (pc0 := 76) (pc' := 96) rfl (hb hby at_76) rfl (tlt hc76).2.2.1 (by decide) (by decide) ?_
                    refine XS.iconst X15.here hx rfl (hb hby at_96) ?_
                    exact kj
                  · try simp only [if_neg hc76] at kj
                    refine XS.icmpNo X15.here hx rfl (hb hby at_76) rfl (flt hc76).2.2.1 ?_
                    refine XS.iload X15.here hx rfl (hb hby at_79) rfl ?_
                    refine XS.iloadN X15.here hx rfl (hb hby at_81) rfl ?_
                    have sg82 : Steps p.tables e below (T15.setTop (mkF m 97 #[sI p0, sI p1, sI p2, sI p3, sI p4, sI p5, sI (p0 &&& (511 : Int32)), sR b1, .unset] [(.int (if p5 = p3 then (0 : Int32) else (if p5 = p4 then (0 : Int32) else (1 : Int32))))])) tZ → Steps p.tables e below (T15.setTop (mkF m 82 #[sI p0, sI p1, sI p2, sI p3, sI p4, sI p5, sI (p0 &&& (511 : Int32)), sR b1, .unset] [(.int p3), (.int p5)])) tZ := by
                      intro kj
                      by_cases hc82 : p5 = p3
                      · try simp only [if_pos hc82] at kj
                        refine XS.icmpYes X15.here hx rfl (pc0 := 82) (pc' := 96) rfl (hb hby at_82) rfl (teq hc82).1 (by decide) (by decide) ?_
                        refine XS.iconst X15.here hx rfl (hb hby at_96) ?_
                        exact kj
                      · try simp only [if_neg hc82] at kj
                        refine XS.icmpNo X15.here hx rfl (hb hby at_82) rfl (feq hc82).1 ?_
                        refine XS.iload X15.here hx rfl (hb hby at_85) rfl ?_
                        refine XS.iload X15.here hx rfl (hb hby at_87) rfl ?_
                        have sg89 : Steps p.tables e below (T15.setTop (mkF m 97 #[sI p0, sI p1, sI p2, sI p3, sI p4, sI p5, sI (p0 &&& (511 : Int32)), sR b1, .unset] [(.int (if p5 = p4 then (0 : Int32) else (1 : Int32)))])) tZ → Steps p.tables e below (T15.setTop (mkF m 89 #[sI p0, sI p1, sI p2, sI p3, sI p4, sI p5, sI (p0 &&& (511 : Int32)), sR b1, .unset] [(.int p4), (.int p5)])) tZ := by
                          intro kj
                          by_cases hc89 : p5 = p4
                          · try simp only [if_pos hc89] at kj
                            refine XS.icmpYes X15.here hx rfl (pc0 := 89) (pc' := 96) rfl (hb hby at_89) rfl (teq hc89).1 (by decide) (by decide) ?_
                            refine XS.iconst X15.here hx rfl (hb hby at_96) ?_
                            exact kj
                          · try simp only [if_neg hc89] at kj
                            refine XS.icmpNo X15.here hx rfl (hb hby at_89) rfl (feq hc89).1 ?_
                            refine XS.iconst X15.here hx rfl (hb hby at_92) ?_
                            refine XS.goto X15.here hx rfl (pc0 := 93) (pc' := 97) rfl (hb hby at_93) (by decide) (by decide) ?_
                            exact kj
                        refine sg89 ?_
                        show Steps p.tables e below (T15.setTop (mkF m 97 #[sI p0, sI p1, sI p2, sI p3, sI p4, sI p5, sI (p0 &&& (511 : Int32)), sR b1, .unset] [(.int (if p5 = p4 then (0 : Int32) else (1 : Int32)))])) _
                        exact kj
                    refine sg82 ?_
                    show Steps p.tables e below (T15.setTop (mkF m 97 #[sI p0, sI p1, sI p2, sI p3, sI p4, sI p5, sI (p0 &&& (511 : Int32)), sR b1, .unset] [(.int (if p5 = p3 then (0 : Int32) else (if p5 = p4 then (0 : Int32) else (1 : Int32))))])) _
                    exact kj
                refine sg76 ?_
                show Steps p.tables e below (T15.setTop (mkF m 97 #[sI p0, sI p1, sI p2, sI p3, sI p4, sI p5, sI (p0 &&& (511 : Int32)), sR b1, .unset] [(.int (if p2 < p5 then (0 : Int32) else (if p5 = p3 then (0 : Int32) else (if p5 = p4 then (0 : Int32) else (1 : Int32)))))])) _
                exact kj
            refine sg70 ?_
            show Steps p.tables e below (T15.setTop (mkF m 97 #[sI p0, sI p1, sI p2, sI p3, sI p4, sI p5, sI (p0 &&& (511 : Int32)), sR b1, .unset] [(.int (if p5 < p1 then (0 : Int32) else (if p2 < p5 then (0 : Int32) else (if p5 = p3 then (0 : Int32) else (if p5 = p4 then (0 : Int32) else (1 : Int32))))))])) _
            exact kj
          · try simp only [if_neg hc64] at kj
            refine XS.icmpYes X15.here hx rfl (pc0 := 64) (pc' := 96) rfl (hb hby at_64) rfl (flt hc64).2.1 (by decide) (by decide) ?_
            refine XS.iconst X15.here hx rfl (hb hby at_96) ?_
            exact kj
        refine sg64 ?_
        show Steps p.tables e below (T15.setTop (mkF m 97 #[sI p0, sI p1, sI p2, sI p3, sI p4, sI p5, sI (p0 &&& (511 : Int32)), sR b1, .unset] [(.int (if p5 < (p0 &&& (511 : Int32)) then (if p5 < p1 then (0 : Int32) else (if p2 < p5 then (0 : Int32) else (if p5 = p3 then (0 : Int32) else (if p5 = p4 then (0 : Int32) else (1 : Int32))))) else (0 : Int32)))])) _
        exact kj
    refine sg57 ?_
    show Steps p.tables e below (T15.setTop (mkF m 97 #[sI p0, sI p1, sI p2, sI p3, sI p4, sI p5, sI (p0 &&& (511 : Int32)), sR b1, .unset] [(.int (if p5 < (0 : Int32) then (0 : Int32) else (if p5 < (p0 &&& (511 : Int32)) then (if p5 < p1 then (0 : Int32) else (if p2 < p5 then (0 : Int32) else (if p5 = p3 then (0 : Int32) else (if p5 = p4 then (0 : Int32) else (1 : Int32))))) else (0 : Int32))))])) _
    refine XS.istore X15.here hx rfl (hb hby at_97) rfl (l' := #[sI p0, sI p1, sI p2, sI p3, sI p4, sI p5, sI (p0 &&& (511 : Int32)), sR b1, sI (if p5 < (0 : Int32) then (0 : Int32) else (if p5 < (p0 &&& (511 : Int32)) then (if p5 < p1 then (0 : Int32) else (if p2 < p5 then (0 : Int32) else (if p5 = p3 then (0 : Int32) else (if p5 = p4 then (0 : Int32) else (1 : Int32))))) else (0 : Int32)))]) rfl ?_
    refine XS.aload X15.here hx rfl (hb hby at_99) rfl rfl ?_
    refine XS.iconst X15.here hx rfl (hb hby at_101) ?_
    refine XS.iload X15.here hx rfl (hb hby at_102) rfl ?_
    exact kZ
  obtain ⟨cq17, kq17, q17a, q17b, q17c⟩ := isOf hZ rfl f15_0
  obtain ⟨_, _, ⟨T17, L17, k17, n17⟩, -, X17, ⟨Lc17, hQ17, l17, y17, z17⟩, st17⟩ := X15.virtualBack hx (y := y15) (z := y15) hown (wz hZ hw 112 rfl) (wz hZ hw 108 rfl) (notFace_of_selects (args := #[]) (wz hZ hw 110 rfl)) (wz hZ hw 110 rfl) (wz hZ hw 109 rfl) (by decide) (backOf (W := 0) (rm15 l Z a0 hw [] b1 p5 b7_7 lF_15 b7_8 hF_15 b7_5 b7_9 nW wF_15 T15.heap n0 Z15 f15_0 f15_4 f15_18 f15_5 f15_19 f15_10 f15_15 f15_16 (Bc _)) hZ (wq hw 111 rfl) (wq hw 2 rfl) (by decide) (by decide)) q17a q17c (g := (mkF m 104 #[sI p0, sI p1, sI p2, sI p3, sI p4, sI p5, sI (p0 &&& (511 : Int32)), sR b1, sI (if p5 < (0 : Int32) then (0 : Int32) else (if p5 < (p0 &&& (511 : Int32)) then (if p5 < p1 then (0 : Int32) else (if p2 < p5 then (0 : Int32) else (if p5 = p3 then (0 : Int32) else (if p5 = p4 then (0 : Int32) else (1 : Int32))))) else (0 : Int32)))] [(.int p5), (.int 0), (.ref b1)])) rfl (by rw [hml]; rfl) (Steps.refl _) (argsL := [(.int 0), (.int p5)]) (rest := []) (lenOf pd_9 rfl) rfl (leW rfl) (hb hby at_104) (fun _ _ => ⟨rfl, rfl, (by decide : 0 + 1 + 1 + 12 + 0 + 0 + 0 + 0 + 0 ≤ _), (by decide : 0 + 14 + 1 + 4111 + 0 + 0 + 0 + 0 + 0 ≤ _)⟩)
  dsimp only [Pt.U, Pt.locs, Pt.cells, Pt.slots] at X17 l17 y17 z17 st17 hQ17
  subst l17 y17 z17
  obtain ⟨rfl, N17q, e17⟩ := hQ17
  have N17 := Fr.app N15 N17q
  refine Go.via (fun t k => st17.trans k) ?_
  refine Vi (T17.setTop (mkF m 117 #[sI p0, sI p1, sI p2, sI p3, sI p4, sI p5, sI (p0 &&& (511 : Int32)), sR b1, sI (if p5 < (0 : Int32) then (0 : Int32) else (if p5 < (p0 &&& (511 : Int32)) then (if p5 < p1 then (0 : Int32) else (if p2 < p5 then (0 : Int32) else (if p5 = p3 then (0 : Int32) else (if p5 = p4 then (0 : Int32) else (1 : Int32))))) else (0 : Int32)))] [(.int 1)])) (fun tZ kZ => ?_) ?_
  · refine XS.iload X17.here hx rfl (hb hby at_107) rfl ?_
    refine XS.icmpNo X17.here hx rfl (hb hby at_109) rfl (teq (own_law I0 hl0 hh0 ka kb kc)).2 ?_
    refine XS.iconst X17.here hx rfl (hb hby at_112) ?_
    refine XS.goto X17.here hx rfl (pc0 := 113) (pc' := 117) rfl (hb hby at_113) (by decide) (by decide) ?_
    exact kZ
  refine Go.retN X17 hx Bd.notSynchronized (t := .boolean) Bd.returns (by simp) (hb hby at_117) (by decide) (by decide) ?_
  exact ⟨rfl, N17⟩
theorem comes_1 {Post : Tables → Env → Array Value → State → Outcome → State → Prop} (hpost : ∀ tb e args s v u, (limb_1_1.after args s (.returned v) u = true ∧ limb_1_2.after args s (.returned v) u = true ∧ True) → FrameEnd s (.returned v) u (Jvm.fieldLocs frame_1_writes args s ++ Jvm.arrayLocs frame_1_arrays args s ++ Jvm.staticLocs frame_1_statics s) 40 8320 → Post tb e args s (.returned v) u) :
    ArmFor flags0 classFile x code maxLocals ret World_1 tables_1 room_1 Calls_1 rest_1 Pre_1 Post := by
  intro l hfl _ _ p e ha hc hk s m args below hf hA hF happ hP
  obtain ⟨hcalls, hrest, hpre⟩ := hP
  obtain ⟨-, -, -, hnamed, -, -, -, hat⟩ := (Spec.applies_iff hf).mp happ
  obtain ⟨hg, hn⟩ := and_e (Cond.before_iff.mp (show (Jvm.Cond.and given_1 narrow_1).before args s = true from hpre))
  obtain ⟨g1, g2⟩ := and_e hg
  obtain ⟨g3, g4⟩ := and_e g2
  obtain ⟨g5, g6⟩ := and_e g4
  obtain ⟨g7, g8⟩ := and_e g6
  obtain ⟨g9, g10⟩ := and_e g8
  obtain ⟨g11, g12⟩ := and_e g10
  obtain ⟨w0, w1, w2, w3, w4, w5, rfl⟩ : ∃ w0 w1 w2 w3 w4 w5 : Value, args = #[w0, w1, w2, w3, w4, w5] := by
    have hs : args.size = 6 := by simpa [Cond.value, given_1] using g1
    obtain ⟨L⟩ := args
    match L, hs with
    | [w0, w1, w2, w3, w4, w5], _ => exact ⟨w0, w1, w2, w3, w4, w5, rfl⟩
  have hw := fun d (hd : d ∈ tables_1) => atoms_spec (ws := Jvm.Cond.code x code maxLocals ret :: tables_1) hat d (List.mem_cons_of_mem _ hd)
  have hfit : Fit s := fun {y c} hc i hi => by
    obtain ⟨ha, rfl⟩ := Array.getElem?_eq_some_iff.mp hc
    have q := List.all_eq_true.mp ((Array.all_eq_true_iff_forall_mem.mp hF) _ (Array.getElem_mem ha)) i (List.mem_range.mpr hi)
    simpa [Array.getElem?_eq_getElem hi] using q
  obtain ⟨i0, ei0⟩ := is_v g3
  obtain rfl : w0 = (.int i0) := Option.some.inj ei0
  obtain ⟨i1, ei1⟩ := is_v g5
  obtain rfl : w1 = (.int i1) := Option.some.inj ei1
  obtain ⟨i2, ei2⟩ := is_v g7
  obtain rfl : w2 = (.int i2) := Option.some.inj ei2
  obtain ⟨i3, ei3⟩ := is_v g9
  obtain rfl : w3 = (.int i3) := Option.some.inj ei3
  obtain ⟨i4, ei4⟩ := is_v g11
  obtain rfl : w4 = (.int i4) := Option.some.inj ei4
  obtain ⟨i5, ei5⟩ := is_v g12
  obtain rfl : w5 = (.int i5) := Option.some.inj ei5

  obtain ⟨n, o, h1, h2, h3, _, L, rfl, ⟨rfl, N⟩, hq⟩ := rm0 l s _ hw tables_1 i0 i1 i2 i3 i4 i5  s.heap s.heap.size (Nat.le_refl _) p e ha hc hk s m _ below hf ((Spec.applies_iff_loose hf).mp happ).1 ⟨rfl, State.Warmed39.refl s, rfl⟩ trivial
  refine ⟨n, _, h1, h2, h3, hpost _ _ _ _ _ _ ⟨Cond.after_iff.mpr rfl, Cond.after_iff.mpr (eq_i res_at (Term.int_eval (1)) rfl), trivial⟩ ⟨hq.1, hq.2.1, (hq.2.2.sift fun y hy => Or.inr (N y hy)).mono (by decide) (by decide)⟩⟩
theorem main_1_1 : Claimed_1_1 := comes_1 fun _ _ _ _ _ _ h hF => ⟨h.1, hF⟩
theorem main_1_2 : Claimed_1_2 := comes_1 fun _ _ _ _ _ _ h hF => ⟨h.2.1, hF⟩
end Jvm.Pilot.@@N@@
namespace Jvm.Pilot.@@N@@
open Jvm Jvm.ClassFile Sem Op Lib Jvm.Free Jvm.Stand Jvm.Pilot.@@N@@.Jvm.D
/-! MADE BY PROGRAM (witnessworld.py) out of the Statement's table words and the real class files: 22 classes; the members and pool entries that the words name. The judged class is class 1, her method 1. -/
namespace start1
open Jvm.ClassFile
def u (s : String) : CpInfo := .utf8 (stringToUtf16 s)
/-- a pool by its gaps: so many unusable entries, then the entry; so many at the end -/
def gap : Nat → List CpInfo → List CpInfo
  | 0, r => r
  | n + 1, r => .unusable :: gap n r
def poolList (es : List (Nat × CpInfo)) (last : Nat) : List CpInfo := es.foldr (fun e r => gap e.1 (e.2 :: r)) (gap last [])
def pool (es : List (Nat × CpInfo)) (last : Nat) : Array CpInfo := ⟨poolList es last⟩
def fileOf (pool : Array CpInfo) (this : Nat) (attrs : Array Attribute := #[]) (ms : Array MethodInfo := #[]) (fl : Nat := 33) (sup : Nat := 0) (ifs : Array Nat := #[]) (fds : Array FieldInfo := #[]) : ClassFile where
  minorVersion := 0
  majorVersion := 65
  constantPool := pool
  accessFlags := fl
  thisClass := this
  superClass := sup
  interfaces := ifs
  fields := fds
  methods := ms
  attributes := attrs
def plain (name : String) (sup : Option ClassId) : Class where
  name := name
  kind := .ordinary
  loader := none
  accessFlags := 33
  super := sup
  interfaces := #[]
  cf := none
  fields := #[]
  methods := #[]
  instanceTypes := #[]
  staticTypes := #[]
  resolved := #[]
  callSites := []
  init := .initialized
  statics := none
  mirror := none

def pool0 : Array CpInfo := pool [(5, u "<init>"), (0, u "()V"), (1, .class_ 10), (1, u "java/lang/Object"), (85, u "clone"), (0, u "()Ljava/lang/Object;")] 26

def k0c0 : Code := { maxStack := 0, maxLocals := 1, code := object_method_1_code, exceptionTable := #[], attributes := #[] }
def k0m0 : Method := { name := "<init>", desc := "()V", sig := { parameters := [], returnType := none }, accessFlags := 1, code := some k0c0 }
def k0m1 : Method := { name := "clone", desc := "()Ljava/lang/Object;", sig := { parameters := [], returnType := some (.object "java/lang/Object") }, accessFlags := 260, code := none }
/-- java/lang/Object -/
def k0 : Class := { plain "java/lang/Object" none with
  accessFlags := 33
  interfaces := #[]
  cf := some (fileOf pool0 8 #[] #[{ accessFlags := 1, nameIndex := 5, descriptorIndex := 6, attributes := #[] }, { accessFlags := 260, nameIndex := 96, descriptorIndex := 97, attributes := #[] }] 33 0 #[] #[])
  fields := #[]
  methods := #[k0m0, k0m1]
  instanceTypes := #[]
  staticTypes := #[]
  resolved := Array.replicate 124 none
  statics := none }

def pool1 : Array CpInfo := pool [(2, .class_ 4), (1, u "java/lang/Object"), (0, u "<init>"), (0, u "()V"), (0, .class_ 8), (0, u "com/example/whittle/whittle/engine/Domains"), (0, .methodref 7 10), (0, .nameAndType 5 11), (0, u "([I)V"), (0, .methodref 7 13), (0, .nameAndType 14 6), (0, u "reset"), (0, .methodref 7 16), (0, .nameAndType 17 18), (0, u "keepWithin"), (0, u "(III)Z"), (0, .methodref 7 20), (0, .nameAndType 21 22), (0, u "remove"), (0, u "(II)Z"), (0, .methodref 7 24), (0, .nameAndType 25 22), (0, u "contains"), (0, .class_ 27), (0, u "com/example/whittle/whittle/engine/DomainsContainsPinLaw"), (2, u "law"), (0, u "(IIIIII)Z")] 3

def k1m0 : Method := { name := "<init>", desc := "()V", sig := { parameters := [], returnType := none }, accessFlags := 1, code := none }
def k1c1 : Code := { maxStack := 6, maxLocals := 9, code := code, exceptionTable := #[], attributes := #[] }
def k1m1 : Method := { name := "law", desc := "(IIIIII)Z", sig := { parameters := [.int, .int, .int, .int, .int, .int], returnType := some .boolean }, accessFlags := 9, code := some k1c1 }
/-- com/example/whittle/whittle/engine/DomainsContainsPinLaw -/
def k1 : Class := { plain "com/example/whittle/whittle/engine/DomainsContainsPinLaw" (some 0) with
  accessFlags := 49
  interfaces := #[]
  cf := some (fileOf pool1 26 #[] #[{ accessFlags := 1, nameIndex := 5, descriptorIndex := 6, attributes := #[] }, { accessFlags := 9, nameIndex := 30, descriptorIndex := 31, attributes := #[] }] 49 2 #[] #[])
  fields := #[]
  methods := #[k1m0, k1m1]
  instanceTypes := #[]
  staticTypes := #[]
  resolved := Array.replicate 35 none
  statics := none }

def pool2 : Array CpInfo := pool [(1, .methodref 2 3), (0, .class_ 4), (0, .nameAndType 5 6), (0, u "java/lang/Object"), (0, u "<init>"), (0, u "()V"), (0, .fieldref 8 9), (0, .class_ 10), (0, .nameAndType 11 12), (0, u "com/example/whittle/whittle/engine/Domains"), (0, u "trailVariable"), (0, u "[I"), (0, .fieldref 8 14), (0, .nameAndType 15 12), (0, u "trailWord"), (0, .fieldref 8 17), (0, .nameAndType 18 19), (0, u "trailSaved"), (0, u "[J"), (0, .fieldref 8 21), (0, .nameAndType 22 12), (0, u "trailSize"), (0, .methodref 24 25), (0, .class_ 12), (0, .nameAndType 26 27), (0, u "clone"), (0, u "()Ljava/lang/Object;"), (0, .fieldref 8 29), (0, .nameAndType 30 12), (0, u "capacities"), (0, .class_ 19), (0, .fieldref 8 33), (0, .nameAndType 34 35), (0, u "bits"), (0, u "[[J"), (0, .fieldref 8 37), (0, .nameAndType 38 12), (0, u "sizes"), (0, .fieldref 8 40), (0, .nameAndType 41 12), (0, u "low"), (0, .fieldref 8 43), (0, .nameAndType 44 12), (0, u "high"), (0, .fieldref 8 46), (0, .nameAndType 47 12), (0, u "changed"), (0, .fieldref 8 49), (0, .nameAndType 50 51), (0, u "isChanged"), (0, u "[Z"), (0, .long 18446744073709551615), (1, .methodref 55 56), (0, .class_ 57), (0, .nameAndType 58 59), (0, u "java/util/Arrays"), (0, u "fill"), (0, u "([JJ)V"), (0, .fieldref 8 61), (0, .nameAndType 62 63), (0, u "trailLength"), (0, u "I"), (0, .methodref 8 65), (0, .nameAndType 66 6), (0, u "clearChanged"), (0, .fieldref 8 68), (0, .nameAndType 69 70), (0, u "listener"), (0, u "Lcom/example/whittle/whittle/engine/Domains$RemovalListener;"), (0, .methodref 72 73), (0, .class_ 74), (0, .nameAndType 75 76), (0, u "java/lang/Math"), (0, u "max"), (0, u "(II)I"), (0, .methodref 78 79), (0, .class_ 80), (0, .nameAndType 81 82), (0, u "java/lang/Long"), (0, u "numberOfTrailingZeros"), (0, u "(J)I"), (0, .methodref 72 84), (0, .nameAndType 85 76), (0, u "min"), (0, .methodref 78 87), (0, .nameAndType 88 82), (0, u "numberOfLeadingZeros"), (4, .methodref 8 94), (0, .nameAndType 95 96), (0, u "contains"), (0, u "(II)Z"), (1, .class_ 100), (1, u "com/example/whittle/whittle/engine/Domains$RemovalListener"), (2, .methodref 8 104), (0, .nameAndType 105 76), (0, u "next"), (0, .methodref 8 107), (0, .nameAndType 108 109), (0, u "bound"), (0, u "(IIII)V"), (0, .methodref 8 111), (0, .nameAndType 112 76), (0, u "previous"), (0, .methodref 8 114), (0, .nameAndType 115 116), (0, u "save"), (0, u "(IIJ)V"), (0, .methodref 8 118), (0, .nameAndType 119 120), (0, u "noteChanged"), (0, u "(I)V"), (0, .methodref 8 122), (0, .nameAndType 123 96), (0, u "remove"), (0, .methodref 8 125), (0, .nameAndType 126 127), (0, u "countWithin"), (0, u "(III)I"), (0, .fieldref 8 129), (0, .nameAndType 130 63), (0, u "changedCount"), (5, .long 4294967295), (8, u "BOUNDS"), (2, u "([I)V"), (3, u "reset"), (8, u "keepWithin"), (0, u "(III)Z")] 10

def k2c0 : Code := { maxStack := 4, maxLocals := 3, code := prog_22_method_1_code, exceptionTable := #[], attributes := #[] }
def k2m0 : Method := { name := "<init>", desc := "([I)V", sig := { parameters := [(.array .int)], returnType := none }, accessFlags := 0, code := some k2c0 }
def k2c1 : Code := { maxStack := 4, maxLocals := 2, code := prog_22_method_2_code, exceptionTable := #[], attributes := #[] }
def k2m1 : Method := { name := "reset", desc := "()V", sig := { parameters := [], returnType := none }, accessFlags := 0, code := some k2c1 }
def k2c2 : Code := { maxStack := 5, maxLocals := 3, code := prog_22_method_5_code, exceptionTable := #[], attributes := #[] }
def k2m2 : Method := { name := "contains", desc := "(II)Z", sig := { parameters := [.int, .int], returnType := some .boolean }, accessFlags := 0, code := some k2c2 }
def k2c3 : Code := { maxStack := 5, maxLocals := 7, code := prog_22_method_6_code, exceptionTable := #[], attributes := #[] }
def k2m3 : Method := { name := "next", desc := "(II)I", sig := { parameters := [.int, .int], returnType := some .int }, accessFlags := 0, code := some k2c3 }
def k2c4 : Code := { maxStack := 7, maxLocals := 7, code := prog_22_method_8_code, exceptionTable := #[], attributes := #[] }
def k2m4 : Method := { name := "previous", desc := "(II)I", sig := { parameters := [.int, .int], returnType := some .int }, accessFlags := 0, code := some k2c4 }
def k2c5 : Code := { maxStack := 8, maxLocals := 5, code := prog_22_method_11_code, exceptionTable := #[], attributes := #[] }
def k2m5 : Method := { name := "remove", desc := "(II)Z", sig := { parameters := [.int, .int], returnType := some .boolean }, accessFlags := 0, code := some k2c5 }
def k2c6 : Code := { maxStack := 8, maxLocals := 7, code := prog_22_method_12_code, exceptionTable := #[], attributes := #[] }
def k2m6 : Method := { name := "keepWithin", desc := "(III)Z", sig := { parameters := [.int, .int, .int], returnType := some .boolean }, accessFlags := 0, code := some k2c6 }
def k2c7 : Code := { maxStack := 3, maxLocals := 2, code := prog_22_method_18_code, exceptionTable := #[], attributes := #[] }
def k2m7 : Method := { name := "clearChanged", desc := "()V", sig := { parameters := [], returnType := none }, accessFlags := 0, code := some k2c7 }
def k2c8 : Code := { maxStack := 5, maxLocals := 2, code := prog_22_method_19_code, exceptionTable := #[], attributes := #[] }
def k2m8 : Method := { name := "noteChanged", desc := "(I)V", sig := { parameters := [.int], returnType := none }, accessFlags := 2, code := some k2c8 }
def k2c9 : Code := { maxStack := 6, maxLocals := 7, code := prog_22_method_20_code, exceptionTable := #[], attributes := #[] }
def k2m9 : Method := { name := "countWithin", desc := "(III)I", sig := { parameters := [.int, .int, .int], returnType := some .int }, accessFlags := 2, code := some k2c9 }
def k2c10 : Code := { maxStack := 9, maxLocals := 5, code := prog_22_method_23_code, exceptionTable := #[], attributes := #[] }
def k2m10 : Method := { name := "bound", desc := "(IIII)V", sig := { parameters := [.int, .int, .int, .int], returnType := none }, accessFlags := 2, code := some k2c10 }
def k2c11 : Code := { maxStack := 4, maxLocals := 6, code := prog_22_method_24_code, exceptionTable := #[], attributes := #[] }
def k2m11 : Method := { name := "save", desc := "(IIJ)V", sig := { parameters := [.int, .int, .long], returnType := none }, accessFlags := 2, code := some k2c11 }
/-- com/example/whittle/whittle/engine/Domains -/
def k2 : Class := { plain "com/example/whittle/whittle/engine/Domains" (some 0) with
  accessFlags := 48
  interfaces := #[]
  cf := some (fileOf pool2 8 #[.nestMembers #[98]] #[{ accessFlags := 0, nameIndex := 5, descriptorIndex := 148, attributes := #[] }, { accessFlags := 0, nameIndex := 152, descriptorIndex := 6, attributes := #[] }, { accessFlags := 0, nameIndex := 95, descriptorIndex := 96, attributes := #[] }, { accessFlags := 0, nameIndex := 105, descriptorIndex := 76, attributes := #[] }, { accessFlags := 0, nameIndex := 112, descriptorIndex := 76, attributes := #[] }, { accessFlags := 0, nameIndex := 123, descriptorIndex := 96, attributes := #[] }, { accessFlags := 0, nameIndex := 161, descriptorIndex := 162, attributes := #[] }, { accessFlags := 0, nameIndex := 66, descriptorIndex := 6, attributes := #[] }, { accessFlags := 2, nameIndex := 119, descriptorIndex := 120, attributes := #[] }, { accessFlags := 2, nameIndex := 126, descriptorIndex := 127, attributes := #[] }, { accessFlags := 2, nameIndex := 108, descriptorIndex := 109, attributes := #[] }, { accessFlags := 2, nameIndex := 115, descriptorIndex := 116, attributes := #[] }] 48 2 #[] #[{ accessFlags := 26, nameIndex := 145, descriptorIndex := 63, attributes := #[] }, { accessFlags := 18, nameIndex := 30, descriptorIndex := 12, attributes := #[] }, { accessFlags := 18, nameIndex := 34, descriptorIndex := 35, attributes := #[] }, { accessFlags := 18, nameIndex := 38, descriptorIndex := 12, attributes := #[] }, { accessFlags := 18, nameIndex := 41, descriptorIndex := 12, attributes := #[] }, { accessFlags := 18, nameIndex := 44, descriptorIndex := 12, attributes := #[] }, { accessFlags := 2, nameIndex := 11, descriptorIndex := 12, attributes := #[] }, { accessFlags := 2, nameIndex := 15, descriptorIndex := 12, attributes := #[] }, { accessFlags := 2, nameIndex := 18, descriptorIndex := 19, attributes := #[] }, { accessFlags := 2, nameIndex := 22, descriptorIndex := 12, attributes := #[] }, { accessFlags := 2, nameIndex := 62, descriptorIndex := 63, attributes := #[] }, { accessFlags := 18, nameIndex := 47, descriptorIndex := 12, attributes := #[] }, { accessFlags := 18, nameIndex := 50, descriptorIndex := 51, attributes := #[] }, { accessFlags := 2, nameIndex := 130, descriptorIndex := 63, attributes := #[] }, { accessFlags := 2, nameIndex := 69, descriptorIndex := 70, attributes := #[] }])
  fields := #[{ name := "BOUNDS", type := .int, accessFlags := 26, slot := 0, constantValue := 0 }, { name := "capacities", type := (.array .int), accessFlags := 18, slot := 0, constantValue := 0 }, { name := "bits", type := (.array (.array .long)), accessFlags := 18, slot := 1, constantValue := 0 }, { name := "sizes", type := (.array .int), accessFlags := 18, slot := 2, constantValue := 0 }, { name := "low", type := (.array .int), accessFlags := 18, slot := 3, constantValue := 0 }, { name := "high", type := (.array .int), accessFlags := 18, slot := 4, constantValue := 0 }, { name := "trailVariable", type := (.array .int), accessFlags := 2, slot := 5, constantValue := 0 }, { name := "trailWord", type := (.array .int), accessFlags := 2, slot := 6, constantValue := 0 }, { name := "trailSaved", type := (.array .long), accessFlags := 2, slot := 7, constantValue := 0 }, { name := "trailSize", type := (.array .int), accessFlags := 2, slot := 8, constantValue := 0 }, { name := "trailLength", type := .int, accessFlags := 2, slot := 9, constantValue := 0 }, { name := "changed", type := (.array .int), accessFlags := 18, slot := 10, constantValue := 0 }, { name := "isChanged", type := (.array .boolean), accessFlags := 18, slot := 11, constantValue := 0 }, { name := "changedCount", type := .int, accessFlags := 2, slot := 12, constantValue := 0 }, { name := "listener", type := (.object "com/example/whittle/whittle/engine/Domains$RemovalListener"), accessFlags := 2, slot := 13, constantValue := 0 }]
  methods := #[k2m0, k2m1, k2m2, k2m3, k2m4, k2m5, k2m6, k2m7, k2m8, k2m9, k2m10, k2m11]
  instanceTypes := #[(.array .int), (.array (.array .long)), (.array .int), (.array .int), (.array .int), (.array .int), (.array .int), (.array .long), (.array .int), .int, (.array .int), (.array .boolean), .int, (.object "com/example/whittle/whittle/engine/Domains$RemovalListener")]
  staticTypes := #[.int]
  resolved := Array.replicate 173 none
  statics := none }

def pool3 : Array CpInfo := pool [(1, .class_ 2), (0, u "java/lang/Cloneable"), (0, .class_ 4), (0, u "java/lang/Object")] 2

/-- java/lang/Cloneable -/
def k3 : Class := { plain "java/lang/Cloneable" (some 0) with
  accessFlags := 1537
  interfaces := #[]
  cf := some (fileOf pool3 1 #[] #[] 1537 3 #[] #[])
  fields := #[]
  methods := #[]
  instanceTypes := #[]
  staticTypes := #[]
  resolved := Array.replicate 7 none
  statics := none }

def pool4 : Array CpInfo := pool [(2, .class_ 4), (1, u "java/lang/Object"), (0, u "<init>"), (0, u "()V"), (7, .class_ 16), (1, u "java/util/Arrays"), (57, .class_ 76), (1, u "java/util/Arrays$NaturalOrder"), (36, .class_ 115), (1, u "java/util/Arrays$LegacyMergeSort"), (1, u "Z"), (257, .class_ 376), (0, u "java/util/Arrays$ArrayList"), (68, u "$assertionsDisabled"), (269, u "MIN_ARRAY_SORT_GRAN"), (0, u "I"), (2, u "INSERTIONSORT_THRESHOLD"), (120, u "fill"), (0, u "([JJ)V"), (133, .class_ 976), (0, u "java/util/Arrays$ArrayItr")] 52

def k4m0 : Method := { name := "<init>", desc := "()V", sig := { parameters := [], returnType := none }, accessFlags := 2, code := none }
def k4c1 : Code := { maxStack := 4, maxLocals := 5, code := jdk_65_method_101_code, exceptionTable := #[], attributes := #[] }
def k4m1 : Method := { name := "fill", desc := "([JJ)V", sig := { parameters := [(.array .long), .long], returnType := none }, accessFlags := 9, code := some k4c1 }
/-- java/util/Arrays -/
def k4 : Class := { plain "java/util/Arrays" (some 0) with
  accessFlags := 49
  interfaces := #[]
  cf := some (fileOf pool4 14 #[.nestMembers #[975, 375, 113, 74]] #[{ accessFlags := 2, nameIndex := 5, descriptorIndex := 6, attributes := #[] }, { accessFlags := 9, nameIndex := 840, descriptorIndex := 841, attributes := #[] }] 49 2 #[] #[{ accessFlags := 26, nameIndex := 715, descriptorIndex := 716, attributes := #[] }, { accessFlags := 26, nameIndex := 719, descriptorIndex := 716, attributes := #[] }, { accessFlags := 4120, nameIndex := 445, descriptorIndex := 117, attributes := #[] }])
  fields := #[{ name := "MIN_ARRAY_SORT_GRAN", type := .int, accessFlags := 26, slot := 0, constantValue := 0 }, { name := "INSERTIONSORT_THRESHOLD", type := .int, accessFlags := 26, slot := 1, constantValue := 0 }, { name := "$assertionsDisabled", type := .boolean, accessFlags := 4120, slot := 2, constantValue := 0 }]
  methods := #[k4m0, k4m1]
  instanceTypes := #[]
  staticTypes := #[.int, .int, .boolean]
  resolved := Array.replicate 1029 none
  statics := none }

def pool5 : Array CpInfo := pool [(1, .class_ 2), (0, u "java/lang/Math"), (1, .class_ 6), (1, u "java/lang/Object"), (0, u "<init>"), (0, u "()V"), (89, .class_ 100), (1, u "java/lang/Math$RandomNumberGeneratorHolder"), (71, u "negativeZeroFloatBits"), (0, u "J"), (2, u "negativeZeroDoubleBits"), (21, u "max"), (2, u "min"), (43, u "$assertionsDisabled"), (0, u "Z"), (88, u "(II)I"), (2, u "twoToTheDoubleScaleDown"), (0, u "D"), (4, u "twoToTheDoubleScaleUp"), (9, u "E"), (3, u "PI"), (2, u "TAU"), (2, u "DEGREES_TO_RADIANS"), (0, u "RADIANS_TO_DEGREES")] 94

def k5m0 : Method := { name := "<init>", desc := "()V", sig := { parameters := [], returnType := none }, accessFlags := 2, code := none }
def k5c1 : Code := { maxStack := 2, maxLocals := 2, code := jdk_29_method_65_code, exceptionTable := #[], attributes := #[] }
def k5m1 : Method := { name := "max", desc := "(II)I", sig := { parameters := [.int, .int], returnType := some .int }, accessFlags := 9, code := some k5c1 }
def k5c2 : Code := { maxStack := 2, maxLocals := 2, code := jdk_29_method_69_code, exceptionTable := #[], attributes := #[] }
def k5m2 : Method := { name := "min", desc := "(II)I", sig := { parameters := [.int, .int], returnType := some .int }, accessFlags := 9, code := some k5c2 }
/-- java/lang/Math -/
def k5 : Class := { plain "java/lang/Math" (some 0) with
  accessFlags := 49
  interfaces := #[]
  cf := some (fileOf pool5 1 #[.nestMembers #[98]] #[{ accessFlags := 2, nameIndex := 7, descriptorIndex := 8, attributes := #[] }, { accessFlags := 9, nameIndex := 198, descriptorIndex := 335, attributes := #[] }, { accessFlags := 9, nameIndex := 201, descriptorIndex := 335, attributes := #[] }] 49 4 #[] #[{ accessFlags := 25, nameIndex := 354, descriptorIndex := 339, attributes := #[] }, { accessFlags := 25, nameIndex := 358, descriptorIndex := 339, attributes := #[] }, { accessFlags := 25, nameIndex := 361, descriptorIndex := 339, attributes := #[] }, { accessFlags := 26, nameIndex := 364, descriptorIndex := 339, attributes := #[] }, { accessFlags := 26, nameIndex := 365, descriptorIndex := 339, attributes := #[] }, { accessFlags := 26, nameIndex := 172, descriptorIndex := 173, attributes := #[] }, { accessFlags := 26, nameIndex := 176, descriptorIndex := 173, attributes := #[] }, { accessFlags := 8, nameIndex := 344, descriptorIndex := 339, attributes := #[] }, { accessFlags := 8, nameIndex := 338, descriptorIndex := 339, attributes := #[] }, { accessFlags := 4120, nameIndex := 245, descriptorIndex := 246, attributes := #[] }])
  fields := #[{ name := "E", type := .double, accessFlags := 25, slot := 0, constantValue := 0 }, { name := "PI", type := .double, accessFlags := 25, slot := 1, constantValue := 0 }, { name := "TAU", type := .double, accessFlags := 25, slot := 2, constantValue := 0 }, { name := "DEGREES_TO_RADIANS", type := .double, accessFlags := 26, slot := 3, constantValue := 0 }, { name := "RADIANS_TO_DEGREES", type := .double, accessFlags := 26, slot := 4, constantValue := 0 }, { name := "negativeZeroFloatBits", type := .long, accessFlags := 26, slot := 5, constantValue := 0 }, { name := "negativeZeroDoubleBits", type := .long, accessFlags := 26, slot := 6, constantValue := 0 }, { name := "twoToTheDoubleScaleUp", type := .double, accessFlags := 8, slot := 7, constantValue := 0 }, { name := "twoToTheDoubleScaleDown", type := .double, accessFlags := 8, slot := 8, constantValue := 0 }, { name := "$assertionsDisabled", type := .boolean, accessFlags := 4120, slot := 9, constantValue := 0 }]
  methods := #[k5m0, k5m1, k5m2]
  instanceTypes := #[]
  staticTypes := #[.double, .double, .double, .double, .double, .long, .long, .double, .double, .boolean]
  resolved := Array.replicate 460 none
  statics := none }

def pool6 : Array CpInfo := pool [(1, .class_ 2), (0, u "java/io/Serializable"), (0, .class_ 4), (0, u "java/lang/Object")] 2

/-- java/io/Serializable -/
def k6 : Class := { plain "java/io/Serializable" (some 0) with
  accessFlags := 1537
  interfaces := #[]
  cf := some (fileOf pool6 1 #[] #[] 1537 3 #[] #[])
  fields := #[]
  methods := #[]
  instanceTypes := #[]
  staticTypes := #[]
  resolved := Array.replicate 7 none
  statics := none }

def pool7 : Array CpInfo := pool [(2, .class_ 4), (1, u "java/lang/Object"), (0, u "<init>"), (0, u "()V"), (1, .class_ 10), (1, u "java/lang/Number"), (2, .class_ 14), (0, u "java/io/Serializable"), (0, u "serialVersionUID"), (0, u "J")] 20

def k7m0 : Method := { name := "<init>", desc := "()V", sig := { parameters := [], returnType := none }, accessFlags := 1, code := none }
/-- java/lang/Number -/
def k7 : Class := { plain "java/lang/Number" (some 0) with
  accessFlags := 1057
  interfaces := #[6]
  cf := some (fileOf pool7 8 #[] #[{ accessFlags := 1, nameIndex := 5, descriptorIndex := 6, attributes := #[] }] 1057 2 #[13] #[{ accessFlags := 26, nameIndex := 15, descriptorIndex := 16, attributes := #[] }])
  fields := #[{ name := "serialVersionUID", type := .long, accessFlags := 26, slot := 0, constantValue := 0 }]
  methods := #[k7m0]
  instanceTypes := #[]
  staticTypes := #[.long]
  resolved := Array.replicate 37 none
  statics := none }

def pool8 : Array CpInfo := pool [(1, .class_ 2), (0, u "java/lang/Comparable"), (0, .class_ 4), (0, u "java/lang/Object")] 7

/-- java/lang/Comparable -/
def k8 : Class := { plain "java/lang/Comparable" (some 0) with
  accessFlags := 1537
  interfaces := #[]
  cf := some (fileOf pool8 1 #[] #[] 1537 3 #[] #[])
  fields := #[]
  methods := #[]
  instanceTypes := #[]
  staticTypes := #[]
  resolved := Array.replicate 12 none
  statics := none }

def pool9 : Array CpInfo := pool [(1, .class_ 2), (0, u "java/lang/constant/Constable"), (0, .class_ 4), (0, u "java/lang/Object")] 6

/-- java/lang/constant/Constable -/
def k9 : Class := { plain "java/lang/constant/Constable" (some 0) with
  accessFlags := 1537
  interfaces := #[]
  cf := some (fileOf pool9 1 #[] #[] 1537 3 #[] #[])
  fields := #[]
  methods := #[]
  instanceTypes := #[]
  staticTypes := #[]
  resolved := Array.replicate 11 none
  statics := none }

def pool10 : Array CpInfo := pool [(1, .class_ 2), (0, u "java/lang/constant/ConstantDesc"), (0, .class_ 4), (0, u "java/lang/Object")] 32

/-- java/lang/constant/ConstantDesc -/
def k10 : Class := { plain "java/lang/constant/ConstantDesc" (some 0) with
  accessFlags := 1537
  interfaces := #[]
  cf := some (fileOf pool10 1 #[] #[] 1537 3 #[] #[])
  fields := #[]
  methods := #[]
  instanceTypes := #[]
  staticTypes := #[]
  resolved := Array.replicate 37 none
  statics := none }

def pool11 : Array CpInfo := pool [(1, .class_ 2), (0, u "java/lang/Long"), (15, .class_ 20), (1, u "java/lang/Integer"), (79, u "numberOfLeadingZeros"), (0, u "(J)I"), (133, .class_ 237), (1, u "java/lang/Long$LongCache"), (33, .class_ 272), (0, u "java/lang/Number"), (2, u "value"), (0, u "J"), (31, .methodref 18 309), (0, .nameAndType 100 310), (0, u "(I)I"), (0, .methodref 18 312), (0, .nameAndType 313 310), (0, u "numberOfTrailingZeros"), (47, u "TYPE"), (0, u "Ljava/lang/Class;"), (0, .class_ 364), (0, u "java/lang/Comparable"), (0, .class_ 366), (0, u "java/lang/constant/Constable"), (0, .class_ 368), (0, u "java/lang/constant/ConstantDesc"), (0, u "MIN_VALUE"), (1, u "MAX_VALUE"), (4, u "SIZE"), (0, u "I"), (1, u "BYTES"), (1, u "serialVersionUID")] 142

def k11c0 : Code := { maxStack := 3, maxLocals := 3, code := jdk_35_method_48_code, exceptionTable := #[], attributes := #[] }
def k11m0 : Method := { name := "numberOfLeadingZeros", desc := "(J)I", sig := { parameters := [.long], returnType := some .int }, accessFlags := 9, code := some k11c0 }
def k11c1 : Code := { maxStack := 4, maxLocals := 3, code := jdk_35_method_49_code, exceptionTable := #[], attributes := #[] }
def k11m1 : Method := { name := "numberOfTrailingZeros", desc := "(J)I", sig := { parameters := [.long], returnType := some .int }, accessFlags := 9, code := some k11c1 }
/-- java/lang/Long -/
def k11 : Class := { plain "java/lang/Long" (some 7) with
  accessFlags := 49
  interfaces := #[8, 9, 10]
  cf := some (fileOf pool11 1 #[.nestMembers #[235]] #[{ accessFlags := 9, nameIndex := 100, descriptorIndex := 101, attributes := #[] }, { accessFlags := 9, nameIndex := 313, descriptorIndex := 101, attributes := #[] }] 49 271 #[363, 365, 367] #[{ accessFlags := 25, nameIndex := 369, descriptorIndex := 276, attributes := #[] }, { accessFlags := 25, nameIndex := 371, descriptorIndex := 276, attributes := #[] }, { accessFlags := 25, nameIndex := 361, descriptorIndex := 362, attributes := #[] }, { accessFlags := 18, nameIndex := 275, descriptorIndex := 276, attributes := #[] }, { accessFlags := 25, nameIndex := 376, descriptorIndex := 377, attributes := #[] }, { accessFlags := 25, nameIndex := 379, descriptorIndex := 377, attributes := #[] }, { accessFlags := 26, nameIndex := 381, descriptorIndex := 276, attributes := #[] }])
  fields := #[{ name := "MIN_VALUE", type := .long, accessFlags := 25, slot := 0, constantValue := 0 }, { name := "MAX_VALUE", type := .long, accessFlags := 25, slot := 1, constantValue := 0 }, { name := "TYPE", type := (.object "java/lang/Class"), accessFlags := 25, slot := 2, constantValue := 0 }, { name := "value", type := .long, accessFlags := 18, slot := 0, constantValue := 0 }, { name := "SIZE", type := .int, accessFlags := 25, slot := 3, constantValue := 0 }, { name := "BYTES", type := .int, accessFlags := 25, slot := 4, constantValue := 0 }, { name := "serialVersionUID", type := .long, accessFlags := 26, slot := 5, constantValue := 0 }]
  methods := #[k11m0, k11m1]
  instanceTypes := #[.long]
  staticTypes := #[.long, .long, (.object "java/lang/Class"), .int, .int, .long]
  resolved := Array.replicate 524 none
  statics := none }

def pool12 : Array CpInfo := pool [(1, .class_ 2), (0, u "java/lang/Integer"), (16, u "digits"), (0, u "[C"), (32, u "numberOfLeadingZeros"), (0, u "(I)I"), (30, u "DigitOnes"), (0, u "[B"), (2, u "DigitTens"), (99, .class_ 190), (0, u "java/lang/Integer$IntegerCache"), (3, u "I"), (8, .class_ 204), (0, u "java/lang/Number"), (2, u "value"), (56, .integer 65536), (37, u "TYPE"), (0, u "Ljava/lang/Class;"), (0, .class_ 305), (0, u "java/lang/Comparable"), (0, .class_ 307), (0, u "java/lang/constant/Constable"), (0, .class_ 309), (0, u "java/lang/constant/ConstantDesc"), (0, u "MIN_VALUE"), (1, u "MAX_VALUE"), (3, u "SIZE"), (1, u "BYTES"), (1, u "serialVersionUID"), (0, u "J"), (84, u "numberOfTrailingZeros")] 46

def k12c0 : Code := { maxStack := 3, maxLocals := 2, code := jdk_33_method_47_code, exceptionTable := #[], attributes := #[] }
def k12m0 : Method := { name := "numberOfLeadingZeros", desc := "(I)I", sig := { parameters := [.int], returnType := some .int }, accessFlags := 9, code := some k12c0 }
def k12c1 : Code := { maxStack := 3, maxLocals := 2, code := jdk_33_method_48_code, exceptionTable := #[], attributes := #[] }
def k12m1 : Method := { name := "numberOfTrailingZeros", desc := "(I)I", sig := { parameters := [.int], returnType := some .int }, accessFlags := 9, code := some k12c1 }
/-- java/lang/Integer -/
def k12 : Class := { plain "java/lang/Integer" (some 7) with
  accessFlags := 49
  interfaces := #[8, 9, 10]
  cf := some (fileOf pool12 1 #[.nestMembers #[189]] #[{ accessFlags := 9, nameIndex := 53, descriptorIndex := 54, attributes := #[] }, { accessFlags := 9, nameIndex := 406, descriptorIndex := 54, attributes := #[] }] 49 203 #[304, 306, 308] #[{ accessFlags := 25, nameIndex := 310, descriptorIndex := 194, attributes := #[] }, { accessFlags := 25, nameIndex := 312, descriptorIndex := 194, attributes := #[] }, { accessFlags := 25, nameIndex := 302, descriptorIndex := 303, attributes := #[] }, { accessFlags := 24, nameIndex := 19, descriptorIndex := 20, attributes := #[] }, { accessFlags := 24, nameIndex := 89, descriptorIndex := 86, attributes := #[] }, { accessFlags := 24, nameIndex := 85, descriptorIndex := 86, attributes := #[] }, { accessFlags := 18, nameIndex := 207, descriptorIndex := 194, attributes := #[] }, { accessFlags := 25, nameIndex := 316, descriptorIndex := 194, attributes := #[] }, { accessFlags := 25, nameIndex := 318, descriptorIndex := 194, attributes := #[] }, { accessFlags := 26, nameIndex := 320, descriptorIndex := 321, attributes := #[] }])
  fields := #[{ name := "MIN_VALUE", type := .int, accessFlags := 25, slot := 0, constantValue := 0 }, { name := "MAX_VALUE", type := .int, accessFlags := 25, slot := 1, constantValue := 0 }, { name := "TYPE", type := (.object "java/lang/Class"), accessFlags := 25, slot := 2, constantValue := 0 }, { name := "digits", type := (.array .char), accessFlags := 24, slot := 3, constantValue := 0 }, { name := "DigitTens", type := (.array .byte), accessFlags := 24, slot := 4, constantValue := 0 }, { name := "DigitOnes", type := (.array .byte), accessFlags := 24, slot := 5, constantValue := 0 }, { name := "value", type := .int, accessFlags := 18, slot := 0, constantValue := 0 }, { name := "SIZE", type := .int, accessFlags := 25, slot := 6, constantValue := 0 }, { name := "BYTES", type := .int, accessFlags := 25, slot := 7, constantValue := 0 }, { name := "serialVersionUID", type := .long, accessFlags := 26, slot := 8, constantValue := 0 }]
  methods := #[k12m0, k12m1]
  instanceTypes := #[.int]
  staticTypes := #[.int, .int, (.object "java/lang/Class"), (.array .char), (.array .byte), (.array .byte), .int, .int, .long]
  resolved := Array.replicate 453 none
  statics := none }

/-- the primitive boolean -/
def k13 : Class := { plain "boolean" none with kind := .primitive 'Z', accessFlags := 0x411 }
/-- [Z -/
def k14 : Class := { plain "[Z" (some 0) with kind := .array 13 .boolean, interfaces := #[3, 6], accessFlags := 1041 }

/-- the primitive byte -/
def k15 : Class := { plain "byte" none with kind := .primitive 'B', accessFlags := 0x411 }
/-- [B -/
def k16 : Class := { plain "[B" (some 0) with kind := .array 15 .byte, interfaces := #[3, 6], accessFlags := 1041 }

/-- the primitive int -/
def k17 : Class := { plain "int" none with kind := .primitive 'I', accessFlags := 0x411 }
/-- [I -/
def k18 : Class := { plain "[I" (some 0) with kind := .array 17 .int, interfaces := #[3, 6], accessFlags := 1041 }

/-- the primitive long -/
def k19 : Class := { plain "long" none with kind := .primitive 'J', accessFlags := 0x411 }
/-- [J -/
def k20 : Class := { plain "[J" (some 0) with kind := .array 19 .long, interfaces := #[3, 6], accessFlags := 1041 }

/-- an array of long arrays -/
def k21 : Class := { plain "[[J" (some 0) with kind := .array 20 (.array .long), interfaces := #[3, 6], accessFlags := 1041 }

def heap : Heap := #[{ cls := 21, slots := #[.null], vm := .none }]
def classes : Array Class := #[k0, k1, k2, k3, k4, k5, k6, k7, k8, k9, k10, k11, k12, k13, k14, k15, k16, k17, k18, k19, k20, k21]
def interned : List (Array UInt16 × Addr) := []
def slotsUsed : Nat := 1
def theMethod : MethodId := ⟨1, 1⟩
def args0 : Array Value := #[.int 1, .int 2, .int 3, .int 4, .int 5, .int 6]
def aboutOver (below : List Frame) : State where
  vm := { classes := classes, interned := interned.toArray }
  heap := heap
  slotsUsed := slotsUsed
  threads := #[{ frames := .invoking theMethod args0 :: below }]
def below0 : List Frame := [.native { method := ⟨0, 0⟩, args := #[] }]
def about1 : State := aboutOver below0
def p0 : Program := .bare "" "" ""
def e0 : Env := launch0.env 0 0 0
theorem w_frames : about1.frames = Frame.invoking theMethod args0 :: below0 := rfl
set_option maxRecDepth 65536 in
theorem w_args : argsFit about1.vm theMethod args0 = true := by decide +kernel
set_option maxRecDepth 65536 in
theorem w_heap : heapFits about1 = true := by decide +kernel
set_option maxRecDepth 65536 in
theorem w_runnable : about1.curStatus? = some .runnable := by decide +kernel
set_option maxRecDepth 65536 in
theorem w_alone : about1.alone = true := by decide +kernel
set_option maxRecDepth 65536 in
theorem w_named : about1.methodNamed? x = some theMethod := by decide +kernel
set_option maxRecDepth 65536 in
theorem w_hears : about1.hears theMethod below0 = true := by decide +kernel
set_option maxRecDepth 65536 in
theorem w_ripe : about1.ripe theMethod args0 below0 = true := by decide +kernel
theorem w_running : about1.status = .running := rfl
set_option maxRecDepth 65536 in
theorem w_room : about1.hasRoom e0.platform room_1 = true :=
  launch0.hasRoom_least _ room_1 (by decide +kernel) (by decide +kernel) (by decide +kernel) (by decide +kernel) (by decide +kernel) (by decide +kernel)
theorem allAtoms_all (ts : List Jvm.Cond) (a : Array Jvm.Value) (st : Jvm.State) : (allAtoms ts).before a st = ts.all (fun c => c.before a st) := by
  induction ts with
  | nil => rfl
  | cons c t ih =>
    show (Jvm.Cond.and c (allAtoms t)).before a st = _
    rw [Jvm.Cond.before_and, ih, List.all_cons]
def words1 : List Jvm.Cond := Jvm.Cond.code x code maxLocals ret :: tables_1
/-- a 'code' word, met by the world's own term for the bytes: nothing is compared byte by byte -/
theorem code_word {y : MethodName} {bytes : ByteArray} {mx : Nat} {rt : Option FieldType} {a : Array Value} {s : State} {m : MethodId} {meth : Method} {c : Code} (h1 : s.methodNamed? y = some m) (h2 : s.vm.method? m = some meth) (h3 : meth.code = some c) (h4 : c.code = bytes)
    (h5 : (c.maxLocals == mx && c.exceptionTable.isEmpty && decide (c.maxStack ≤ mostOperands) && decide (meth.sig.returnType = rt) && !meth.locks && decide (parseMethodDescriptor y.desc = some meth.sig)) = true) : (Jvm.Cond.code y bytes mx rt).before a s = true := by
  simp only [Bool.and_eq_true, beq_iff_eq, Bool.not_eq_true', decide_eq_true_eq] at h5
  obtain ⟨⟨⟨⟨⟨g1, g2⟩, g3⟩, g4⟩, g5⟩, g6⟩ := h5
  simp [Cond.before, Cond.holds, Cond.value, h1, h2, h3, h4, g1, g2, g3, g4, g5, g6]
def isCode : Jvm.Cond → Bool
  | .code _ _ _ _ => true
  | _ => false
theorem all_split {L : List Jvm.Cond} {P : Jvm.Cond → Bool} (h1 : L.all (fun c => isCode c || P c) = true) (h2 : ∀ c ∈ L.filter isCode, P c = true) : L.all P = true := by
  refine List.all_eq_true.mpr fun c hc => ?_
  have h := List.all_eq_true.mp h1 c hc
  rcases Bool.eq_false_or_eq_true (isCode c) with hi | hi
  · exact h2 c (List.mem_filter.mpr ⟨hc, hi⟩)
  · simpa [hi] using h
set_option maxRecDepth 65536 in
theorem w_c0 : (Jvm.Cond.code x code maxLocals ret).before args0 about1 = true := code_word (m := ⟨1, 1⟩) (meth := k1m1) (c := k1c1) (by decide +kernel) rfl rfl rfl (by decide +kernel)
set_option maxRecDepth 65536 in
theorem w_c1 : (Jvm.Cond.code ({ cls := "com/example/whittle/whittle/engine/Domains", name := "<init>", desc := "([I)V" } : Jvm.MethodName) prog_22_method_1_code (3 : Nat) (Option.none : Option Jvm.ClassFile.FieldType)).before args0 about1 = true := code_word (m := ⟨2, 0⟩) (meth := k2m0) (c := k2c0) (by decide +kernel) rfl rfl rfl (by decide +kernel)
set_option maxRecDepth 65536 in
theorem w_c2 : (Jvm.Cond.code ({ cls := "java/lang/Object", name := "<init>", desc := "()V" } : Jvm.MethodName) object_method_1_code (1 : Nat) (Option.none : Option Jvm.ClassFile.FieldType)).before args0 about1 = true := code_word (m := ⟨0, 0⟩) (meth := k0m0) (c := k0c0) (by decide +kernel) rfl rfl rfl (by decide +kernel)
set_option maxRecDepth 65536 in
theorem w_c3 : (Jvm.Cond.code ({ cls := "com/example/whittle/whittle/engine/Domains", name := "reset", desc := "()V" } : Jvm.MethodName) prog_22_method_2_code (2 : Nat) (Option.none : Option Jvm.ClassFile.FieldType)).before args0 about1 = true := code_word (m := ⟨2, 1⟩) (meth := k2m1) (c := k2c1) (by decide +kernel) rfl rfl rfl (by decide +kernel)
set_option maxRecDepth 65536 in
theorem w_c4 : (Jvm.Cond.code ({ cls := "java/util/Arrays", name := "fill", desc := "([JJ)V" } : Jvm.MethodName) jdk_65_method_101_code (5 : Nat) (Option.none : Option Jvm.ClassFile.FieldType)).before args0 about1 = true := code_word (m := ⟨4, 1⟩) (meth := k4m1) (c := k4c1) (by decide +kernel) rfl rfl rfl (by decide +kernel)
set_option maxRecDepth 65536 in
theorem w_c5 : (Jvm.Cond.code ({ cls := "com/example/whittle/whittle/engine/Domains", name := "clearChanged", desc := "()V" } : Jvm.MethodName) prog_22_method_18_code (2 : Nat) (Option.none : Option Jvm.ClassFile.FieldType)).before args0 about1 = true := code_word (m := ⟨2, 7⟩) (meth := k2m7) (c := k2c7) (by decide +kernel) rfl rfl rfl (by decide +kernel)
set_option maxRecDepth 65536 in
theorem w_c6 : (Jvm.Cond.code ({ cls := "com/example/whittle/whittle/engine/Domains", name := "keepWithin", desc := "(III)Z" } : Jvm.MethodName) prog_22_method_12_code (7 : Nat) (Option.some Jvm.ClassFile.FieldType.boolean)).before args0 about1 = true := code_word (m := ⟨2, 6⟩) (meth := k2m6) (c := k2c6) (by decide +kernel) rfl rfl rfl (by decide +kernel)
set_option maxRecDepth 65536 in
theorem w_c7 : (Jvm.Cond.code ({ cls := "com/example/whittle/whittle/engine/Domains", name := "next", desc := "(II)I" } : Jvm.MethodName) prog_22_method_6_code (7 : Nat) (Option.some Jvm.ClassFile.FieldType.int)).before args0 about1 = true := code_word (m := ⟨2, 3⟩) (meth := k2m3) (c := k2c3) (by decide +kernel) rfl rfl rfl (by decide +kernel)
set_option maxRecDepth 65536 in
theorem w_c8 : (Jvm.Cond.code ({ cls := "java/lang/Math", name := "max", desc := "(II)I" } : Jvm.MethodName) jdk_29_method_65_code (2 : Nat) (Option.some Jvm.ClassFile.FieldType.int)).before args0 about1 = true := code_word (m := ⟨5, 1⟩) (meth := k5m1) (c := k5c1) (by decide +kernel) rfl rfl rfl (by decide +kernel)
set_option maxRecDepth 65536 in
theorem w_c9 : (Jvm.Cond.code ({ cls := "com/example/whittle/whittle/engine/Domains", name := "previous", desc := "(II)I" } : Jvm.MethodName) prog_22_method_8_code (7 : Nat) (Option.some Jvm.ClassFile.FieldType.int)).before args0 about1 = true := code_word (m := ⟨2, 4⟩) (meth := k2m4) (c := k2c4) (by decide +kernel) rfl rfl rfl (by decide +kernel)
set_option maxRecDepth 65536 in
theorem w_c10 : (Jvm.Cond.code ({ cls := "java/lang/Math", name := "min", desc := "(II)I" } : Jvm.MethodName) jdk_29_method_69_code (2 : Nat) (Option.some Jvm.ClassFile.FieldType.int)).before args0 about1 = true := code_word (m := ⟨5, 2⟩) (meth := k5m2) (c := k5c2) (by decide +kernel) rfl rfl rfl (by decide +kernel)
set_option maxRecDepth 65536 in
theorem w_c11 : (Jvm.Cond.code ({ cls := "com/example/whittle/whittle/engine/Domains", name := "bound", desc := "(IIII)V" } : Jvm.MethodName) prog_22_method_23_code (5 : Nat) (Option.none : Option Jvm.ClassFile.FieldType)).before args0 about1 = true := code_word (m := ⟨2, 10⟩) (meth := k2m10) (c := k2c10) (by decide +kernel) rfl rfl rfl (by decide +kernel)
set_option maxRecDepth 65536 in
theorem w_c12 : (Jvm.Cond.code ({ cls := "com/example/whittle/whittle/engine/Domains", name := "save", desc := "(IIJ)V" } : Jvm.MethodName) prog_22_method_24_code (6 : Nat) (Option.none : Option Jvm.ClassFile.FieldType)).before args0 about1 = true := code_word (m := ⟨2, 11⟩) (meth := k2m11) (c := k2c11) (by decide +kernel) rfl rfl rfl (by decide +kernel)
set_option maxRecDepth 65536 in
theorem w_c13 : (Jvm.Cond.code ({ cls := "com/example/whittle/whittle/engine/Domains", name := "noteChanged", desc := "(I)V" } : Jvm.MethodName) prog_22_method_19_code (2 : Nat) (Option.none : Option Jvm.ClassFile.FieldType)).before args0 about1 = true := code_word (m := ⟨2, 8⟩) (meth := k2m8) (c := k2c8) (by decide +kernel) rfl rfl rfl (by decide +kernel)
set_option maxRecDepth 65536 in
theorem w_c14 : (Jvm.Cond.code ({ cls := "com/example/whittle/whittle/engine/Domains", name := "remove", desc := "(II)Z" } : Jvm.MethodName) prog_22_method_11_code (5 : Nat) (Option.some Jvm.ClassFile.FieldType.boolean)).before args0 about1 = true := code_word (m := ⟨2, 5⟩) (meth := k2m5) (c := k2c5) (by decide +kernel) rfl rfl rfl (by decide +kernel)
set_option maxRecDepth 65536 in
theorem w_c15 : (Jvm.Cond.code ({ cls := "com/example/whittle/whittle/engine/Domains", name := "contains", desc := "(II)Z" } : Jvm.MethodName) prog_22_method_5_code (3 : Nat) (Option.some Jvm.ClassFile.FieldType.boolean)).before args0 about1 = true := code_word (m := ⟨2, 2⟩) (meth := k2m2) (c := k2c2) (by decide +kernel) rfl rfl rfl (by decide +kernel)
set_option maxRecDepth 65536 in
theorem w_c16 : (Jvm.Cond.code ({ cls := "java/lang/Long", name := "numberOfLeadingZeros", desc := "(J)I" } : Jvm.MethodName) jdk_35_method_48_code (3 : Nat) (Option.some Jvm.ClassFile.FieldType.int)).before args0 about1 = true := code_word (m := ⟨11, 0⟩) (meth := k11m0) (c := k11c0) (by decide +kernel) rfl rfl rfl (by decide +kernel)
set_option maxRecDepth 65536 in
theorem w_c17 : (Jvm.Cond.code ({ cls := "java/lang/Integer", name := "numberOfLeadingZeros", desc := "(I)I" } : Jvm.MethodName) jdk_33_method_47_code (2 : Nat) (Option.some Jvm.ClassFile.FieldType.int)).before args0 about1 = true := code_word (m := ⟨12, 0⟩) (meth := k12m0) (c := k12c0) (by decide +kernel) rfl rfl rfl (by decide +kernel)
set_option maxRecDepth 65536 in
theorem w_c18 : (Jvm.Cond.code ({ cls := "java/lang/Long", name := "numberOfTrailingZeros", desc := "(J)I" } : Jvm.MethodName) jdk_35_method_49_code (3 : Nat) (Option.some Jvm.ClassFile.FieldType.int)).before args0 about1 = true := code_word (m := ⟨11, 1⟩) (meth := k11m1) (c := k11c1) (by decide +kernel) rfl rfl rfl (by decide +kernel)
set_option maxRecDepth 65536 in
theorem w_c19 : (Jvm.Cond.code ({ cls := "java/lang/Integer", name := "numberOfTrailingZeros", desc := "(I)I" } : Jvm.MethodName) jdk_33_method_48_code (2 : Nat) (Option.some Jvm.ClassFile.FieldType.int)).before args0 about1 = true := code_word (m := ⟨12, 1⟩) (meth := k12m1) (c := k12c1) (by decide +kernel) rfl rfl rfl (by decide +kernel)
set_option maxRecDepth 65536 in
theorem w_c20 : (Jvm.Cond.code ({ cls := "com/example/whittle/whittle/engine/Domains", name := "countWithin", desc := "(III)I" } : Jvm.MethodName) prog_22_method_20_code (7 : Nat) (Option.some Jvm.ClassFile.FieldType.int)).before args0 about1 = true := code_word (m := ⟨2, 9⟩) (meth := k2m9) (c := k2c9) (by decide +kernel) rfl rfl rfl (by decide +kernel)
def codes1 : List Jvm.Cond := [Jvm.Cond.code x code maxLocals ret, Jvm.Cond.code ({ cls := "com/example/whittle/whittle/engine/Domains", name := "<init>", desc := "([I)V" } : Jvm.MethodName) prog_22_method_1_code (3 : Nat) (Option.none : Option Jvm.ClassFile.FieldType), Jvm.Cond.code ({ cls := "java/lang/Object", name := "<init>", desc := "()V" } : Jvm.MethodName) object_method_1_code (1 : Nat) (Option.none : Option Jvm.ClassFile.FieldType), Jvm.Cond.code ({ cls := "com/example/whittle/whittle/engine/Domains", name := "reset", desc := "()V" } : Jvm.MethodName) prog_22_method_2_code (2 : Nat) (Option.none : Option Jvm.ClassFile.FieldType), Jvm.Cond.code ({ cls := "java/util/Arrays", name := "fill", desc := "([JJ)V" } : Jvm.MethodName) jdk_65_method_101_code (5 : Nat) (Option.none : Option Jvm.ClassFile.FieldType), Jvm.Cond.code ({ cls := "com/example/whittle/whittle/engine/Domains", name := "clearChanged", desc := "()V" } : Jvm.MethodName) prog_22_method_18_code (2 : Nat) (Option.none : Option Jvm.ClassFile.FieldType), Jvm.Cond.code ({ cls := "com/example/whittle/whittle/engine/Domains", name := "keepWithin", desc := "(III)Z" } : Jvm.MethodName) prog_22_method_12_code (7 : Nat) (Option.some Jvm.ClassFile.FieldType.boolean), Jvm.Cond.code ({ cls := "com/example/whittle/whittle/engine/Domains", name := "next", desc := "(II)I" } : Jvm.MethodName) prog_22_method_6_code (7 : Nat) (Option.some Jvm.ClassFile.FieldType.int), Jvm.Cond.code ({ cls := "java/lang/Math", name := "max", desc := "(II)I" } : Jvm.MethodName) jdk_29_method_65_code (2 : Nat) (Option.some Jvm.ClassFile.FieldType.int), Jvm.Cond.code ({ cls := "com/example/whittle/whittle/engine/Domains", name := "previous", desc := "(II)I" } : Jvm.MethodName) prog_22_method_8_code (7 : Nat) (Option.some Jvm.ClassFile.FieldType.int), Jvm.Cond.code ({ cls := "java/lang/Math", name := "min", desc := "(II)I" } : Jvm.MethodName) jdk_29_method_69_code (2 : Nat) (Option.some Jvm.ClassFile.FieldType.int), Jvm.Cond.code ({ cls := "com/example/whittle/whittle/engine/Domains", name := "bound", desc := "(IIII)V" } : Jvm.MethodName) prog_22_method_23_code (5 : Nat) (Option.none : Option Jvm.ClassFile.FieldType), Jvm.Cond.code ({ cls := "com/example/whittle/whittle/engine/Domains", name := "save", desc := "(IIJ)V" } : Jvm.MethodName) prog_22_method_24_code (6 : Nat) (Option.none : Option Jvm.ClassFile.FieldType), Jvm.Cond.code ({ cls := "com/example/whittle/whittle/engine/Domains", name := "noteChanged", desc := "(I)V" } : Jvm.MethodName) prog_22_method_19_code (2 : Nat) (Option.none : Option Jvm.ClassFile.FieldType), Jvm.Cond.code ({ cls := "com/example/whittle/whittle/engine/Domains", name := "remove", desc := "(II)Z" } : Jvm.MethodName) prog_22_method_11_code (5 : Nat) (Option.some Jvm.ClassFile.FieldType.boolean), Jvm.Cond.code ({ cls := "com/example/whittle/whittle/engine/Domains", name := "contains", desc := "(II)Z" } : Jvm.MethodName) prog_22_method_5_code (3 : Nat) (Option.some Jvm.ClassFile.FieldType.boolean), Jvm.Cond.code ({ cls := "java/lang/Long", name := "numberOfLeadingZeros", desc := "(J)I" } : Jvm.MethodName) jdk_35_method_48_code (3 : Nat) (Option.some Jvm.ClassFile.FieldType.int), Jvm.Cond.code ({ cls := "java/lang/Integer", name := "numberOfLeadingZeros", desc := "(I)I" } : Jvm.MethodName) jdk_33_method_47_code (2 : Nat) (Option.some Jvm.ClassFile.FieldType.int), Jvm.Cond.code ({ cls := "java/lang/Long", name := "numberOfTrailingZeros", desc := "(J)I" } : Jvm.MethodName) jdk_35_method_49_code (3 : Nat) (Option.some Jvm.ClassFile.FieldType.int), Jvm.Cond.code ({ cls := "java/lang/Integer", name := "numberOfTrailingZeros", desc := "(I)I" } : Jvm.MethodName) jdk_33_method_48_code (2 : Nat) (Option.some Jvm.ClassFile.FieldType.int), Jvm.Cond.code ({ cls := "com/example/whittle/whittle/engine/Domains", name := "countWithin", desc := "(III)I" } : Jvm.MethodName) prog_22_method_20_code (7 : Nat) (Option.some Jvm.ClassFile.FieldType.int)]
set_option maxRecDepth 65536 in
theorem codes_eq : words1.filter isCode = codes1 := rfl
theorem w_codes : ∀ c ∈ words1.filter isCode, c.before args0 about1 = true := by
  rw [codes_eq]
  intro c hc
  simp only [codes1, List.mem_cons, List.not_mem_nil, or_false] at hc
  rcases hc with rfl | rfl | rfl | rfl | rfl | rfl | rfl | rfl | rfl | rfl | rfl | rfl | rfl | rfl | rfl | rfl | rfl | rfl | rfl | rfl | rfl
  · exact w_c0
  · exact w_c1
  · exact w_c2
  · exact w_c3
  · exact w_c4
  · exact w_c5
  · exact w_c6
  · exact w_c7
  · exact w_c8
  · exact w_c9
  · exact w_c10
  · exact w_c11
  · exact w_c12
  · exact w_c13
  · exact w_c14
  · exact w_c15
  · exact w_c16
  · exact w_c17
  · exact w_c18
  · exact w_c19
  · exact w_c20
set_option maxRecDepth 65536 in
theorem w_t1 : (words1.take 24).all (fun c => isCode c || c.before args0 about1) = true := by decide +kernel
set_option maxRecDepth 65536 in
theorem w_t2 : ((words1.drop 24).take 24).all (fun c => isCode c || c.before args0 about1) = true := by decide +kernel
set_option maxRecDepth 65536 in
theorem w_t3 : (((words1.drop 24).drop 24).take 24).all (fun c => isCode c || c.before args0 about1) = true := by decide +kernel
set_option maxRecDepth 65536 in
theorem w_t4 : ((((words1.drop 24).drop 24).drop 24).take 24).all (fun c => isCode c || c.before args0 about1) = true := by decide +kernel
set_option maxRecDepth 65536 in
theorem w_t5 : (((((words1.drop 24).drop 24).drop 24).drop 24).take 24).all (fun c => isCode c || c.before args0 about1) = true := by decide +kernel
set_option maxRecDepth 65536 in
theorem w_t6 : (((((words1.drop 24).drop 24).drop 24).drop 24).drop 24).all (fun c => isCode c || c.before args0 about1) = true := by decide +kernel
theorem w_tables : (allAtoms (Jvm.Cond.code x code maxLocals ret :: tables_1)).before args0 about1 = true := by
  rw [allAtoms_all]
  show words1.all (fun c => c.before args0 about1) = true
  refine all_split ?_ w_codes
  rw [← List.take_append_drop 24 words1, List.all_append, w_t1, ← List.take_append_drop 24 (words1.drop 24), List.all_append, w_t2, ← List.take_append_drop 24 ((words1.drop 24).drop 24), List.all_append, w_t3, ← List.take_append_drop 24 (((words1.drop 24).drop 24).drop 24), List.all_append, w_t4, ← List.take_append_drop 24 ((((words1.drop 24).drop 24).drop 24).drop 24), List.all_append, w_t5, w_t6]
  rfl
set_option maxRecDepth 65536 in
theorem w_case : (Jvm.Cond.and given_1 narrow_1).before args0 about1 = true := by decide +kernel
theorem w_applies : (headSpec (Jvm.Cond.code x code maxLocals ret :: tables_1) room_1).applies x e0.platform about1 = true :=
  (Spec.applies_iff w_frames).mpr ⟨w_running, w_runnable, w_alone, w_named, w_hears, w_ripe, w_room, w_tables⟩
theorem atStart : AtStart classFile x code maxLocals ret World_1 tables_1 room_1 Calls_1 rest_1 Pre_1 launch0 p0 e0 about1 theMethod args0 below0 :=
  ⟨lists_1, trivial, launch0.admits_env _ _ _, launch0.least_env, fairChoices_fair.cas, fairChoices_fair.clock, w_frames, w_args, w_heap, w_applies, trivial, trivial, w_case⟩
end start1
theorem witness_1 : WitnessClaimed_1 := ⟨start1.p0, start1.e0, start1.about1, start1.theMethod, start1.args0, start1.below0, start1.atStart⟩
end Jvm.Pilot.@@N@@
