import JvmDerived
import JvmDerived.Pilot.@@N@@Statement
import JvmDerived.Pilot.@@N@@Code
set_option linter.unusedVariables false
set_option linter.unusedSimpArgs false
set_option maxRecDepth 65536
set_option maxHeartbeats 40000000
namespace Jvm.Pilot.@@N@@
open Jvm Jvm.ClassFile Sem Op Lib Jvm.Free Jvm.Stand Jvm.LawKit Jvm.RoadKit Bundle Jvm.Pilot.@@N@@.Jvm.D
/-- from T the run comes to an end of which P speaks -/
def Go (p : Program) (e : Env) (below : List Frame) (P : Outcome → State → Prop) (T : State) : Prop := ∃ s₂ o, Steps p.tables e below T s₂ ∧ s₂.status = .running ∧ Ended s₂ below o ∧ P o s₂
theorem Go.via {p : Program} {e : Env} {below : List Frame} {P : Outcome → State → Prop} {T T' : State} (h : ∀ t, Steps p.tables e below T' t → Steps p.tables e below T t) (g : Go p e below P T') : Go p e below P T := by
  obtain ⟨s₂, o, a, b⟩ := g
  exact ⟨s₂, o, h _ a, b⟩
theorem Go.into {p : Program} {e : Env} {below : List Frame} {P : Outcome → State → Prop} {T : State} {g g' : JFrame} (q : g = g') (h : Go p e below P (T.setTop g')) : ∃ s₂ o, Steps p.tables e below (T.setTop g) s₂ ∧ s₂.status = .running ∧ Ended s₂ below o ∧ P o s₂ := by
  subst q; exact h
abbrev HW (a0 : Array Value) (Z : State) : Prop := ∀ d ∈ tables_1, d.before a0 Z = true
theorem Vi {p : Program} {e : Env} {below : List Frame} {P : Outcome → State → Prop} {T : State} (T' : State) (h : ∀ t, Steps p.tables e below T' t → Steps p.tables e below T t) (g : Go p e below P T') : Go p e below P T := Go.via h g
section Ret
variable {p : Program} {l : Launch} {e : Env} {R : Room} {s : State} {m : MethodId} {args : Array Value} {below : List Frame} {meth : Method} {c : Code} {T : State} {locs : List Loc} {cells slots K N : Nat}
theorem Go.fin (X : Stand p l e R s m args below meth c T locs cells slots) (hlk : meth.locks = false) {v : Option Value} (hv : meth.sig.returnType = none → v = none) {Q : Option Value → Heap → List Loc → Prop} {g : JFrame}
    (st : ∀ fs, (∀ (f : JFrame) (acts : List Action), f.method = m → f.locked = none → f.entered = [] → (doReturn e (T.setTop f) acts v).1 = T.setFrames fs) → Steps p.tables e below (T.setTop g) (T.setFrames fs))
    (hk : cells ≤ K) (hn : slots ≤ N) (hq : Q v T.heap locs) : Go p e below (fun o u => ∃ v L, o = .returned v ∧ Q v u.heap L ∧ FrameEnd s o u L K N) (T.setTop g) := by
  obtain ⟨fs, hr, hrun, hended, hW, hsame⟩ := X.leave (v := v) hv
  exact ⟨_, _, st fs hr, hrun, hended, _, _, rfl, hq, ⟨_, rfl⟩, hW, hsame.mono hk hn⟩
theorem Go.retI (X : Stand p l e R s m args below meth c T locs cells slots) (hx : p.tables.exec = Jvm.exec) (hlk : meth.locks = false) {Q : Option Value → Heap → List Loc → Prop} {pc : Nat} {Ls : Array Slot} {z : Int32} {rest : List Value} (hret : meth.sig.returnType = some .int) (hd : decode c.code pc = .ok (.ireturn, 1))
    (hk : cells ≤ K) (hn : slots ≤ N) (hq : Q (some (.int z)) T.heap locs) : Go p e below (fun o u => ∃ v L, o = .returned v ∧ Q v u.heap L ∧ FrameEnd s o u L K N) (T.setTop (mkF m pc Ls (.int z :: rest))) :=
  Go.fin X hlk (v := some (.int z)) (fun h => by rw [hret] at h; cases h) (fun fs hr => retOut X hx hret rfl (Or.inl ⟨rfl, Or.inl rfl, _, rfl⟩) hd hr) hk hn hq
theorem Go.retN (X : Stand p l e R s m args below meth c T locs cells slots) (hx : p.tables.exec = Jvm.exec) (hlk : meth.locks = false) {Q : Option Value → Heap → List Loc → Prop} {pc : Nat} {Ls : Array Slot} {z : Int32} {rest : List Value} {t : FieldType} (hret : meth.sig.returnType = some t) (ht : t = .boolean ∨ t = .byte ∨ t = .char ∨ t = .short) (hd : decode c.code pc = .ok (.ireturn, 1))
    (hk : cells ≤ K) (hn : slots ≤ N) (hq : Q (some (.int (nar t z))) T.heap locs) : Go p e below (fun o u => ∃ v L, o = .returned v ∧ Q v u.heap L ∧ FrameEnd s o u L K N) (T.setTop (mkF m pc Ls (.int z :: rest))) :=
  Go.fin X hlk (v := some (.int (nar t z))) (fun h => by rw [hret] at h; cases h) (fun fs hr => Jvm.RoadKit.retN X hx hret ht hd hr) hk hn hq
theorem Go.retJ (X : Stand p l e R s m args below meth c T locs cells slots) (hx : p.tables.exec = Jvm.exec) (hlk : meth.locks = false) {Q : Option Value → Heap → List Loc → Prop} {pc : Nat} {Ls : Array Slot} {z : Int64} {rest : List Value} (hret : meth.sig.returnType = some .long) (hd : decode c.code pc = .ok (.lreturn, 1))
    (hk : cells ≤ K) (hn : slots ≤ N) (hq : Q (some (.long z)) T.heap locs) : Go p e below (fun o u => ∃ v L, o = .returned v ∧ Q v u.heap L ∧ FrameEnd s o u L K N) (T.setTop (mkF m pc Ls (.long z :: rest))) :=
  Go.fin X hlk (v := some (.long z)) (fun h => by rw [hret] at h; cases h) (fun fs hr => retOut X hx hret rfl (Or.inr (Or.inl ⟨rfl, rfl, _, rfl⟩)) hd hr) hk hn hq
theorem Go.retR (X : Stand p l e R s m args below meth c T locs cells slots) (hx : p.tables.exec = Jvm.exec) (hlk : meth.locks = false) {Q : Option Value → Heap → List Loc → Prop} {pc : Nat} {Ls : Array Slot} {w : Value} {rest : List Value} {t : FieldType} (hret : meth.sig.returnType = some t) (ht : t.isReference = true) (hw : w.isRef = true) (hd : decode c.code pc = .ok (.areturn, 1))
    (hk : cells ≤ K) (hn : slots ≤ N) (hq : Q (some w) T.heap locs) : Go p e below (fun o u => ∃ v L, o = .returned v ∧ Q v u.heap L ∧ FrameEnd s o u L K N) (T.setTop (mkF m pc Ls (w :: rest))) :=
  Go.fin X hlk (v := some w) (fun h => by rw [hret] at h; cases h) (fun fs hr => retOut X hx hret (by rcases ref_cases hw with rfl | ⟨z, rfl⟩ <;> cases t <;> rfl) (Or.inr (Or.inr (Or.inr (Or.inr ⟨rfl, ht, hw⟩)))) hd hr) hk hn hq
theorem Go.retV (X : Stand p l e R s m args below meth c T locs cells slots) (hx : p.tables.exec = Jvm.exec) (hlk : meth.locks = false) {Q : Option Value → Heap → List Loc → Prop} {pc : Nat} {Ls : Array Slot} (hret : meth.sig.returnType = none) (hd : decode c.code pc = .ok (.return_, 1))
    (hk : cells ≤ K) (hn : slots ≤ N) (hq : Q none T.heap locs) : Go p e below (fun o u => ∃ v L, o = .returned v ∧ Q v u.heap L ∧ FrameEnd s o u L K N) (T.setTop (mkF m pc Ls [])) :=
  Go.fin X hlk (v := none) (fun _ => rfl) (fun fs hr => X.returnOut hx hret hd hr) hk hn hq
theorem Go.retNW {vm₁ : Vm} (X : Stand p l e R (s.setVm vm₁) m args below meth c T locs cells slots) (hx : p.tables.exec = Jvm.exec) {n : Nat} (hS : s.Since vm₁ n) (hnn : n ≤ T.heap.size) (hlk : meth.locks = false) {Q : Option Value → Heap → List Loc → Prop} {pc : Nat} {Ls : Array Slot} {z : Int32} {rest : List Value} {t : FieldType} (hret : meth.sig.returnType = some t) (ht : t = .boolean ∨ t = .byte ∨ t = .char ∨ t = .short) (hd : decode c.code pc = .ok (.ireturn, 1))
    (hk : cells ≤ K) (hn : slots ≤ N) (hq : Q (some (.int (nar t z))) T.heap locs) : Go p e below (fun o u => ∃ v L, o = .returned v ∧ Q v u.heap L ∧ ReturnedEndW s o u L K N) (T.setTop (mkF m pc Ls (.int z :: rest))) := by
  obtain ⟨fs, hr, hrun, hended, h1, h2, h3, h4⟩ := X.leaveW hS hnn (v := some (.int (nar t z))) (fun h => by rw [hret] at h; cases h) hlk
  exact ⟨_, _, Jvm.RoadKit.retN X hx hret ht hd hr, hrun, hended, _, _, rfl, hq, h1, h2, h3, h4.mono hk hn⟩
end Ret
theorem leW {a b : Nat} (h : a = b) : a ≤ b := Nat.le_of_eq h
abbrev sI (x : Int32) : Slot := .val (.int x)
abbrev sR (a : Addr) : Slot := .val (.ref a)
abbrev y1 : MethodName := ⟨"com/example/muster/muster/solvers/Pheromone", "<init>", "(IID)V"⟩
abbrev B1 := prog_48_method_1_code
abbrev y2 : MethodName := ⟨"java/lang/Object", "<init>", "()V"⟩
abbrev B2 := object_method_1_code
abbrev y3 : MethodName := ⟨"com/example/muster/muster/solvers/Pheromone", "reset", "()V"⟩
abbrev B3 := prog_48_method_2_code
abbrev y4 : MethodName := ⟨"java/util/Arrays", "fill", "([DD)V"⟩
abbrev B4 := jdk_65_method_113_code
abbrev y5 : MethodName := ⟨"com/example/muster/muster/core/MpdaPlan", "<init>", "([[I)V"⟩
abbrev B5 := prog_25_method_1_code
abbrev y6 : MethodName := ⟨"com/example/muster/muster/solvers/Pheromone", "deposit", "(Lcom/example/muster/muster/core/MpdaPlan;D)V"⟩
abbrev B6 := prog_48_method_4_code
abbrev y7 : MethodName := ⟨"com/example/muster/muster/core/MpdaPlan", "robotCount", "()I"⟩
abbrev B7 := prog_25_method_2_code
abbrev y8 : MethodName := ⟨"com/example/muster/muster/core/MpdaPlan", "route", "(I)[I"⟩
abbrev B8 := prog_25_method_3_code
abbrev y9 : MethodName := ⟨"com/example/muster/muster/solvers/Pheromone", "update", "()V"⟩
abbrev B9 := prog_48_method_5_code
abbrev y10 : MethodName := ⟨"com/example/muster/muster/solvers/Pheromone", "toward", "(III)D"⟩
abbrev B10 := prog_48_method_3_code
theorem wq {a0 : Array Value} {Z : State} (hw : HW a0 Z) (i : Nat) {d : Jvm.Cond} (h : tables_1[i]? = some d) : d.before a0 Z = true := hw d (List.mem_of_getElem? h)
theorem wz {args a0 : Array Value} {Z s : State} {d : Cond} (hZ : Z.Warmed39 s.vm) (hw : HW a0 Z) (i : Nat) (h : tables_1[i]? = some d) (hd : (d.onTables && d.keepsFace) = true := by first | rfl | simp [Cond.onTables, Cond.keepsFace, Cond.keeps, Cond.steady]) : d.before args s = true := mvT hZ (wq hw i h) hd
abbrev DC (b : ByteArray) (p : Nat) (i : Instr) (n : Nat) : Prop := decode b p = .ok (i, n)
theorem GF {p : Program} {l : Launch} {e : Env} {R : Room} {s : State} {m : MethodId} {args : Array Value} {below : List Frame} {meth : Method} {c : Code} {T : State} {locs : List Loc} {cells slots : Nat} {Z : State} {a0 : Array Value} {h : Heap} {P : Outcome → State → Prop} (X : Stand p l e R s m args below meth c T locs cells slots) (hx : p.tables.exec = Jvm.exec) (hZ : Z.Warmed39 s.vm) {own R0 n d : String} {index : Nat} (hown : s.vm.findClass own = some m.cls) (w : (Cond.fieldLink own index R0 n d).before a0 Z = true)
    (eT : T.heap = h) {a : Addr} {v : Value} (F : Fld Z h a R0 n d v) {pc : Nat} {Ls : Array Slot} {rest : List Value} (hd : decode c.code pc = .ok (.getfield index, 3)) (k : ∀ T', Stand p l e R s m args below meth c T' locs cells slots → T'.heap = h → Go p e below P (T'.setTop (mkF m (pc + 3) Ls (v :: rest)))) : Go p e below P (T.setTop (mkF m pc Ls (.ref a :: rest))) := by
  obtain ⟨T', X', e', st⟩ := getF X hx hZ hown (host := "") (Or.inl w) Via.refl eT F (g := mkF m pc Ls (.ref a :: rest)) rfl rfl hd
  exact Go.via st (k T' X' e')
theorem sn {Z : State} {a0 : Array Value} {C O n d O' n' d' : String} {a b : Addr} (L : Laid Z a0 C O n d) (L' : Laid Z a0 C O' n' d') (hn : n ≠ n' := by decide) (ht : (parseFieldDescriptor d).isSome = true := by decide) (ht' : (parseFieldDescriptor d').isSome = true := by decide) : b ≠ a ∨ Jvm.RoadKit.slotOf Z O n d ≠ Jvm.RoadKit.slotOf Z O' n' d' := by
  obtain ⟨t, q⟩ := Option.isSome_iff_exists.mp ht
  obtain ⟨t', q'⟩ := Option.isSome_iff_exists.mp ht'
  exact Or.inr (slot_ne L L' hn q q')
theorem Go.cut {p : Program} {e : Env} {below : List Frame} {P : Outcome → State → Prop} {T : State} (c : Prop) (T' : State) (a : c → Go p e below P T') (b : (c → Go p e below P T') → Go p e below P T) : Go p e below P T := b a
theorem own_eqi {t : Term} {n : Int32} {args : Array Value} {s : State} (h : (Cond.eq t (.int n)).value args s none s [] = some true) : t.eval args s none [] s = some (.int n) := by
  obtain ⟨x, y, h1, h2, k, -⟩ := cmp_v (Or.inl h)
  cases (show some y = some (Value.int n) from h2.symm)
  cases x with
  | int z => rw [h1]; congr 2; have q := h; simp [Cond.value, h1, Term.eval] at q; exact q
  | _ => simp [Kin, Value.isRef] at k
theorem own_ns1 {h : Heap} {a : Addr} {ws : List Addr} (q : ∀ cell : Cell, h[a]? = some cell → cell.vm.isStatics = false) (r : ∀ (x : Addr) (c : Cell), h[x]? = some c → c.vm.isStatics = true → x ∉ ws) : ∀ (x : Addr) (c : Cell), h[x]? = some c → c.vm.isStatics = true → x ∉ a :: ws := fun x c hx hc => ninS (fun e => by subst e; rw [q c hx] at hc; cases hc) (r x c hx hc)
theorem own_sk {Z : State} {h h' : Heap} {C n d : String} {v : Value} {ws : List Addr} (F : Sta Z h C n d v) (K : Keep h h' ws) (q : ∀ (x : Addr) (c : Cell), h[x]? = some c → c.vm.isStatics = true → x ∉ ws) : Sta Z h' C n d v := by
  obtain ⟨cf, i, k, f, st, cell, h1, h2, h3, h4, h5, h6, h7⟩ := F
  exact ⟨cf, i, k, f, st, cell, h1, h2, h3, h4, K.2.1 _ _ h5 (q _ _ h5 h6), h6, h7⟩

/-- an array of n places; place k holds g k -/
def AV (Z : State) (h : Heap) (a : Addr) (ty : FieldType) (n : Nat) (g : Nat → Value) : Prop := n < 2 ^ 31 ∧ ∃ c : Cell, Arr Z h a c ty ∧ c.slots.size = n ∧ ∀ k, k < n → c.slots[k]? = some (g k)
def up {α : Type} (f : Nat → α) (i : Nat) (v : α) : Nat → α := fun k => if k = i then v else f k
section AVs
variable {p : Program} {l : Launch} {e : Env} {R : Room} {s : State} {m : MethodId} {args : Array Value} {below : List Frame} {meth : Method} {c : Code} {T : State} {locs : List Loc} {cells slots : Nat}
variable {Z : State} {h h' : Heap} {a b : Addr} {ty : FieldType} {n : Nat} {g g' : Nat → Value} {sl : Nat} {v : Value} {ws : List Addr} {j : Int32}
theorem AV.lt (F : AV Z h a ty n g) : a < h.size := by obtain ⟨_, c, A, -⟩ := F; exact A.lt
theorem AV.ext (F : AV Z h a ty n g) (E : Ext h h') : AV Z h' a ty n g := by obtain ⟨q, c, A, r⟩ := F; exact ⟨q, c, A.ext E, r⟩
theorem AV.other (F : AV Z h b ty n g) (W : Wr h h' a sl v) (q : b ≠ a) : AV Z h' b ty n g := by obtain ⟨q', c, A, r⟩ := F; exact ⟨q', c, A.other W q, r⟩
theorem AV.keep (F : AV Z h a ty n g) (K : Keep h h' ws) (q : a ∉ ws) : AV Z h' a ty n g := by obtain ⟨q', c, A, r⟩ := F; exact ⟨q', c, ⟨K.2.1 a c A.1 q, A.2⟩, r⟩
theorem AV.congr (F : AV Z h a ty n g) (q : ∀ k, k < n → g k = g' k) : AV Z h a ty n g' := by obtain ⟨q', c, A, r1, r2⟩ := F; exact ⟨q', c, A, r1, fun k hk => by rw [← q k hk]; exact r2 k hk⟩
theorem AV.set (F : AV Z h a ty n g) (W : Wr h h' a sl v) : AV Z h' a ty n (up g sl v) := by
  obtain ⟨q', c, A, r1, r2⟩ := F
  refine ⟨q', _, A.same W, by rw [sz_set]; exact r1, fun k hk => ?_⟩
  by_cases u : k = sl
  · subst u; simp [Cell.setSlot, up, r1, hk]
  · simp only [Cell.setSlot, up, if_neg u]; rw [Array.getElem?_setIfInBounds_ne (Ne.symm u)]; exact r2 k hk
theorem AV.new {k : ClassId} {z : Int32} (A : Arr Z h a (newA k ty z) ty) : AV Z h a ty z.toNatClampNeg (fun _ => defaultValue ty) := by
  refine ⟨by have := Int32.toInt_lt z; simp only [Int32.toNatClampNeg]; omega, _, A, sz_new _ _ _, fun i hi => by simp [newA, hi]⟩
theorem AV.inb {cl : Cell} (hs : cl.slots.size = n) (hj : ¬ j < 0 ∧ j.toNatClampNeg < n) : ¬ (j < 0 ∨ cl.slots.size ≤ j.toNatClampNeg) := fun q => q.elim hj.1 fun q => by rw [hs] at q; exact absurd hj.2 (Nat.not_lt.mpr q)
theorem AV.len (F : AV Z h a ty n g) (X : Stand p l e R s m args below meth c T locs cells slots) (hx : p.tables.exec = Jvm.exec) (hZ : Z.Warmed39 s.vm) (eT : T.heap = h) {pc : Nat} {Ls : Array Slot} {rest : List Value} (hd : decode c.code pc = .ok (.arraylength, 1)) {t : State}
    (k : Steps p.tables e below (T.setTop (mkF m (pc + 1) Ls (.int (Int32.ofNat n) :: rest))) t) : Steps p.tables e below (T.setTop (mkF m pc Ls (.ref a :: rest))) t := by
  obtain ⟨q', cl, A, r1, r2⟩ := F
  subst r1
  exact X.arraylength hx (by rw [eT]; exact A.1) (State.isArrayOf_alike hZ.alike A.2.1) (g := mkF m pc Ls (.ref a :: rest)) rfl rfl hd _ k
theorem AV.iaload {f : Nat → Int32} (F : AV Z h a .int n (fun k => .int (f k))) (X : Stand p l e R s m args below meth c T locs cells slots) (hx : p.tables.exec = Jvm.exec) (hZ : Z.Warmed39 s.vm) (eT : T.heap = h) (hj : ¬ j < 0 ∧ j.toNatClampNeg < n) {pc : Nat} {Ls : Array Slot} {rest : List Value} (hd : decode c.code pc = .ok (.iaload, 1)) {t : State}
    (k : Steps p.tables e below (T.setTop (mkF m (pc + 1) Ls (.int (f j.toNatClampNeg) :: rest))) t) : Steps p.tables e below (T.setTop (mkF m pc Ls (.int j :: .ref a :: rest))) t := by
  obtain ⟨q', cl, A, r1, r2⟩ := F
  exact X.iaload hx (j := j) (v := .int (f j.toNatClampNeg)) (by rw [eT]; exact A.1) (State.isArrayOf_alike hZ.alike A.2.1) A.2.2 (AV.inb r1 hj) (r2 _ hj.2) (g := mkF m pc Ls (.int j :: .ref a :: rest)) rfl rfl hd _ k
theorem AV.laload {f : Nat → Int64} (F : AV Z h a .long n (fun k => .long (f k))) (X : Stand p l e R s m args below meth c T locs cells slots) (hx : p.tables.exec = Jvm.exec) (hZ : Z.Warmed39 s.vm) (eT : T.heap = h) (hj : ¬ j < 0 ∧ j.toNatClampNeg < n) {pc : Nat} {Ls : Array Slot} {rest : List Value} (hd : decode c.code pc = .ok (.laload, 1)) {t : State}
    (k : Steps p.tables e below (T.setTop (mkF m (pc + 1) Ls (.long (f j.toNatClampNeg) :: rest))) t) : Steps p.tables e below (T.setTop (mkF m pc Ls (.int j :: .ref a :: rest))) t := by
  obtain ⟨q', cl, A, r1, r2⟩ := F
  exact X.laload hx (j := j) (v := .long (f j.toNatClampNeg)) (by rw [eT]; exact A.1) (State.isArrayOf_alike hZ.alike A.2.1) A.2.2 (AV.inb r1 hj) (r2 _ hj.2) (g := mkF m pc Ls (.int j :: .ref a :: rest)) rfl rfl hd _ k
theorem AV.aaload (F : AV Z h a ty n g) (hty : ty.isReference = true) (X : Stand p l e R s m args below meth c T locs cells slots) (hx : p.tables.exec = Jvm.exec) (hZ : Z.Warmed39 s.vm) (eT : T.heap = h) (hj : ¬ j < 0 ∧ j.toNatClampNeg < n) {pc : Nat} {Ls : Array Slot} {rest : List Value} (hd : decode c.code pc = .ok (.aaload, 1)) {t : State}
    (k : Steps p.tables e below (T.setTop (mkF m (pc + 1) Ls (g j.toNatClampNeg :: rest))) t) : Steps p.tables e below (T.setTop (mkF m pc Ls (.int j :: .ref a :: rest))) t := by
  obtain ⟨q', cl, A, r1, r2⟩ := F
  exact X.aaload hx (j := j) (v := g j.toNatClampNeg) (by rw [eT]; exact A.1) (State.isArrayOf_alike hZ.alike A.2.1) hty A.2.2 (AV.inb r1 hj) (r2 _ hj.2) (g := mkF m pc Ls (.int j :: .ref a :: rest)) rfl rfl hd _ k
theorem AV.iastore {f : Nat → Int32} {x : Int32} (F : AV Z h a .int n (fun k => .int (f k))) (X : Stand p l e R s m args below meth c T locs cells slots) (hx : p.tables.exec = Jvm.exec) (hZ : Z.Warmed39 s.vm) (eT : T.heap = h) (hj : ¬ j < 0 ∧ j.toNatClampNeg < n) {pc : Nat} {Ls : Array Slot} {rest : List Value} (hd : decode c.code pc = .ok (.iastore, 1)) :
    ∃ T' h', Stand p l e R s m args below meth c T' (locs ++ [⟨a, j.toNatClampNeg⟩]) cells slots ∧ T'.heap = h' ∧ Wr h h' a j.toNatClampNeg (.int x) ∧ AV Z h' a .int n (fun k => .int (up f j.toNatClampNeg x k)) ∧
      ∀ t, Steps p.tables e below (T'.setTop (mkF m (pc + 1) Ls rest)) t → Steps p.tables e below (T.setTop (mkF m pc Ls (.int x :: .int j :: .ref a :: rest))) t := by
  have F0 := F
  obtain ⟨q', cl, A, r1, r2⟩ := F
  obtain ⟨T', h', X', e', W, st⟩ := stI X hx hZ eT A (j := j) (AV.inb r1 hj) (g := mkF m pc Ls (.int x :: .int j :: .ref a :: rest)) rfl rfl hd
  exact ⟨T', h', X', e', W, (F0.set W).congr (fun k _ => by unfold up; split <;> rfl), st⟩
theorem AV.lastore {f : Nat → Int64} {x : Int64} (F : AV Z h a .long n (fun k => .long (f k))) (X : Stand p l e R s m args below meth c T locs cells slots) (hx : p.tables.exec = Jvm.exec) (hZ : Z.Warmed39 s.vm) (eT : T.heap = h) (hj : ¬ j < 0 ∧ j.toNatClampNeg < n) {pc : Nat} {Ls : Array Slot} {rest : List Value} (hd : decode c.code pc = .ok (.lastore, 1)) :
    ∃ T' h', Stand p l e R s m args below meth c T' (locs ++ [⟨a, j.toNatClampNeg⟩]) cells slots ∧ T'.heap = h' ∧ Wr h h' a j.toNatClampNeg (.long x) ∧ AV Z h' a .long n (fun k => .long (up f j.toNatClampNeg x k)) ∧
      ∀ t, Steps p.tables e below (T'.setTop (mkF m (pc + 1) Ls rest)) t → Steps p.tables e below (T.setTop (mkF m pc Ls (.long x :: .int j :: .ref a :: rest))) t := by
  have F0 := F
  obtain ⟨q', cl, A, r1, r2⟩ := F
  obtain ⟨T', h', X', e', W, st⟩ := stJ X hx hZ eT A (j := j) (AV.inb r1 hj) (g := mkF m pc Ls (.long x :: .int j :: .ref a :: rest)) rfl rfl hd
  exact ⟨T', h', X', e', W, (F0.set W).congr (fun k _ => by unfold up; split <;> rfl), st⟩
theorem AV.bastoreZ {f : Nat → Int32} {x : Int32} (F : AV Z h a .boolean n (fun k => .int (f k))) (X : Stand p l e R s m args below meth c T locs cells slots) (hx : p.tables.exec = Jvm.exec) (hZ : Z.Warmed39 s.vm) (eT : T.heap = h) (hj : ¬ j < 0 ∧ j.toNatClampNeg < n) {pc : Nat} {Ls : Array Slot} {rest : List Value} (hd : decode c.code pc = .ok (.bastore, 1)) :
    ∃ T' h', Stand p l e R s m args below meth c T' (locs ++ [⟨a, j.toNatClampNeg⟩]) cells slots ∧ T'.heap = h' ∧ Wr h h' a j.toNatClampNeg (.int (nar .boolean x)) ∧ AV Z h' a .boolean n (fun k => .int (up f j.toNatClampNeg (nar .boolean x) k)) ∧
      ∀ t, Steps p.tables e below (T'.setTop (mkF m (pc + 1) Ls rest)) t → Steps p.tables e below (T.setTop (mkF m pc Ls (.int x :: .int j :: .ref a :: rest))) t := by
  have F0 := F
  obtain ⟨q', cl, A, r1, r2⟩ := F
  obtain ⟨T', h', X', e', W, st⟩ := stZ X hx hZ eT A (j := j) (AV.inb r1 hj) (g := mkF m pc Ls (.int x :: .int j :: .ref a :: rest)) rfl rfl hd
  exact ⟨T', h', X', e', W, (F0.set W).congr (fun k _ => by unfold up; split <;> rfl), st⟩
theorem AV.aastore (F : AV Z h a ty n g) (hty : ty.isReference = true) (S : Sto Z h a v) (X : Stand p l e R s m args below meth c T locs cells slots) (hx : p.tables.exec = Jvm.exec) (hZ : Z.Warmed39 s.vm) (eT : T.heap = h) (hj : ¬ j < 0 ∧ j.toNatClampNeg < n) {pc : Nat} {Ls : Array Slot} {rest : List Value} (hd : decode c.code pc = .ok (.aastore, 1)) :
    ∃ T' h', Stand p l e R s m args below meth c T' (locs ++ [⟨a, j.toNatClampNeg⟩]) cells slots ∧ T'.heap = h' ∧ Wr h h' a j.toNatClampNeg v ∧ AV Z h' a ty n (up g j.toNatClampNeg v) ∧
      ∀ t, Steps p.tables e below (T'.setTop (mkF m (pc + 1) Ls rest)) t → Steps p.tables e below (T.setTop (mkF m pc Ls (v :: .int j :: .ref a :: rest))) t := by
  have F0 := F
  obtain ⟨q', cl, A, r1, r2⟩ := F
  obtain ⟨T', h', X', e', W, st⟩ := stR X hx hZ eT A (j := j) (AV.inb r1 hj) hty S (g := mkF m pc Ls (v :: .int j :: .ref a :: rest)) rfl rfl hd
  exact ⟨T', h', X', e', W, F0.set W, st⟩
end AVs
/-- what may lie in an array of arrays -/
def OV (Z : State) (h : Heap) (a : Addr) (ty : FieldType) (C : String) : Prop := ∃ cl : Cell, h[a]? = some cl ∧ OvrA Z cl.cls ty C
section OVs
variable {Z : State} {h h' : Heap} {a b : Addr} {ty t0 : FieldType} {C : String} {n : Nat} {g : Nat → Value} {sl : Nat} {v : Value} {ws : List Addr}
theorem OV.ext (F : OV Z h a ty C) (E : Ext h h') : OV Z h' a ty C := by obtain ⟨cl, q, O⟩ := F; exact ⟨cl, E.2 _ _ q, O⟩
theorem OV.wr (F : OV Z h a ty C) (W : Wr h h' b sl v) : OV Z h' a ty C := by
  obtain ⟨cl, q, O⟩ := F; obtain ⟨c', e1, e2, -⟩ := wr_at W q; exact ⟨c', e1, by rw [e2]; exact O⟩
theorem OV.keep (F : OV Z h a ty C) (K : Keep h h' ws) : OV Z h' a ty C := by
  obtain ⟨cl, q, O⟩ := F; obtain ⟨c', e1, e2, -⟩ := K.2.2 _ _ q; exact ⟨c', e1, by rw [e2]; exact O⟩
theorem OV.sto (F : OV Z h a ty C) (A : AV Z h a t0 n g) (I : Ins Z h b C true) : Sto Z h a (.ref b) := by
  obtain ⟨cl, q, O⟩ := F; obtain ⟨-, c, A', -⟩ := A; cases q.symm.trans A'.1; exact Sto.ofVA A' rfl O I
end OVs
section AVc
variable {p : Program} {l : Launch} {e : Env} {R : Room} {s : State} {m : MethodId} {args : Array Value} {below : List Frame} {meth : Method} {c : Code} {T : State} {locs : List Loc} {cells slots : Nat}
variable {Z : State} {h : Heap} {a : Addr} {ty : FieldType} {n : Nat} {g0 : Nat → Value} {a0 : Array Value}
theorem AV.clone (F : AV Z h a ty n g0) (ht : ∀ k, k < n → fits ty (g0 k) = true) (X : Stand p l e R s m args below meth c T locs cells slots) (hx : p.tables.exec = Jvm.exec) (hZ : Z.Warmed39 s.vm) {own ad : String} {index : Nat} (hown : s.vm.findClass own = some m.cls)
    (w1 : (Cond.methodLink own index ⟨ad, "clone", "()Ljava/lang/Object;"⟩).before a0 Z = true) (w2 : (Cond.sameMethod ad "java/lang/Object" "clone" "()Ljava/lang/Object;").before a0 Z = true) (w3 : (Cond.native ⟨"java/lang/Object", "clone", "()Ljava/lang/Object;"⟩).before a0 Z = true)
    (w4 : (Cond.instanceMethod ⟨"java/lang/Object", "clone", "()Ljava/lang/Object;"⟩).before a0 Z = true) (w5 : (Cond.selects ad ⟨ad, "clone", "()Ljava/lang/Object;"⟩ ⟨"java/lang/Object", "clone", "()Ljava/lang/Object;"⟩).before a0 Z = true) (w6 : (Cond.castable ad "java/lang/Cloneable").before a0 Z = true)
    (eT : T.heap = h) (E : Exa Z h a ad) {g : JFrame} (hg : g.method = m) (hsize : g.locals.size = c.maxLocals) {rest : List Value} (hst : g.stack = .ref a :: rest) (hd : decode c.code g.pc = .ok (.invokevirtual index, 3))
    (hf : 1 ≤ R.frames) {W cap : Nat} (hW : 2 * g.monitorRoom + (rest.map fun v => v.category).sum ≤ W) (hl : W + 14 ≤ R.locals) (hcap : n ≤ cap) (hc : cells + 1 ≤ R.cells) (hsl : slots + cap ≤ R.slots) :
    ∃ T' h', Stand p l e R s m args below meth c T' locs (cells + 1) (slots + cap) ∧ T'.heap = h' ∧ Ext h h' ∧ AV Z h' h.size ty n g0 ∧ Exa Z h' h.size ad ∧
      ∀ target, Steps p.tables e below (T'.setTop { g with pc := g.pc + 3, stack := .ref h.size :: rest }) target → Steps p.tables e below (T.setTop g) target := by
  obtain ⟨q0, cl, A, S, H⟩ := F
  have FC : FitC Z cl := fitC_of A fun i hi v hv => by
    rw [S] at hi; rw [H i hi] at hv; cases hv; exact ht i hi
  obtain ⟨T', h', X', e', ex, A', E', st⟩ := cloneA X hx hZ hown w1 w2 w3 w4 w5 w6 eT A E FC hg hsize hst hd hf hW hl (by rw [S]; exact hcap) hc hsl
  exact ⟨T', h', X', e', ex, ⟨q0, cloneOf cl, A', S, H⟩, E', st⟩
end AVc

section Dbl
variable {p : Program} {l : Launch} {e : Env} {R : Room} {s : State} {m : MethodId} {args : Array Value} {below : List Frame} {meth : Method} {c : Code} {T : State} {locs : List Loc} {cells slots : Nat} {Z : State} {a : Addr} {h h' : Heap} {n : Nat} {j : Int32}
theorem AV.daload {f : Nat → UInt64} (F : AV Z h a .double n (fun k => .double (f k))) (X : Stand p l e R s m args below meth c T locs cells slots) (hx : p.tables.exec = Jvm.exec) (hZ : Z.Warmed39 s.vm) (eT : T.heap = h) (hj : ¬ j < 0 ∧ j.toNatClampNeg < n) {pc : Nat} {Ls : Array Slot} {rest : List Value} (hd : decode c.code pc = .ok (.daload, 1)) {t : State}
    (k : Steps p.tables e below (T.setTop (mkF m (pc + 1) Ls (.double (f j.toNatClampNeg) :: rest))) t) : Steps p.tables e below (T.setTop (mkF m pc Ls (.int j :: .ref a :: rest))) t := by
  obtain ⟨q', cl, A, r1, r2⟩ := F
  exact X.daload hx (j := j) (v := .double (f j.toNatClampNeg)) (by rw [eT]; exact A.1) (State.isArrayOf_alike hZ.alike A.2.1) A.2.2 (AV.inb r1 hj) (r2 _ hj.2) (g := mkF m pc Ls (.int j :: .ref a :: rest)) rfl rfl hd _ k
theorem AV.dastore {f : Nat → UInt64} {x : UInt64} (F : AV Z h a .double n (fun k => .double (f k))) (X : Stand p l e R s m args below meth c T locs cells slots) (hx : p.tables.exec = Jvm.exec) (hZ : Z.Warmed39 s.vm) (eT : T.heap = h) (hj : ¬ j < 0 ∧ j.toNatClampNeg < n) {pc : Nat} {Ls : Array Slot} {rest : List Value} (hd : decode c.code pc = .ok (.dastore, 1)) :
    ∃ T' h', Stand p l e R s m args below meth c T' (locs ++ [⟨a, j.toNatClampNeg⟩]) cells slots ∧ T'.heap = h' ∧ Wr h h' a j.toNatClampNeg (.double x) ∧ AV Z h' a .double n (fun k => .double (up f j.toNatClampNeg x k)) ∧
      ∀ t, Steps p.tables e below (T'.setTop (mkF m (pc + 1) Ls rest)) t → Steps p.tables e below (T.setTop (mkF m pc Ls (.double x :: .int j :: .ref a :: rest))) t := by
  have F0 := F
  obtain ⟨q', cl, A, r1, r2⟩ := F
  obtain ⟨T', h', X', e', W, st⟩ := stD X hx hZ eT A (j := j) (AV.inb r1 hj) (g := mkF m pc Ls (.double x :: .int j :: .ref a :: rest)) rfl rfl hd
  exact ⟨T', h', X', e', W, (F0.set W).congr (fun k _ => by unfold up; split <;> rfl), st⟩
theorem Go.retD {K N : Nat} (X : Stand p l e R s m args below meth c T locs cells slots) (hx : p.tables.exec = Jvm.exec) (hlk : meth.locks = false) {Q : Option Value → Heap → List Loc → Prop} {pc : Nat} {Ls : Array Slot} {z : UInt64} {rest : List Value} (hret : meth.sig.returnType = some .double) (hd : decode c.code pc = .ok (.dreturn, 1))
    (hk : cells ≤ K) (hn : slots ≤ N) (hq : Q (some (.double z)) T.heap locs) : Go p e below (fun o u => ∃ v L, o = .returned v ∧ Q v u.heap L ∧ FrameEnd s o u L K N) (T.setTop (mkF m pc Ls (.double z :: rest))) :=
  Go.fin X hlk (v := some (.double z)) (fun h => by rw [hret] at h; cases h) (fun fs hr => retOut X hx hret rfl (Or.inr (Or.inr (Or.inl ⟨rfl, rfl, _, rfl⟩))) hd hr) hk hn hq
end Dbl

section Multi3
open Jvm.Free.Multi
def own_o (c : ClassId) (N M a : Nat) : Nat → Cell
  | 0 => { cls := c, slots := Array.replicate N .null, vm := .none }
  | i + 1 => (own_o c N M a i).setSlot i (.ref (a + 1 + i * (1 + M)))
def own_g (s : State) (c c1 c2 : ClassId) (N M K : Nat) (dv : Value) : Nat → State
  | 0 => s.pushCell (own_o c N M s.heap.size 0)
  | i + 1 => (Jvm.Free.Multi.fill (own_g s c c1 c2 N M K dv i) c1 c2 M K dv M).setCell s.heap.size (own_o c N M s.heap.size (i + 1))
theorem own_o_facts (c : ClassId) (N M a : Nat) : ∀ i, (own_o c N M a i).cls = c ∧ (own_o c N M a i).vm = .none ∧ (own_o c N M a i).slots.size = N
  | 0 => ⟨rfl, rfl, by simp [own_o]⟩
  | i + 1 => by
    obtain ⟨x, y, z⟩ := own_o_facts c N M a i
    exact ⟨by simp [own_o, Cell.setSlot, x], by simp [own_o, Cell.setSlot, y], by simp [own_o, Cell.setSlot, z]⟩
theorem own_o_slot (c : ClassId) (N M a : Nat) : ∀ i j, j < N → (own_o c N M a i).slots[j]? = some (if j < i then .ref (a + 1 + j * (1 + M)) else .null)
  | 0, j, h => by simp [own_o, h]
  | i + 1, j, h => by
    have ih := own_o_slot c N M a i j h
    have hs := (own_o_facts c N M a i).2.2
    show ((own_o c N M a i).setSlot i (.ref (a + 1 + i * (1 + M)))).slots[j]? = _
    simp only [Cell.setSlot, Array.getElem?_setIfInBounds]
    by_cases e : i = j
    · subst e; simp [hs, h]
    · rw [if_neg e, ih]
      by_cases hj : j < i
      · rw [if_pos hj, if_pos (by omega)]
      · rw [if_neg hj, if_neg (by omega)]
section
variable (s : State) (c c1 c2 : ClassId) (N M K : Nat) (dv : Value)
theorem own_g_facts : ∀ i, (own_g s c c1 c2 N M K dv i).heap.size = s.heap.size + 1 + i * (1 + M) ∧ (own_g s c c1 c2 N M K dv i).heap[s.heap.size]? = some (own_o c N M s.heap.size i) ∧ (own_g s c c1 c2 N M K dv i).vm = s.vm ∧ (own_g s c c1 c2 N M K dv i).slotsUsed = s.slotsUsed + N + i * (M + M * K)
  | 0 => ⟨by simp [own_g], by simp [own_g], rfl, by simp [own_g, own_o]⟩
  | i + 1 => by
    obtain ⟨a, b, d, u⟩ := own_g_facts i
    obtain ⟨f1, f2, f3, f4⟩ := fill_facts (own_g s c c1 c2 N M K dv i) c1 c2 M K dv M
    have hlt : s.heap.size < (own_g s c c1 c2 N M K dv i).heap.size := by rw [a]; omega
    have hb' : (Jvm.Free.Multi.fill (own_g s c c1 c2 N M K dv i) c1 c2 M K dv M).heap[s.heap.size]? = some (own_o c N M s.heap.size i) := by rw [fill_old _ _ _ _ _ _ hlt]; exact b
    refine ⟨?_, State.heap_setCell_self hb', by simp [own_g, f3, d], ?_⟩
    · simp only [own_g, State.setCell]
      simp [f1, a, Nat.succ_mul]; omega
    · simp only [own_g]
      simp [f4, u, Nat.succ_mul]; omega
theorem own_g_setTop (f : JFrame) : ∀ i, own_g (s.setTop f) c c1 c2 N M K dv i = (own_g s c c1 c2 N M K dv i).setTop f
  | 0 => rfl
  | i + 1 => by simp only [own_g, own_g_setTop f i, fill_setTop, State.heap_setTop, State.setCell_setTop]
theorem own_g_old {a : Addr} (ha : a < s.heap.size) : ∀ i, (own_g s c c1 c2 N M K dv i).heap[a]? = s.heap[a]?
  | 0 => State.heap_pushCell_of_lt _ _ ha
  | i + 1 => by
    have f1 := (own_g_facts s c c1 c2 N M K dv i).1
    have hlt : a < (own_g s c c1 c2 N M K dv i).heap.size := Nat.lt_of_lt_of_le ha (by rw [f1]; omega)
    show ((Jvm.Free.Multi.fill (own_g s c c1 c2 N M K dv i) c1 c2 M K dv M).setCell s.heap.size _).heap[a]? = _
    rw [State.heap_setCell_other (Nat.ne_of_gt ha), fill_old _ _ _ _ _ _ hlt]
    exact own_g_old ha i
theorem own_g_row : ∀ i j, j < i → (own_g s c c1 c2 N M K dv i).heap[s.heap.size + 1 + j * (1 + M)]? = some (outerC c1 M (s.heap.size + 1 + j * (1 + M)) M)
  | 0, _, h => absurd h (Nat.not_lt_zero _)
  | i + 1, j, h => by
    have f1 := (own_g_facts s c c1 c2 N M K dv i).1
    show ((Jvm.Free.Multi.fill (own_g s c c1 c2 N M K dv i) c1 c2 M K dv M).setCell s.heap.size _).heap[s.heap.size + 1 + j * (1 + M)]? = _
    rw [State.heap_setCell_other (show s.heap.size ≠ s.heap.size + 1 + j * (1 + M) by omega)]
    rcases Nat.lt_or_ge j i with hj | hj
    · have : j * (1 + M) < i * (1 + M) := Nat.mul_lt_mul_of_pos_right hj (by omega)
      have hlt : s.heap.size + 1 + j * (1 + M) < (own_g s c c1 c2 N M K dv i).heap.size := by rw [f1]; omega
      rw [fill_old _ _ _ _ _ _ hlt]
      exact own_g_row i j hj
    · have e : j = i := by omega
      subst e
      rw [← f1]
      exact (fill_facts (own_g s c c1 c2 N M K dv j) c1 c2 M K dv M).2.1
theorem own_g_in : ∀ i j q, j < i → q < M → (own_g s c c1 c2 N M K dv i).heap[s.heap.size + 1 + j * (1 + M) + 1 + q]? = some (innerC c2 K dv)
  | 0, _, _, h, _ => absurd h (Nat.not_lt_zero _)
  | i + 1, j, q, h, hq => by
    have f1 := (own_g_facts s c c1 c2 N M K dv i).1
    show ((Jvm.Free.Multi.fill (own_g s c c1 c2 N M K dv i) c1 c2 M K dv M).setCell s.heap.size _).heap[s.heap.size + 1 + j * (1 + M) + 1 + q]? = _
    rw [State.heap_setCell_other (show s.heap.size ≠ s.heap.size + 1 + j * (1 + M) + 1 + q by omega)]
    rcases Nat.lt_or_ge j i with hj | hj
    · have : (j + 1) * (1 + M) ≤ i * (1 + M) := Nat.mul_le_mul_right _ hj
      rw [Nat.succ_mul] at this
      have hlt : s.heap.size + 1 + j * (1 + M) + 1 + q < (own_g s c c1 c2 N M K dv i).heap.size := by rw [f1]; omega
      rw [fill_old _ _ _ _ _ _ hlt]
      exact own_g_in i j q hj hq
    · have e : j = i := by omega
      subst e
      rw [← f1]
      exact fill_inner (own_g s c c1 c2 N M K dv j) c1 c2 M K dv M q hq
end
theorem own_wp3 {E : CtlPost} {e : Env} {d : Bool} {acts : List Action} {s : State} {c c1 c2 cc : ClassId} {k k1 k2 : Class} {t0 t1 type : FieldType} {n m q : Int32} (hk : s.vm.classes[c]? = some k) (hkind : k.kind = .array c1 t0) (href : t0.isReference = true)
    (hk1 : s.vm.classes[c1]? = some k1) (hkind1 : k1.kind = .array c2 t1) (href1 : t1.isReference = true) (hk2 : s.vm.classes[c2]? = some k2) (hkind2 : k2.kind = .array cc type) (hn : ¬ n < 0) (hm : ¬ m < 0) (hq0 : ¬ q < 0)
    (hl0 : ¬ n.toNatClampNeg > e.platform.arrayLengthLimit) (hh0 : ¬ n.toNatClampNeg * componentBytes t0 > e.platform.maxHeapBytes)
    (hl1 : ¬ m.toNatClampNeg > e.platform.arrayLengthLimit) (hh1 : ¬ m.toNatClampNeg * componentBytes t1 > e.platform.maxHeapBytes)
    (hl2 : ¬ q.toNatClampNeg > e.platform.arrayLengthLimit) (hh2 : ¬ q.toNatClampNeg * componentBytes type > e.platform.maxHeapBytes)
    (hdf : fits type (defaultValue type) = true) (hdd : (defaultValue type).isDefault = true)
    (hc : s.heap.size + 1 + n.toNatClampNeg * (1 + m.toNatClampNeg) ≤ e.platform.maxCells) (hs : s.slotsUsed + n.toNatClampNeg + n.toNatClampNeg * (m.toNatClampNeg + m.toNatClampNeg * q.toNatClampNeg) ≤ e.platform.maxSlots)
    {Q : Addr → Pre} (hQ : ∀ d' acts', Q s.heap.size d' acts' (own_g s c c1 c2 n.toNatClampNeg m.toNatClampNeg q.toNatClampNeg (defaultValue type) n.toNatClampNeg)) :
    wp (multianewarray.make c [n, m, q]) Q E e d acts s := by
  have hfind : ([m, q].find? (· < 0)) = none := by simp [hm, hq0]
  rw [multianewarray.make]
  simp only [wp_bind', W.ite, hn, if_false, wp_pure', W.theClass, hk, hkind, Option.some.injEq, exists_eq_left']
  refine wp_newArray hk hkind hl0 hh0 (refFits href _ (Or.inl rfl)) rfl (by omega) (by have := Nat.zero_le (n.toNatClampNeg * (m.toNatClampNeg + m.toNatClampNeg * q.toNatClampNeg)); omega) ?_
  simp only [hfind]
  rw [ite_self, wp_bind', Std.Legacy.Range.forIn_eq_forIn_range']
  have hsz : ([:n.toNatClampNeg] : Std.Legacy.Range).size = n.toNatClampNeg := by simp [Std.Legacy.Range.size]
  rw [hsz]
  show wp (forIn (List.range' 0 n.toNatClampNeg 1) PUnit.unit _) _ E e d acts _
  refine wp_forIn_inv (fun rest s' => ∃ i, i ≤ n.toNatClampNeg ∧ rest = List.range' i (n.toNatClampNeg - i) ∧ s' = own_g s c c1 c2 n.toNatClampNeg m.toNatClampNeg q.toNatClampNeg (defaultValue type) i) _ _ ⟨0, Nat.zero_le _, rfl, rfl⟩ ?_ ?_
  · rintro x rest s' d' acts' Q' ⟨i, hi, hl, rfl⟩ hnext
    have hlt : i < n.toNatClampNeg := by
      rcases Nat.lt_or_ge i n.toNatClampNeg with h | h
      · exact h
      · rw [show n.toNatClampNeg - i = 0 from by omega] at hl; simp at hl
    obtain ⟨rfl, hrest⟩ : x = i ∧ rest = List.range' (i + 1) (n.toNatClampNeg - (i + 1)) := by
      rw [show n.toNatClampNeg - i = (n.toNatClampNeg - (i + 1)) + 1 from by omega, List.range'_succ] at hl
      exact ⟨(List.cons.inj hl).1, (List.cons.inj hl).2⟩
    obtain ⟨f1, f2, f3, f4⟩ := own_g_facts s c c1 c2 n.toNatClampNeg m.toNatClampNeg q.toNatClampNeg (defaultValue type) x
    obtain ⟨o1, o2, o3⟩ := own_o_facts c n.toNatClampNeg m.toNatClampNeg s.heap.size x
    have hm1 : x * (1 + m.toNatClampNeg) + (1 + m.toNatClampNeg) ≤ n.toNatClampNeg * (1 + m.toNatClampNeg) := by
      have := Nat.mul_le_mul_right (1 + m.toNatClampNeg) (show x + 1 ≤ n.toNatClampNeg from hlt)
      rw [Nat.succ_mul] at this; exact this
    have hm2 : x * (m.toNatClampNeg + m.toNatClampNeg * q.toNatClampNeg) + (m.toNatClampNeg + m.toNatClampNeg * q.toNatClampNeg) ≤ n.toNatClampNeg * (m.toNatClampNeg + m.toNatClampNeg * q.toNatClampNeg) := by
      have := Nat.mul_le_mul_right (m.toNatClampNeg + m.toNatClampNeg * q.toNatClampNeg) (show x + 1 ≤ n.toNatClampNeg from hlt)
      rw [Nat.succ_mul] at this; exact this
    simp only [wp_bind']
    refine wp_make2 (k := k1) (kc := k2) (comp := c2) (cc := cc) (t0 := t1) (type := type) (by rw [f3]; exact hk1) hkind1 href1 (by rw [f3]; exact hk2) hkind2 hm hq0 hl1 hh1 hl2 hh2 hdf hdd (by rw [f1]; omega) (by rw [f4]; omega) (fun d2 acts2 => ?_)
    have hlt0 : s.heap.size < (own_g s c c1 c2 n.toNatClampNeg m.toNatClampNeg q.toNatClampNeg (defaultValue type) x).heap.size := by rw [f1]; omega
    simp only [wp_bind', W.writeLoc, wp_pure']
    refine ⟨own_o c n.toNatClampNeg m.toNatClampNeg s.heap.size x, by rw [fill_old _ _ _ _ _ _ hlt0]; exact f2, by rw [o2]; simp, by rw [o3]; exact hlt, ?_, hnext _ _ _ ⟨x + 1, hlt, hrest, ?_⟩⟩
    · rw [o1, o2]
      simp [State.fitsSlot, State.slotType?, (fill_facts _ _ _ _ _ _ _).2.2.1, f3, hk, hkind, refFits href _ (Or.inr ⟨_, rfl⟩)]
    · rw [f1]; rfl
  · rintro s' d' acts' ⟨i, hi, hl, rfl⟩
    have hiN : i = n.toNatClampNeg := by
      rcases Nat.lt_or_ge i n.toNatClampNeg with h | h
      · rw [show n.toNatClampNeg - i = (n.toNatClampNeg - (i + 1)) + 1 from by omega, List.range'_succ] at hl; cases hl
      · omega
    subst hiN
    simp only [wp_pure']
    exact hQ _ _
end Multi3
section Multi3b
open Jvm.Free.Multi
variable {p : Program} {l : Launch} {e : Env} {R : Room} {s : State} {m : MethodId} {args : Array Value} {below : List Frame} {meth : Method} {c : Code} {T : State} {locs : List Loc} {cells slots : Nat} {Z : State} {a0 : Array Value} {h : Heap}
theorem own_gr (X : Stand p l e R s m args below meth c T locs cells slots) (cA c1 c2 : ClassId) (N M K : Nat) (dv : Value) : ∀ i, ∃ L : List Loc, (∀ x ∈ L, T.heap.size ≤ x.base) ∧ Stand p l e R s m args below meth c (own_g T cA c1 c2 N M K dv i) (locs ++ L) (cells + 1 + i * (1 + M)) (slots + N + i * (M + M * K))
  | 0 => ⟨[], by simp, by
    have h := X.pushed (own_o cA N M T.heap.size 0)
    rw [(own_o_facts cA N M T.heap.size 0).2.2] at h
    simpa [own_g] using h⟩
  | i + 1 => by
    obtain ⟨L, hL, Xi⟩ := own_gr X cA c1 c2 N M K dv i
    obtain ⟨f1, f2, f3, f4⟩ := own_g_facts T cA c1 c2 N M K dv i
    have Xf := Xi.filled c1 c2 M K dv M
    have hlt : T.heap.size < (own_g T cA c1 c2 N M K dv i).heap.size := by rw [f1]; omega
    have hcell : (Jvm.Free.Multi.fill (own_g T cA c1 c2 N M K dv i) c1 c2 M K dv M).heap[T.heap.size]? = some (own_o cA N M T.heap.size i) := by rw [fill_old _ _ _ _ _ _ hlt]; exact f2
    have h := Xf.stored hcell i (.ref (T.heap.size + 1 + i * (1 + M)))
    refine ⟨L ++ (List.range M).map (fun j => ⟨(own_g T cA c1 c2 N M K dv i).heap.size, j⟩) ++ [⟨T.heap.size, i⟩], ?_, ?_⟩
    · intro x hx
      simp only [List.mem_append, List.mem_map, List.mem_singleton] at hx
      rcases hx with (hx | ⟨j, -, rfl⟩) | rfl
      · exact hL x hx
      · exact Nat.le_of_lt hlt
      · exact Nat.le_refl _
    · have e1 : cells + 1 + (i + 1) * (1 + M) = cells + 1 + i * (1 + M) + 1 + M := by rw [Nat.succ_mul]; omega
      have e2 : slots + N + (i + 1) * (M + M * K) = slots + N + i * (M + M * K) + M + M * K := by rw [Nat.succ_mul]; omega
      rw [e1, e2, ← List.append_assoc, ← List.append_assoc]
      exact h
theorem own_multi3 (X : Stand p l e R s m args below meth c T locs cells slots) (hx : p.tables.exec = Jvm.exec) (hZ : Z.Warmed39 s.vm) {own : String} {index : Nat} (hown : s.vm.findClass own = some m.cls)
    (w1 : (Cond.classLink own index "[[[D").before a0 Z = true) (w2 : (Cond.arrayOver (.array (.array .double))).before a0 Z = true) (w3 : (Cond.arrayOver (.array .double)).before a0 Z = true) (w4 : (Cond.arrayClass .double).before a0 Z = true) (eT : T.heap = h)
    {g : JFrame} (hg : g.method = m) (hd : decode c.code g.pc = .ok (.multianewarray index 3, 4)) {n m' k : Int32} {rest : List Value} (hs : g.stack = .int k :: .int m' :: .int n :: rest) (hn : ¬ n < 0) (hm : ¬ m' < 0) (hk : ¬ k < 0) {N M K : Nat} (hN : n.toNatClampNeg = N) (hM : m'.toNatClampNeg = M) (hK : k.toNatClampNeg = K) (bN : N ≤ 100) (bM : M ≤ 100) (bK : K ≤ 100)
    (hc : cells + (1 + N * (1 + M)) ≤ R.cells) (hl : slots + (N + N * (M + M * K)) ≤ R.slots) :
    ∃ T' h', Stand p l e R s m args below meth c T' locs (cells + (1 + N * (1 + M))) (slots + (N + N * (M + M * K))) ∧ T'.heap = h' ∧ Ext h h' ∧ h'.size = h.size + 1 + N * (1 + M) ∧
      AV Z h' h.size (.array (.array .double)) N (fun j => .ref (h.size + 1 + j * (1 + M))) ∧ (∀ j, j < N → AV Z h' (h.size + 1 + j * (1 + M)) (.array .double) M (fun q => .ref (h.size + 1 + j * (1 + M) + 1 + q))) ∧ (∀ j q, j < N → q < M → AV Z h' (h.size + 1 + j * (1 + M) + 1 + q) .double K (fun _ => defaultValue .double)) ∧
      ∀ target, Steps p.tables e below (T'.setTop { g with pc := g.pc + 4, stack := .ref h.size :: rest }) target → Steps p.tables e below (T.setTop g) target := by
  subst hg; subst eT; subst hN; subst hM; subst hK
  have v2 : (Cond.arrayOver (.array (.array .double))).before args s = true := arrayOver_alikeB hZ.alike w2
  have v3 : (Cond.arrayOver (.array .double)).before args s = true := arrayOver_alikeB hZ.alike w3
  have v4 : (Cond.arrayClass .double).before args s = true := mvA hZ w4
  have hpl : e.platform.magicAccessors = ({} : Platform).magicAccessors := by rw [X.admits.platform]
  obtain ⟨c1, cA, kA, hc1, hkA, hkindA, hnameA⟩ := Cond.arrayOver_specA v2
  obtain ⟨c2, c1', k1, hc2, hk1, hkind1, hname1⟩ := Cond.arrayOver_specA v3
  obtain ⟨c2', k2, cc, hc2', hk2, hkind2⟩ := Cond.arrayClass_spec v4
  cases (show some c1' = some c1 from hname1.symm.trans hc1)
  cases (show some c2' = some c2 from hc2'.symm.trans hc2)
  obtain ⟨c0, hfc0, hcl⟩ := Cond.classLink_spec hown (show (Cond.classLink own index "[[[D").before args s = true from mv hZ w1) e.platform hpl
  cases (show some cA = some c0 from hnameA.symm.trans hfc0)
  obtain ⟨hg₁, hwarm₁, hready₁⟩ := State.classEntry (e := e) X.warmed hcl
  generalize T.vm.noted g.method.cls index (.cls cA) = vm₁ at hg₁ hwarm₁ hready₁
  have hal : s.vm.Alike vm₁ := hwarm₁.alike
  obtain ⟨kA₁, hkA₁, heA⟩ := hal.2.2 _ _ hkA
  obtain ⟨k1₁, hk1₁, he1⟩ := hal.2.2 _ _ hk1
  obtain ⟨k2₁, hk2₁, he2⟩ := hal.2.2 _ _ hk2
  have kindA₁ : kA₁.kind = .array c1 (.array (.array .double)) := by rw [heA]; exact hkindA
  have kind1₁ : k1₁.kind = .array c2 (.array .double) := by rw [he1]; exact hkind1
  have kind2₁ : k2₁.kind = .array cc .double := by rw [he2]; exact hkind2
  have X₁ := X.noted hwarm₁
  obtain ⟨hr1, hr2⟩ := X.roomAbove hc hl
  obtain ⟨L, hL, XG⟩ := own_gr X₁ cA c1 c2 n.toNatClampNeg m'.toNatClampNeg k.toNatClampNeg (defaultValue .double) n.toNatClampNeg
  have XD := XG.dropFresh (fun x hx => Nat.le_trans X.heapGrown (hL x hx))
  obtain ⟨f1, f2, f3, f4⟩ := own_g_facts (T.setVm vm₁) cA c1 c2 n.toNatClampNeg m'.toNatClampNeg k.toNatClampNeg (defaultValue .double) n.toNatClampNeg
  have back : ∀ {cl : Cell} {t : FieldType}, s.isArrayOf cl t → Z.isArrayOf cl t := fun q => State.isArrayOf_alike (T := Z) hZ.alike.symm q
  have lim : ∀ {x : Nat}, x ≤ 100 → ¬ x > e.platform.arrayLengthLimit := fun hx => by rw [Launch.admits_arrayLengthLimit X.admits]; omega
  have hb4 : ∀ {x : Nat}, x ≤ 100 → ¬ x * 4 > e.platform.maxHeapBytes := fun hx => by rw [Launch.admits_maxHeapBytes X.admits]; omega
  have hb8 : ∀ {x : Nat}, x ≤ 100 → ¬ x * 8 > e.platform.maxHeapBytes := fun hx => by rw [Launch.admits_maxHeapBytes X.admits]; omega
  refine ⟨own_g (T.setVm vm₁) cA c1 c2 n.toNatClampNeg m'.toNatClampNeg k.toNatClampNeg (defaultValue .double) n.toNatClampNeg, _, XD.more (by omega) (by omega), rfl, ext_of fun a ha => own_g_old (T.setVm vm₁) cA c1 c2 _ _ _ _ ha _, f1, ?_, fun j hj => ?_, fun j q hj hq => ?_, fun target hrest => ?_⟩
  · obtain ⟨o1, o2, o3⟩ := own_o_facts cA n.toNatClampNeg m'.toNatClampNeg (T.setVm vm₁).heap.size n.toNatClampNeg
    exact ⟨by omega, _, ⟨f2, back ⟨fun x => by rw [o2]; simp, kA, by rw [o1]; exact hkA, _, hkindA⟩, by rw [o2]; simp⟩, o3, fun j hj => by rw [own_o_slot _ _ _ _ _ _ hj, if_pos hj]; rfl⟩
  · obtain ⟨o1, o2, o3⟩ := outerC_facts c1 m'.toNatClampNeg ((T.setVm vm₁).heap.size + 1 + j * (1 + m'.toNatClampNeg)) m'.toNatClampNeg
    exact ⟨by omega, _, ⟨own_g_row (T.setVm vm₁) cA c1 c2 _ _ _ _ _ j hj, back ⟨fun x => by rw [o2]; simp, k1, by rw [o1]; exact hk1, _, hkind1⟩, by rw [o2]; simp⟩, o3, fun q hq => by rw [outerC_slot _ _ _ _ _ hq, if_pos hq]; rfl⟩
  · exact ⟨by omega, _, ⟨own_g_in (T.setVm vm₁) cA c1 c2 _ _ _ _ _ j q hj hq, back ⟨fun x => by simp [innerC], k2, hk2, cc, hkind2⟩, by simp [innerC]⟩, by simp [innerC], fun i hi => by simp [innerC, hi]⟩
  · jvm_step X.here [hx, hd]
    simp only [multianewarray.sem, wp_bind', W.resolveClassAt_links (State.method?_setTop g X.here.top) hg₁]
    rw [W.popN, if_neg (by decide)]
    refine ⟨g, State.topJava?_setTop' (s := T.setVm vm₁) g X.here.top, [.int n, .int m', .int k], rest, rfl, hs, ?_⟩
    simp only [List.mapM_cons, List.mapM_nil, wp_bind', wp_pure']
    refine own_wp3 (k := kA₁) (k1 := k1₁) (k2 := k2₁) (c1 := c1) (c2 := c2) (cc := cc) (t0 := .array (.array .double)) (t1 := .array .double) (type := .double) hkA₁ kindA₁ rfl hk1₁ kind1₁ rfl hk2₁ kind2₁ hn hm hk (lim bN) (hb4 bN) (lim bM) (hb4 bM) (lim bK) (hb8 bK) rfl rfl (by show T.heap.size + 1 + _ ≤ _; omega) (by show T.slotsUsed + _ + _ ≤ _; omega) (fun d' acts' => ?_)
    have eS : ((T.setTop g).setVm vm₁).setTop { g with stack := rest } = (T.setVm vm₁).setTop { g with stack := rest } := by
      show ((T.setVm vm₁).setTop g).setTop _ = _
      rw [State.setTop_setTop]
    rw [eS, own_g_setTop]
    simp only [wp_bind', W.mark, W.pushRef, State.topJava?_setTop' _ XG.here.top, Option.some.injEq, exists_eq_left', State.setTop_setTop, State.heap_setTop]
    intro acts
    simp [jvm, XG.here.top]
    exact hrest
end Multi3b

/-- a double[2][3][2] laid in one go: its cells stand in a row -/
def Gd (Z : State) (h : Heap) (a : Nat) (f : Nat → Nat → Nat → UInt64) : Prop := AV Z h a (.array (.array .double)) 2 (fun i => .ref (a + 1 + 4 * i)) ∧ (∀ i : Nat, i < 2 → AV Z h (a + 1 + 4 * i) (.array .double) 3 (fun j => .ref (a + 2 + 4 * i + j))) ∧ ∀ i j : Nat, i < 2 → j < 3 → AV Z h (a + 2 + 4 * i + j) .double 2 (fun k => .double (f i j k))
def own_upd (f : Nat → Nat → Nat → UInt64) (i j : Nat) (u : Nat → UInt64) : Nat → Nat → Nat → UInt64 := fun i' j' => if i' = i ∧ j' = j then u else f i' j'
theorem own_na {x y : Nat} (h : ¬ x = y) : @Ne Addr x y := h
section Grid
variable {Z : State} {h h' : Heap} {a : Nat} {f : Nat → Nat → Nat → UInt64}
theorem Gd.top (G : Gd Z h a f) : AV Z h a (.array (.array .double)) 2 (fun i => .ref (a + 1 + 4 * i)) := G.1
theorem Gd.row (G : Gd Z h a f) (i : Nat) (hi : i < 2) : AV Z h (a + 1 + 4 * i) (.array .double) 3 (fun j => .ref (a + 2 + 4 * i + j)) := G.2.1 i hi
theorem Gd.cell (G : Gd Z h a f) (i j : Nat) (hi : i < 2) (hj : j < 3) : AV Z h (a + 2 + 4 * i + j) .double 2 (fun k => .double (f i j k)) := G.2.2 i j hi hj
theorem Gd.ext (G : Gd Z h a f) (E : Ext h h') : Gd Z h' a f := ⟨G.1.ext E, fun i hi => (G.2.1 i hi).ext E, fun i j hi hj => (G.2.2 i j hi hj).ext E⟩
theorem Gd.other (G : Gd Z h a f) {b : Nat} {sl : Nat} {v : Value} (W : Wr h h' b sl v) (q : b < a ∨ a + 1 + 2 * 4 ≤ b) : Gd Z h' a f :=
  ⟨G.1.other W (own_na (by omega)), fun i hi => (G.2.1 i hi).other W (own_na (by omega)), fun i j hi hj => (G.2.2 i j hi hj).other W (own_na (by omega))⟩
theorem Gd.keep (G : Gd Z h a f) {ws : List Nat} (K : Keep h h' ws) (q : ∀ x ∈ ws, x < a ∨ a + 1 + 2 * 4 ≤ x) : Gd Z h' a f :=
  ⟨G.1.keep K (fun hm => by have := q _ hm; omega), fun i hi => (G.2.1 i hi).keep K (fun hm => by have := q _ hm; omega), fun i j hi hj => (G.2.2 i j hi hj).keep K (fun hm => by have := q _ hm; omega)⟩
/-- one cell's array written -/
theorem Gd.set (G : Gd Z h a f) (i j : Nat) (hi : i < 2) (hj : j < 3) {sl : Nat} {v : Value} {u : Nat → UInt64} (W : Wr h h' (a + 2 + 4 * i + j) sl v) (V : AV Z h' (a + 2 + 4 * i + j) .double 2 (fun k => .double (u k))) : Gd Z h' a (own_upd f i j u) := by
  refine ⟨G.1.other W (own_na (by omega)), fun i' hi' => (G.2.1 i' hi').other W (own_na (by omega)), fun i' j' hi' hj' => ?_⟩
  unfold own_upd
  by_cases q : i' = i ∧ j' = j
  · rw [if_pos q]; obtain ⟨rfl, rfl⟩ := q; exact V
  · rw [if_neg q]; exact (G.2.2 i' j' hi' hj').other W (own_na (by omega))
/-- one cell's array written by a call -/
theorem Gd.setK (G : Gd Z h a f) (i j : Nat) (hi : i < 2) (hj : j < 3) {u : Nat → UInt64} (K : Keep h h' [a + 2 + 4 * i + j]) (V : AV Z h' (a + 2 + 4 * i + j) .double 2 (fun k => .double (u k))) : Gd Z h' a (own_upd f i j u) := by
  have ni : ∀ x, x ≠ a + 2 + 4 * i + j → x ∉ [a + 2 + 4 * i + j] := fun x q => by simp; exact q
  refine ⟨G.1.keep K (ni _ (own_na (by omega))), fun i' hi' => (G.2.1 i' hi').keep K (ni _ (own_na (by omega))), fun i' j' hi' hj' => ?_⟩
  unfold own_upd
  by_cases q : i' = i ∧ j' = j
  · rw [if_pos q]; obtain ⟨rfl, rfl⟩ := q; exact V
  · rw [if_neg q]; exact (G.2.2 i' j' hi' hj').keep K (ni _ (own_na (by omega)))
theorem Gd.congr (G : Gd Z h a f) {g : Nat → Nat → Nat → UInt64} (q : ∀ i j k : Nat, i < 2 → j < 3 → k < 2 → f i j k = g i j k) : Gd Z h a g := ⟨G.1, G.2.1, fun i j hi hj => (G.2.2 i j hi hj).congr (fun k hk => by rw [q i j k hi hj hk])⟩
theorem Gd.lt (G : Gd Z h a f) : a + 1 + 2 * 4 ≤ h.size := by
  have q : a + 2 + 4 * 1 + (3 - 1) < h.size := (G.2.2 1 (3 - 1) (by decide) (by decide)).lt
  have e : a + 1 + 2 * 4 = a + 2 + 4 * 1 + (3 - 1) + 1 := by omega
  rw [e]; exact q
end Grid

def own_PC : UInt64 := 4606732058837280358
theorem Gd.new {Z : State} {h' : Heap} {a : Nat} (A0 : AV Z h' a (.array (.array .double)) 2 (fun j => .ref (a + 1 + j * (1 + 3)))) (A1 : ∀ j : Nat, j < 2 → AV Z h' (a + 1 + j * (1 + 3)) (.array .double) 3 (fun q => .ref (a + 1 + j * (1 + 3) + 1 + q))) (A2 : ∀ j q : Nat, j < 2 → q < 3 → AV Z h' (a + 1 + j * (1 + 3) + 1 + q) .double 2 (fun _ => defaultValue .double)) : Gd Z h' a (fun _ _ _ => 0) := by
  refine ⟨A0.congr (fun j _ => ?_), fun i hi => ?_, fun i j hi hj => ?_⟩
  · show Value.ref (a + 1 + j * (1 + 3)) = Value.ref (a + 1 + 4 * j)
    rw [show a + 1 + j * (1 + 3) = a + 1 + 4 * j from by omega]
  · have q := A1 i hi
    rw [show a + 1 + i * (1 + 3) = a + 1 + 4 * i from by omega] at q
    refine q.congr (fun j _ => ?_)
    show Value.ref (a + 1 + 4 * i + 1 + j) = Value.ref (a + 2 + 4 * i + j)
    rw [show a + 1 + 4 * i + 1 + j = a + 2 + 4 * i + j from by omega]
  · have q := A2 i j hi hj
    rw [show a + 1 + i * (1 + 3) + 1 + j = a + 2 + 4 * i + j from by omega] at q
    exact q
/-- the cells before c hold d -/
def own_rs (f : Nat → Nat → Nat → UInt64) (d : UInt64) (c : Nat) : Nat → Nat → Nat → UInt64 := fun i j k => if 3 * i + j < c then d else f i j k
theorem own_rs_step {f : Nat → Nat → Nat → UInt64} {d : UInt64} {c i0 j0 : Nat} (h : 3 * i0 + j0 = c) (hj0 : j0 < 3) : ∀ i j k : Nat, i < 2 → j < 3 → k < 2 → own_upd (own_rs f d c) i0 j0 (fun _ => d) i j k = own_rs f d (c + 1) i j k := by
  intro i j k hi hj hk
  unfold own_upd own_rs
  by_cases q : i = i0 ∧ j = j0
  · rw [if_pos q, if_pos (by omega)]
  · rw [if_neg q]
    by_cases r : 3 * i + j < c
    · rw [if_pos r, if_pos (by omega)]
    · rw [if_neg r, if_neg (by omega)]
theorem own_rs_end {f : Nat → Nat → Nat → UInt64} {d : UInt64} : ∀ i j k : Nat, i < 2 → j < 3 → k < 2 → own_rs f d (2 * 3) i j k = d := by
  intro i j k hi hj hk
  unfold own_rs; rw [if_pos (by omega)]
def own_vl (f g : Nat → Nat → Nat → UInt64) (c : Nat) : Nat → Nat → Nat → UInt64 := fun i j k => if 6 * i + 2 * j + k < c then FP.dadd (FP.dmul 4606732058837280358 (f i j k)) (g i j k) else f i j k
def own_dp (g : Nat → Nat → Nat → UInt64) (c : Nat) : Nat → Nat → Nat → UInt64 := fun i j k => if 6 * i + 2 * j + k < c then FP.dconst0 else g i j k
theorem own_vl_step {f g : Nat → Nat → Nat → UInt64} {c i0 j0 k0 : Nat} {v : UInt64} (h : 6 * i0 + 2 * j0 + k0 = c) (hj0 : j0 < 3) (hk0 : k0 < 2) (hv : v = FP.dadd (FP.dmul 4606732058837280358 (f i0 j0 k0)) (g i0 j0 k0)) : ∀ i j k : Nat, i < 2 → j < 3 → k < 2 → own_upd (own_vl f g c) i0 j0 (up (own_vl f g c i0 j0) k0 v) i j k = own_vl f g (c + 1) i j k := by
  intro i j k hi hj hk
  unfold own_upd up own_vl
  by_cases q : i = i0 ∧ j = j0
  · rw [if_pos q]
    obtain ⟨rfl, rfl⟩ := q
    by_cases r : k = k0
    · rw [if_pos r, hv, if_pos (by omega), r]
    · rw [if_neg r]
      by_cases t : 6 * i + 2 * j + k < c
      · rw [if_pos t, if_pos (by omega)]
      · rw [if_neg t, if_neg (by omega)]
  · rw [if_neg q]
    by_cases t : 6 * i + 2 * j + k < c
    · rw [if_pos t, if_pos (by omega)]
    · rw [if_neg t, if_neg (by omega)]
theorem own_dp_step {g : Nat → Nat → Nat → UInt64} {c i0 j0 k0 : Nat} (h : 6 * i0 + 2 * j0 + k0 = c) (hj0 : j0 < 3) (hk0 : k0 < 2) : ∀ i j k : Nat, i < 2 → j < 3 → k < 2 → own_upd (own_dp g c) i0 j0 (up (own_dp g c i0 j0) k0 FP.dconst0) i j k = own_dp g (c + 1) i j k := by
  intro i j k hi hj hk
  unfold own_upd up own_dp
  by_cases q : i = i0 ∧ j = j0
  · rw [if_pos q]
    obtain ⟨rfl, rfl⟩ := q
    by_cases r : k = k0
    · rw [if_pos r, if_pos (by omega)]
    · rw [if_neg r]
      by_cases t : 6 * i + 2 * j + k < c
      · rw [if_pos t, if_pos (by omega)]
      · rw [if_neg t, if_neg (by omega)]
  · rw [if_neg q]
    by_cases t : 6 * i + 2 * j + k < c
    · rw [if_pos t, if_pos (by omega)]
    · rw [if_neg t, if_neg (by omega)]
theorem own_vl_end {f g : Nat → Nat → Nat → UInt64} : ∀ i j k : Nat, i < 2 → j < 3 → k < 2 → own_vl f g (2 * 6) i j k = FP.dadd (FP.dmul 4606732058837280358 (f i j k)) (g i j k) := by
  intro i j k hi hj hk
  unfold own_vl; rw [if_pos (by omega)]
theorem own_dp_end {g : Nat → Nat → Nat → UInt64} : ∀ i j k : Nat, i < 2 → j < 3 → k < 2 → own_dp g (2 * 6) i j k = FP.dconst0 := by
  intro i j k hi hj hk
  unfold own_dp; rw [if_pos (by omega)]

theorem own_n {i : Nat} (h : i < 2 ^ 31) : (Int32.ofNat i).toNatClampNeg = i := by simp only [Int32.toNatClampNeg, len_toInt h]; rfl
theorem own_nn {i : Nat} (h : i < 2 ^ 31) : ¬ (Int32.ofNat i) < 0 := by rw [Int32.lt_iff_toInt_lt, len_toInt h]; show ¬ ((i : Int) < 0); omega
theorem own_nlt {i n : Nat} (h : n < 2 ^ 31) (q : i < n) : (Int32.ofNat i) < (Int32.ofNat n) := by rw [Int32.lt_iff_toInt_lt, len_toInt h, len_toInt (by omega)]; omega
theorem own_nge {n : Nat} : ¬ (Int32.ofNat n) < (Int32.ofNat n) := by rw [Int32.lt_iff_toInt_lt]; omega
theorem own_ns {i : Nat} : (Int32.ofNat i) + (1 : Int32) = Int32.ofNat (i + 1) := by rw [show (1 : Int32) = Int32.ofNat 1 from rfl, ← Int32.ofNat_add]
theorem d4_6 : DC B4 6 (.iload_n 3) 1 := by decide +kernel
theorem d4_7 : DC B4 7 (.iload 4) 2 := by decide +kernel
theorem d4_9 : DC B4 9 (.if_icmp .ge 13) 3 := by decide +kernel
theorem d4_12 : DC B4 12 (.aload_n 0) 1 := by decide +kernel
theorem d4_13 : DC B4 13 (.iload_n 3) 1 := by decide +kernel
theorem d4_14 : DC B4 14 (.dload_n 1) 1 := by decide +kernel
theorem d4_15 : DC B4 15 (.dastore) 1 := by decide +kernel
theorem d4_16 : DC B4 16 (.iinc 3 1) 3 := by decide +kernel
theorem d4_19 : DC B4 19 (.goto (-13)) 3 := by decide +kernel
theorem lp4 {p : Program} {l : Launch} {e : Env} {R : Room} {s : State} {m : MethodId} {args : Array Value} {below : List Frame} {meth : Method} {c : Code} {cells0 slots0 : Nat} {P : Outcome → State → Prop} {Z : State} (hx : p.tables.exec = Jvm.exec) (hby : c.code = jdk_65_method_113_code) (hZ : Z.Warmed39 s.vm) (o0 : Addr) (d1 : UInt64) (nW : Nat) (h31 : nW < 2 ^ 31) (n0 : Nat) (g0 : n0 ≤ o0) (hs : Heap) (hk : ∀ T h locs Ls, Stand p l e R s m args below meth c T locs cells0 slots0 → T.heap = h → Fr n0 locs → n0 ≤ h.size → Keep hs h [o0] → AV Z h o0 .double nW (fun _ => .double d1) → Go p e below P (T.setTop (mkF m 22 Ls []))) :
    ∀ (k i : Nat) (fF : Nat → UInt64) (T0 : State) (h0 : Heap) (locs0 : List Loc), i + k = nW → (∀ j, j < i → fF j = d1) → Stand p l e R s m args below meth c T0 locs0 cells0 slots0 → T0.heap = h0 → Fr n0 locs0 → n0 ≤ h0.size → Keep hs h0 [o0] → AV Z h0 o0 .double nW (fun k => .double (fF k)) → Go p e below P (T0.setTop (mkF m 6 #[.val (.ref o0), .val (.double d1), .second, .val (.int (Int32.ofNat i)), .val (.int (Int32.ofNat nW))] [])) := by
  intro k
  induction k with
  | zero =>
    intro i fF T0 h0 locs0 hik hf X0 e0 N0 Z0 hK V0
    obtain rfl : i = nW := by omega
    show Go p e below _ (T0.setTop (mkF m 6 #[sR o0, .val (.double d1), .second, sI (Int32.ofNat i), sI (Int32.ofNat i)] []))
    refine Vi (T0.setTop (mkF m 22 #[sR o0, .val (.double d1), .second, sI (Int32.ofNat i), sI (Int32.ofNat i)] [])) (fun tZ kZ => ?_) ?_
    · refine XS.iloadN X0.here hx rfl (hb hby d4_6) rfl ?_
      refine XS.iload X0.here hx rfl (hb hby d4_7) rfl ?_
      refine XS.icmpYes X0.here hx rfl (pc0 := 9) (pc' := 22) rfl (hb hby d4_9) rfl (flt own_nge).2.1 (by decide) (by decide) ?_
      exact kZ
    exact hk _ _ _ _ X0 e0 N0 Z0 hK (V0.congr fun j hj => by rw [hf j (by omega)])
  | succ k ih =>
    intro i fF T0 h0 locs0 hik hf X0 e0 N0 Z0 hK V0
    show Go p e below _ (T0.setTop (mkF m 6 #[sR o0, .val (.double d1), .second, sI (Int32.ofNat i), sI (Int32.ofNat nW)] []))
    refine Vi (T0.setTop (mkF m 15 #[sR o0, .val (.double d1), .second, sI (Int32.ofNat i), sI (Int32.ofNat nW)] [(.double d1), (.int (Int32.ofNat i)), (.ref o0)])) (fun tZ kZ => ?_) ?_
    · refine XS.iloadN X0.here hx rfl (hb hby d4_6) rfl ?_
      refine XS.iload X0.here hx rfl (hb hby d4_7) rfl ?_
      refine XS.icmpNo X0.here hx rfl (hb hby d4_9) rfl (tlt (own_nlt h31 (by omega))).2.1 ?_
      refine XS.aloadN X0.here hx rfl (hb hby d4_12) rfl rfl ?_
      refine XS.iloadN X0.here hx rfl (hb hby d4_13) rfl ?_
      refine XS.dloadN X0.here hx rfl (hb hby d4_14) rfl ?_
      exact kZ
    obtain ⟨T1, h1, X1, e1, W1, V1, st1⟩ := AV.dastore V0 X0 hx hZ e0 (j := (Int32.ofNat i)) ⟨own_nn (by omega), by rw [own_n (by omega)]; omega⟩ (Ls := #[sR o0, .val (.double d1), .second, sI (Int32.ofNat i), sI (Int32.ofNat nW)]) (rest := []) (hb hby d4_15) (x := d1)
    have N1 := Fr.snoc X1 N0 g0
    have K1 : Keep h0 h1 [o0] := (Keep.refl h0 [o0]).wr W1 (Or.inl (by simp))
    have Z1 := Nat.le_trans Z0 (Keep.of_wr W1).1
    refine Go.via st1 ?_
    refine Vi (T1.setTop (mkF m 6 #[sR o0, .val (.double d1), .second, sI ((Int32.ofNat i) + (1 : Int32)), sI (Int32.ofNat nW)] [])) (fun tZ kZ => ?_) ?_
    · refine XS.iinc X1.here hx rfl (hb hby d4_16) rfl (l' := #[sR o0, .val (.double d1), .second, sI ((Int32.ofNat i) + (1 : Int32)), sI (Int32.ofNat nW)]) rfl ?_
      refine XS.goto X1.here hx rfl (pc0 := 19) (pc' := 6) rfl (hb hby d4_19) (by decide) (by decide) ?_
      exact kZ
    rw [own_ns]
    exact ih (i + 1) _ _ _ _ (by omega) (fun j hj => by unfold up; rw [own_n (by omega)]; split; rfl; exact hf j (by omega)) X1 e1 N1 Z1 (hK.trans K1 (allS (Or.inl (by simp)) all0)) V1
theorem d4_0 : DC B4 0 (.iconst 0) 1 := by decide +kernel
theorem d4_1 : DC B4 1 (.istore_n 3) 1 := by decide +kernel
theorem d4_2 : DC B4 2 (.aload_n 0) 1 := by decide +kernel
theorem d4_3 : DC B4 3 (.arraylength) 1 := by decide +kernel
theorem d4_4 : DC B4 4 (.istore 4) 2 := by decide +kernel
theorem d4_22 : DC B4 22 (.return_) 1 := by decide +kernel
def Q4 (Z : State) (o0 : Nat) (d1 : UInt64) (nW : Nat) (fF : Nat → UInt64) (h0 : Heap) (n0 : Nat) (v : Option Value) (h : Heap) (L : List Loc) : Prop := v = none ∧ Fr n0 L ∧ Keep h0 h [o0] ∧ AV Z h o0 .double nW (fun k => .double ((fun _ => d1) k))
abbrev RM_0_0_0_0 : Room := { frames := 0, cells := 0, slots := 0, locals := 0 }
theorem pn_0 : plainName "java/util/Arrays" = true := by first | (simp [plainName, overriddenIn]; done) | decide +kernel
theorem ef_4_aa (m : MethodId) (x0 : Nat) (x1 : UInt64) : entryFrame m #[(.ref x0), (.double x1)] 5 = mkF m 0 #[.val (.ref x0), .val (.double x1), .second, .unset, .unset] [] := by first | (simp [entryFrame, mkF, argsToLocals, Value.category]; done) | rfl
theorem rm4 (l : Launch) (Z : State) (a0 : Array Value) (hw : HW a0 Z) (ws : List Jvm.Cond) (o0 : Nat) (d1 : UInt64) (nW : Nat) (fF : Nat → UInt64) (h0 : Heap) (n0 : Nat) (Z0 : n0 ≤ h0.size) (ha0 : AV Z h0 o0 .double nW (fun k => .double (fF k))) (ha1 : n0 ≤ o0) :
    MetFree l y4 (head1 (Jvm.Cond.code y4 jdk_65_method_113_code 5 none :: ws) RM_0_0_0_0) (fun a U => a = #[(.ref o0), (.double d1)] ∧ Z.Warmed39 U.vm ∧ U.heap = h0) (fun _ _ _ _ _ => True) (fun _ U o U' => ∃ v L, o = .returned v ∧ Q4 Z o0 d1 nW fF h0 n0 v U'.heap L ∧ FrameEnd U o U' L RM_0_0_0_0.cells RM_0_0_0_0.slots) := by
  refine MetFree.of_bodySF (plainFor_of_name pn_0) hisR ?_
  intro p e s m args below meth c s₁ Bd hml0 hP hK
  obtain ⟨rfl, hZ, hh⟩ := hP
  have hx := Bd.exec
  have hby := Bd.bytes
  have hml : c.maxLocals = 5 := hml0
  have hown : s.vm.findClass "java/util/Arrays" = some m.cls := findClass_of_methodNamed Bd.named
  have X0 : Stand p l e RM_0_0_0_0 s m _ below meth c s₁ [] 0 0 := Stand.of_body Bd
  have e0 : s₁.heap = h0 := by rw [← hh, Bd.state]; rfl
  have N0 := Fr.nil n0
  refine Go.into (P := fun oo uu => ∃ v L, oo = .returned v ∧ Q4 Z o0 d1 nW fF h0 n0 v uu.heap L ∧ FrameEnd s oo uu L RM_0_0_0_0.cells RM_0_0_0_0.slots) (ef_4_aa m o0 d1) ?_
  show Go p e below _ (s₁.setTop (mkF m 0 #[sR o0, .val (.double d1), .second, .unset, .unset] []))
  refine Vi (s₁.setTop (mkF m 6 #[sR o0, .val (.double d1), .second, sI 0, sI (Int32.ofNat nW)] [])) (fun tZ kZ => ?_) ?_
  · refine XS.iconst X0.here hx rfl (hb hby d4_0) ?_
    refine XS.istoreN X0.here hx rfl (hb hby d4_1) rfl (l' := #[sR o0, .val (.double d1), .second, sI 0, .unset]) rfl ?_
    refine XS.aloadN X0.here hx rfl (hb hby d4_2) rfl rfl ?_
    refine AV.len ha0 X0 hx hZ e0 (hb hby d4_3) ?_
    refine XS.istore X0.here hx rfl (hb hby d4_4) rfl (l' := #[sR o0, .val (.double d1), .second, sI 0, sI (Int32.ofNat nW)]) rfl ?_
    exact kZ
  refine lp4 hx hby hZ o0 d1 nW ha0.1 n0 ha1 h0 ?_ nW 0 fF _ _ _ (by omega) (fun j hj => absurd hj (Nat.not_lt_zero j)) X0 e0 N0 Z0 (Keep.refl h0 [o0]) ha0
  intro T h locs Ls XT eT NT ZT KT VT
  refine Go.retV XT hx Bd.notSynchronized Bd.returns (hb hby d4_22) (by decide) (by decide) ?_
  rw [eT]
  exact ⟨rfl, NT, KT, VT⟩
theorem own_rs_0 {f : Nat → Nat → Nat → UInt64} {d : UInt64} : ∀ i j k : Nat, i < 2 → j < 3 → k < 2 → f i j k = own_rs f d 0 i j k := by
  intro i j k hi hj hk
  unfold own_rs; rw [if_neg (by omega)]
theorem own_vl_0 {f g : Nat → Nat → Nat → UInt64} : ∀ i j k : Nat, i < 2 → j < 3 → k < 2 → f i j k = own_vl f g 0 i j k := by
  intro i j k hi hj hk
  unfold own_vl; rw [if_neg (by omega)]
theorem own_dp_0 {g : Nat → Nat → Nat → UInt64} : ∀ i j k : Nat, i < 2 → j < 3 → k < 2 → g i j k = own_dp g 0 i j k := by
  intro i j k hi hj hk
  unfold own_dp; rw [if_neg (by omega)]
theorem d3_0 : DC B3 0 (.aload_n 0) 1 := by decide +kernel
theorem d3_1 : DC B3 1 (.getfield 15) 3 := by decide +kernel
theorem d3_4 : DC B3 4 (.astore_n 1) 1 := by decide +kernel
theorem d3_5 : DC B3 5 (.aload_n 1) 1 := by decide +kernel
theorem d3_6 : DC B3 6 (.arraylength) 1 := by decide +kernel
theorem d3_7 : DC B3 7 (.istore_n 2) 1 := by decide +kernel
theorem d3_8 : DC B3 8 (.iconst 0) 1 := by decide +kernel
theorem d3_9 : DC B3 9 (.istore_n 3) 1 := by decide +kernel
theorem d3_10 : DC B3 10 (.iload_n 3) 1 := by decide +kernel
theorem d3_11 : DC B3 11 (.iload_n 2) 1 := by decide +kernel
theorem d3_12 : DC B3 12 (.if_icmp .ge 55) 3 := by decide +kernel
theorem d3_15 : DC B3 15 (.aload_n 1) 1 := by decide +kernel
theorem d3_16 : DC B3 16 (.iload_n 3) 1 := by decide +kernel
theorem d3_17 : DC B3 17 (.aaload) 1 := by decide +kernel
theorem d3_18 : DC B3 18 (.astore 4) 2 := by decide +kernel
theorem d3_20 : DC B3 20 (.aload 4) 2 := by decide +kernel
theorem d3_22 : DC B3 22 (.astore 5) 2 := by decide +kernel
theorem d3_24 : DC B3 24 (.aload 5) 2 := by decide +kernel
theorem d3_26 : DC B3 26 (.arraylength) 1 := by decide +kernel
theorem d3_27 : DC B3 27 (.istore 6) 2 := by decide +kernel
theorem d3_29 : DC B3 29 (.iconst 0) 1 := by decide +kernel
theorem d3_30 : DC B3 30 (.istore 7) 2 := by decide +kernel
theorem d3_32 : DC B3 32 (.iload 7) 2 := by decide +kernel
theorem d3_34 : DC B3 34 (.iload 6) 2 := by decide +kernel
theorem d3_36 : DC B3 36 (.if_icmp .ge 25) 3 := by decide +kernel
theorem d3_39 : DC B3 39 (.aload 5) 2 := by decide +kernel
theorem d3_41 : DC B3 41 (.iload 7) 2 := by decide +kernel
theorem d3_43 : DC B3 43 (.aaload) 1 := by decide +kernel
theorem d3_44 : DC B3 44 (.astore 8) 2 := by decide +kernel
theorem d3_46 : DC B3 46 (.aload 8) 2 := by decide +kernel
theorem d3_48 : DC B3 48 (.aload_n 0) 1 := by decide +kernel
theorem d3_49 : DC B3 49 (.getfield 7) 3 := by decide +kernel
theorem pd_2 : parseMethodDescriptor "([DD)V" = some ⟨[(.array .double), .double], none⟩ := by decide +kernel
theorem d3_52 : DC B3 52 (.invokestatic 24) 3 := by decide +kernel
theorem d3_55 : DC B3 55 (.iinc 7 1) 3 := by decide +kernel
theorem d3_58 : DC B3 58 (.goto (-26)) 3 := by decide +kernel
theorem d3_61 : DC B3 61 (.iinc 3 1) 3 := by decide +kernel
theorem d3_64 : DC B3 64 (.goto (-54)) 3 := by decide +kernel
theorem d3_67 : DC B3 67 (.return_) 1 := by decide +kernel
def Q3 (Z : State) (o0 : Nat) (dI : UInt64) (vA : Nat) (f : Nat → Nat → Nat → UInt64) (h0 : Heap) (n0 : Nat) (v : Option Value) (h : Heap) (L : List Loc) : Prop := v = none ∧ Fr n0 L ∧ Keep h0 h [(vA + 2 + 4 * 0 + 0), (vA + 2 + 4 * 0 + 1), (vA + 2 + 4 * 0 + 2), (vA + 2 + 4 * 1 + 0), (vA + 2 + 4 * 1 + 1), (vA + 2 + 4 * 1 + 2)] ∧ Exa Z h o0 "com/example/muster/muster/solvers/Pheromone" ∧ Fld Z h o0 "com/example/muster/muster/solvers/Pheromone" "initial" "D" (.double dI) ∧ Fld Z h o0 "com/example/muster/muster/solvers/Pheromone" "value" "[[[D" (.ref vA) ∧ Gd Z h vA (fun _ _ _ => dI)
abbrev RM_1_0_0_16 : Room := { frames := 1, cells := 0, slots := 0, locals := 16 }
theorem pn_1 : plainName "com/example/muster/muster/solvers/Pheromone" = true := by first | (simp [plainName, overriddenIn]; done) | decide +kernel
theorem ef_3_a (m : MethodId) (x0 : Nat) : entryFrame m #[(.ref x0)] 9 = mkF m 0 #[.val (.ref x0), .unset, .unset, .unset, .unset, .unset, .unset, .unset, .unset] [] := by first | (simp [entryFrame, mkF, argsToLocals, Value.category]; done) | rfl
theorem rm3 (l : Launch) (Z : State) (a0 : Array Value) (hw : HW a0 Z) (ws : List Jvm.Cond) (o0 : Nat) (dI : UInt64) (vA : Nat) (f : Nat → Nat → Nat → UInt64) (h0 : Heap) (n0 : Nat) (Z0 : n0 ≤ h0.size) (ha0 : Exa Z h0 o0 "com/example/muster/muster/solvers/Pheromone") (ha1 : Fld Z h0 o0 "com/example/muster/muster/solvers/Pheromone" "initial" "D" (.double dI)) (ha2 : Fld Z h0 o0 "com/example/muster/muster/solvers/Pheromone" "value" "[[[D" (.ref vA)) (ha3 : Gd Z h0 vA f) (ha4 : n0 ≤ vA) (hov : o0 < vA ∨ vA + 9 ≤ o0) :
    MetFree l y3 (head1 (Jvm.Cond.code y3 prog_48_method_2_code 9 none :: ws) RM_1_0_0_16) (fun a U => a = #[(.ref o0)] ∧ Z.Warmed39 U.vm ∧ U.heap = h0) (fun _ _ _ _ _ => True) (fun _ U o U' => ∃ v L, o = .returned v ∧ Q3 Z o0 dI vA f h0 n0 v U'.heap L ∧ FrameEnd U o U' L RM_1_0_0_16.cells RM_1_0_0_16.slots) := by
  refine MetFree.of_bodySF (plainFor_of_name pn_1) hisR ?_
  intro p e s m args below meth c s₁ Bd hml0 hP hK
  obtain ⟨rfl, hZ, hh⟩ := hP
  have hx := Bd.exec
  have hby := Bd.bytes
  have hml : c.maxLocals = 9 := hml0
  have hown : s.vm.findClass "com/example/muster/muster/solvers/Pheromone" = some m.cls := findClass_of_methodNamed Bd.named
  have X0 : Stand p l e RM_1_0_0_16 s m _ below meth c s₁ [] 0 0 := Stand.of_body Bd
  have e0 : s₁.heap = h0 := by rw [← hh, Bd.state]; rfl
  have N0 := Fr.nil n0
  refine Go.into (P := fun oo uu => ∃ v L, oo = .returned v ∧ Q3 Z o0 dI vA f h0 n0 v uu.heap L ∧ FrameEnd s oo uu L RM_1_0_0_16.cells RM_1_0_0_16.slots) (ef_3_a m o0) ?_
  show Go p e below _ (s₁.setTop (mkF m 0 #[sR o0, .unset, .unset, .unset, .unset, .unset, .unset, .unset, .unset] []))
  have G0 : Gd Z h0 vA (own_rs f dI 0) := ha3.congr own_rs_0
  refine Vi (s₁.setTop (mkF m 1 #[sR o0, .unset, .unset, .unset, .unset, .unset, .unset, .unset, .unset] [(.ref o0)])) (fun tZ kZ => ?_) ?_
  · refine XS.aloadN X0.here hx rfl (hb hby d3_0) rfl rfl ?_
    exact kZ
  refine GF X0 hx hZ hown (wq hw 20 rfl) e0 ha2 (hb hby d3_1) fun T1 X1 e1 => ?_
  refine Vi (T1.setTop (mkF m 49 #[sR o0, sR vA, sI 2, sI 0, sR (vA + 1 + 4 * 0), sR (vA + 1 + 4 * 0), sI 3, sI 0, sR (vA + 2 + 4 * 0 + 0)] [(.ref o0), (.ref (vA + 2 + 4 * 0 + 0))])) (fun tZ kZ => ?_) ?_
  · refine XS.astoreN X1.here hx rfl (hb hby d3_4) rfl rfl (l' := #[sR o0, sR vA, .unset, .unset, .unset, .unset, .unset, .unset, .unset]) rfl ?_
    refine XS.aloadN X1.here hx rfl (hb hby d3_5) rfl rfl ?_
    refine AV.len G0.top X1 hx hZ e1 (hb hby d3_6) ?_
    refine XS.istoreN X1.here hx rfl (hb hby d3_7) rfl (l' := #[sR o0, sR vA, sI 2, .unset, .unset, .unset, .unset, .unset, .unset]) rfl ?_
    refine XS.iconst X1.here hx rfl (hb hby d3_8) ?_
    refine XS.istoreN X1.here hx rfl (hb hby d3_9) rfl (l' := #[sR o0, sR vA, sI 2, sI 0, .unset, .unset, .unset, .unset, .unset]) rfl ?_
    refine XS.iloadN X1.here hx rfl (hb hby d3_10) rfl ?_
    refine XS.iloadN X1.here hx rfl (hb hby d3_11) rfl ?_
    refine XS.icmpNo X1.here hx rfl (hb hby d3_12) rfl (tlt (by decide)).2.1 ?_
    refine XS.aloadN X1.here hx rfl (hb hby d3_15) rfl rfl ?_
    refine XS.iloadN X1.here hx rfl (hb hby d3_16) rfl ?_
    refine AV.aaload G0.top rfl X1 hx hZ e1 (j := (0 : Int32)) (by decide) (hb hby d3_17) ?_
    refine XS.astore X1.here hx rfl (hb hby d3_18) rfl rfl (l' := #[sR o0, sR vA, sI 2, sI 0, sR (vA + 1 + 4 * 0), .unset, .unset, .unset, .unset]) rfl ?_
    refine XS.aload X1.here hx rfl (hb hby d3_20) rfl rfl ?_
    refine XS.astore X1.here hx rfl (hb hby d3_22) rfl rfl (l' := #[sR o0, sR vA, sI 2, sI 0, sR (vA + 1 + 4 * 0), sR (vA + 1 + 4 * 0), .unset, .unset, .unset]) rfl ?_
    refine XS.aload X1.here hx rfl (hb hby d3_24) rfl rfl ?_
    refine AV.len (G0.row 0 (by decide)) X1 hx hZ e1 (hb hby d3_26) ?_
    refine XS.istore X1.here hx rfl (hb hby d3_27) rfl (l' := #[sR o0, sR vA, sI 2, sI 0, sR (vA + 1 + 4 * 0), sR (vA + 1 + 4 * 0), sI 3, .unset, .unset]) rfl ?_
    refine XS.iconst X1.here hx rfl (hb hby d3_29) ?_
    refine XS.istore X1.here hx rfl (hb hby d3_30) rfl (l' := #[sR o0, sR vA, sI 2, sI 0, sR (vA + 1 + 4 * 0), sR (vA + 1 + 4 * 0), sI 3, sI 0, .unset]) rfl ?_
    refine XS.iload X1.here hx rfl (hb hby d3_32) rfl ?_
    refine XS.iload X1.here hx rfl (hb hby d3_34) rfl ?_
    refine XS.icmpNo X1.here hx rfl (hb hby d3_36) rfl (tlt (by decide)).2.1 ?_
    refine XS.aload X1.here hx rfl (hb hby d3_39) rfl rfl ?_
    refine XS.iload X1.here hx rfl (hb hby d3_41) rfl ?_
    refine AV.aaload (G0.row 0 (by decide)) rfl X1 hx hZ e1 (j := (0 : Int32)) (by decide) (hb hby d3_43) ?_
    refine XS.astore X1.here hx rfl (hb hby d3_44) rfl rfl (l' := #[sR o0, sR vA, sI 2, sI 0, sR (vA + 1 + 4 * 0), sR (vA + 1 + 4 * 0), sI 3, sI 0, sR (vA + 2 + 4 * 0 + 0)]) rfl ?_
    refine XS.aload X1.here hx rfl (hb hby d3_46) rfl rfl ?_
    refine XS.aloadN X1.here hx rfl (hb hby d3_48) rfl rfl ?_
    exact kZ
  refine GF X1 hx hZ hown (wq hw 14 rfl) e1 ha1 (hb hby d3_49) fun T2 X2 e2 => ?_
  obtain ⟨_, _, ⟨T3, L3, k3, n3⟩, -, X3, ⟨Lc3, hQ3, l3, y3, z3⟩, st3⟩ := Jvm.LawKit.callS X2 hx (y := y4) hown (wz hZ hw 29 rfl) (wz hZ hw 30 rfl) (wz hZ hw 31 rfl) (wz hZ hw 32 rfl) (by decide) (backOf (W := 0) (rm4 l Z a0 hw [] (vA + 2 + 4 * 0 + 0) dI 2 ((own_rs f dI 0) 0 0) h0 n0 Z0 (G0.cell 0 0 (by decide) (by decide)) (Nat.le_trans ha4 (show vA ≤ (vA + 2 + 4 * 0 + 0) by omega))) hZ (wq hw 32 rfl) (wq hw 31 rfl) (by decide) (by decide)) (g := (mkF m 52 #[sR o0, sR vA, sI 2, sI 0, sR (vA + 1 + 4 * 0), sR (vA + 1 + 4 * 0), sI 3, sI 0, sR (vA + 2 + 4 * 0 + 0)] [(.double dI), (.ref (vA + 2 + 4 * 0 + 0))])) rfl (by rw [hml]; rfl) (argsL := [(.ref (vA + 2 + 4 * 0 + 0)), (.double dI)]) (rest := []) (lenOf pd_2 rfl) rfl (leW rfl) (hb hby d3_52) (fun _ _ => ⟨rfl, e2, (by decide : 0 + 0 ≤ _), (by decide : 0 + 0 ≤ _)⟩)
  dsimp only [Pt.U, Pt.locs, Pt.cells, Pt.slots] at X3 l3 y3 z3 st3 hQ3
  subst l3 y3 z3
  obtain ⟨rfl, N3q, Kq3, f3_0⟩ := hQ3
  have c4_0 := ha0.keep Kq3
  have c4_1 := ha1.keep Kq3 (ninS (own_na (by omega)) nin0)
  have c4_2 := ha2.keep Kq3 (ninS (own_na (by omega)) nin0)
  have c4_3 := G0
  have K3 : Keep h0 T3.heap [(vA + 2 + 4 * 0 + 0), (vA + 2 + 4 * 0 + 1), (vA + 2 + 4 * 0 + 2), (vA + 2 + 4 * 1 + 0), (vA + 2 + 4 * 1 + 1), (vA + 2 + 4 * 1 + 2)] := (Keep.refl h0 [(vA + 2 + 4 * 0 + 0), (vA + 2 + 4 * 0 + 1), (vA + 2 + 4 * 0 + 2), (vA + 2 + 4 * 1 + 0), (vA + 2 + 4 * 1 + 1), (vA + 2 + 4 * 1 + 2)]).trans Kq3 (allS (Or.inl (by simp)) all0)
  have Z3 := Nat.le_trans Z0 Kq3.1
  have N3 := Fr.app N0 N3q
  refine Go.via st3 ?_
  have Gr3 : Gd Z T3.heap vA (own_rs f dI 1) := (Gd.setK G0 0 0 (by decide) (by decide) Kq3 f3_0).congr (own_rs_step rfl (by decide))
  refine Vi (T3.setTop (mkF m 49 #[sR o0, sR vA, sI 2, sI 0, sR (vA + 1 + 4 * 0), sR (vA + 1 + 4 * 0), sI 3, sI 1, sR (vA + 2 + 4 * 0 + 1)] [(.ref o0), (.ref (vA + 2 + 4 * 0 + 1))])) (fun tZ kZ => ?_) ?_
  · refine XS.iinc X3.here hx rfl (hb hby d3_55) rfl (l' := #[sR o0, sR vA, sI 2, sI 0, sR (vA + 1 + 4 * 0), sR (vA + 1 + 4 * 0), sI 3, sI 1, sR (vA + 2 + 4 * 0 + 0)]) rfl ?_
    refine XS.goto X3.here hx rfl (pc0 := 58) (pc' := 32) rfl (hb hby d3_58) (by decide) (by decide) ?_
    refine XS.iload X3.here hx rfl (hb hby d3_32) rfl ?_
    refine XS.iload X3.here hx rfl (hb hby d3_34) rfl ?_
    refine XS.icmpNo X3.here hx rfl (hb hby d3_36) rfl (tlt (by decide)).2.1 ?_
    refine XS.aload X3.here hx rfl (hb hby d3_39) rfl rfl ?_
    refine XS.iload X3.here hx rfl (hb hby d3_41) rfl ?_
    refine AV.aaload (Gr3.row 0 (by decide)) rfl X3 hx hZ rfl (j := (1 : Int32)) (by decide) (hb hby d3_43) ?_
    refine XS.astore X3.here hx rfl (hb hby d3_44) rfl rfl (l' := #[sR o0, sR vA, sI 2, sI 0, sR (vA + 1 + 4 * 0), sR (vA + 1 + 4 * 0), sI 3, sI 1, sR (vA + 2 + 4 * 0 + 1)]) rfl ?_
    refine XS.aload X3.here hx rfl (hb hby d3_46) rfl rfl ?_
    refine XS.aloadN X3.here hx rfl (hb hby d3_48) rfl rfl ?_
    exact kZ
  refine GF X3 hx hZ hown (wq hw 14 rfl) rfl c4_1 (hb hby d3_49) fun T5 X5 e5 => ?_
  obtain ⟨_, _, ⟨T6, L6, k6, n6⟩, -, X6, ⟨Lc6, hQ6, l6, y6, z6⟩, st6⟩ := Jvm.LawKit.callS X5 hx (y := y4) hown (wz hZ hw 29 rfl) (wz hZ hw 30 rfl) (wz hZ hw 31 rfl) (wz hZ hw 32 rfl) (by decide) (backOf (W := 0) (rm4 l Z a0 hw [] (vA + 2 + 4 * 0 + 1) dI 2 ((own_rs f dI 1) 0 1) T3.heap n0 Z3 (Gr3.cell 0 1 (by decide) (by decide)) (Nat.le_trans ha4 (show vA ≤ (vA + 2 + 4 * 0 + 1) by omega))) hZ (wq hw 32 rfl) (wq hw 31 rfl) (by decide) (by decide)) (g := (mkF m 52 #[sR o0, sR vA, sI 2, sI 0, sR (vA + 1 + 4 * 0), sR (vA + 1 + 4 * 0), sI 3, sI 1, sR (vA + 2 + 4 * 0 + 1)] [(.double dI), (.ref (vA + 2 + 4 * 0 + 1))])) rfl (by rw [hml]; rfl) (argsL := [(.ref (vA + 2 + 4 * 0 + 1)), (.double dI)]) (rest := []) (lenOf pd_2 rfl) rfl (leW rfl) (hb hby d3_52) (fun _ _ => ⟨rfl, e5, (by decide : 0 + 0 + 0 ≤ _), (by decide : 0 + 0 + 0 ≤ _)⟩)
  dsimp only [Pt.U, Pt.locs, Pt.cells, Pt.slots] at X6 l6 y6 z6 st6 hQ6
  subst l6 y6 z6
  obtain ⟨rfl, N6q, Kq6, f6_0⟩ := hQ6
  have c7_0 := c4_0.keep Kq6
  have c7_1 := c4_1.keep Kq6 (ninS (own_na (by omega)) nin0)
  have c7_2 := c4_2.keep Kq6 (ninS (own_na (by omega)) nin0)
  have c7_3 := Gr3
  have K6 : Keep h0 T6.heap [(vA + 2 + 4 * 0 + 0), (vA + 2 + 4 * 0 + 1), (vA + 2 + 4 * 0 + 2), (vA + 2 + 4 * 1 + 0), (vA + 2 + 4 * 1 + 1), (vA + 2 + 4 * 1 + 2)] := K3.trans Kq6 (allS (Or.inl (by simp)) all0)
  have Z6 := Nat.le_trans Z3 Kq6.1
  have N6 := Fr.app N3 N6q
  refine Go.via st6 ?_
  have Gr6 : Gd Z T6.heap vA (own_rs f dI 2) := (Gd.setK Gr3 0 1 (by decide) (by decide) Kq6 f6_0).congr (own_rs_step rfl (by decide))
  refine Vi (T6.setTop (mkF m 49 #[sR o0, sR vA, sI 2, sI 0, sR (vA + 1 + 4 * 0), sR (vA + 1 + 4 * 0), sI 3, sI 2, sR (vA + 2 + 4 * 0 + 2)] [(.ref o0), (.ref (vA + 2 + 4 * 0 + 2))])) (fun tZ kZ => ?_) ?_
  · refine XS.iinc X6.here hx rfl (hb hby d3_55) rfl (l' := #[sR o0, sR vA, sI 2, sI 0, sR (vA + 1 + 4 * 0), sR (vA + 1 + 4 * 0), sI 3, sI 2, sR (vA + 2 + 4 * 0 + 1)]) rfl ?_
    refine XS.goto X6.here hx rfl (pc0 := 58) (pc' := 32) rfl (hb hby d3_58) (by decide) (by decide) ?_
    refine XS.iload X6.here hx rfl (hb hby d3_32) rfl ?_
    refine XS.iload X6.here hx rfl (hb hby d3_34) rfl ?_
    refine XS.icmpNo X6.here hx rfl (hb hby d3_36) rfl (tlt (by decide)).2.1 ?_
    refine XS.aload X6.here hx rfl (hb hby d3_39) rfl rfl ?_
    refine XS.iload X6.here hx rfl (hb hby d3_41) rfl ?_
    refine AV.aaload (Gr6.row 0 (by decide)) rfl X6 hx hZ rfl (j := (2 : Int32)) (by decide) (hb hby d3_43) ?_
    refine XS.astore X6.here hx rfl (hb hby d3_44) rfl rfl (l' := #[sR o0, sR vA, sI 2, sI 0, sR (vA + 1 + 4 * 0), sR (vA + 1 + 4 * 0), sI 3, sI 2, sR (vA + 2 + 4 * 0 + 2)]) rfl ?_
    refine XS.aload X6.here hx rfl (hb hby d3_46) rfl rfl ?_
    refine XS.aloadN X6.here hx rfl (hb hby d3_48) rfl rfl ?_
    exact kZ
  refine GF X6 hx hZ hown (wq hw 14 rfl) rfl c7_1 (hb hby d3_49) fun T8 X8 e8 => ?_
  obtain ⟨_, _, ⟨T9, L9, k9, n9⟩, -, X9, ⟨Lc9, hQ9, l9, y9, z9⟩, st9⟩ := Jvm.LawKit.callS X8 hx (y := y4) hown (wz hZ hw 29 rfl) (wz hZ hw 30 rfl) (wz hZ hw 31 rfl) (wz hZ hw 32 rfl) (by decide) (backOf (W := 0) (rm4 l Z a0 hw [] (vA + 2 + 4 * 0 + 2) dI 2 ((own_rs f dI 2) 0 2) T6.heap n0 Z6 (Gr6.cell 0 2 (by decide) (by decide)) (Nat.le_trans ha4 (show vA ≤ (vA + 2 + 4 * 0 + 2) by omega))) hZ (wq hw 32 rfl) (wq hw 31 rfl) (by decide) (by decide)) (g := (mkF m 52 #[sR o0, sR vA, sI 2, sI 0, sR (vA + 1 + 4 * 0), sR (vA + 1 + 4 * 0), sI 3, sI 2, sR (vA + 2 + 4 * 0 + 2)] [(.double dI), (.ref (vA + 2 + 4 * 0 + 2))])) rfl (by rw [hml]; rfl) (argsL := [(.ref (vA + 2 + 4 * 0 + 2)), (.double dI)]) (rest := []) (lenOf pd_2 rfl) rfl (leW rfl) (hb hby d3_52) (fun _ _ => ⟨rfl, e8, (by decide : 0 + 0 + 0 + 0 ≤ _), (by decide : 0 + 0 + 0 + 0 ≤ _)⟩)
  dsimp only [Pt.U, Pt.locs, Pt.cells, Pt.slots] at X9 l9 y9 z9 st9 hQ9
  subst l9 y9 z9
  obtain ⟨rfl, N9q, Kq9, f9_0⟩ := hQ9
  have c10_0 := c7_0.keep Kq9
  have c10_1 := c7_1.keep Kq9 (ninS (own_na (by omega)) nin0)
  have c10_2 := c7_2.keep Kq9 (ninS (own_na (by omega)) nin0)
  have c10_3 := Gr6
  have K9 : Keep h0 T9.heap [(vA + 2 + 4 * 0 + 0), (vA + 2 + 4 * 0 + 1), (vA + 2 + 4 * 0 + 2), (vA + 2 + 4 * 1 + 0), (vA + 2 + 4 * 1 + 1), (vA + 2 + 4 * 1 + 2)] := K6.trans Kq9 (allS (Or.inl (by simp)) all0)
  have Z9 := Nat.le_trans Z6 Kq9.1
  have N9 := Fr.app N6 N9q
  refine Go.via st9 ?_
  have Gr9 : Gd Z T9.heap vA (own_rs f dI 3) := (Gd.setK Gr6 0 2 (by decide) (by decide) Kq9 f9_0).congr (own_rs_step rfl (by decide))
  refine Vi (T9.setTop (mkF m 49 #[sR o0, sR vA, sI 2, sI 1, sR (vA + 1 + 4 * 1), sR (vA + 1 + 4 * 1), sI 3, sI 0, sR (vA + 2 + 4 * 1 + 0)] [(.ref o0), (.ref (vA + 2 + 4 * 1 + 0))])) (fun tZ kZ => ?_) ?_
  · refine XS.iinc X9.here hx rfl (hb hby d3_55) rfl (l' := #[sR o0, sR vA, sI 2, sI 0, sR (vA + 1 + 4 * 0), sR (vA + 1 + 4 * 0), sI 3, sI 3, sR (vA + 2 + 4 * 0 + 2)]) rfl ?_
    refine XS.goto X9.here hx rfl (pc0 := 58) (pc' := 32) rfl (hb hby d3_58) (by decide) (by decide) ?_
    refine XS.iload X9.here hx rfl (hb hby d3_32) rfl ?_
    refine XS.iload X9.here hx rfl (hb hby d3_34) rfl ?_
    refine XS.icmpYes X9.here hx rfl (pc0 := 36) (pc' := 61) rfl (hb hby d3_36) rfl (flt (by decide)).2.1 (by decide) (by decide) ?_
    refine XS.iinc X9.here hx rfl (hb hby d3_61) rfl (l' := #[sR o0, sR vA, sI 2, sI 1, sR (vA + 1 + 4 * 0), sR (vA + 1 + 4 * 0), sI 3, sI 3, sR (vA + 2 + 4 * 0 + 2)]) rfl ?_
    refine XS.goto X9.here hx rfl (pc0 := 64) (pc' := 10) rfl (hb hby d3_64) (by decide) (by decide) ?_
    refine XS.iloadN X9.here hx rfl (hb hby d3_10) rfl ?_
    refine XS.iloadN X9.here hx rfl (hb hby d3_11) rfl ?_
    refine XS.icmpNo X9.here hx rfl (hb hby d3_12) rfl (tlt (by decide)).2.1 ?_
    refine XS.aloadN X9.here hx rfl (hb hby d3_15) rfl rfl ?_
    refine XS.iloadN X9.here hx rfl (hb hby d3_16) rfl ?_
    refine AV.aaload Gr9.top rfl X9 hx hZ rfl (j := (1 : Int32)) (by decide) (hb hby d3_17) ?_
    refine XS.astore X9.here hx rfl (hb hby d3_18) rfl rfl (l' := #[sR o0, sR vA, sI 2, sI 1, sR (vA + 1 + 4 * 1), sR (vA + 1 + 4 * 0), sI 3, sI 3, sR (vA + 2 + 4 * 0 + 2)]) rfl ?_
    refine XS.aload X9.here hx rfl (hb hby d3_20) rfl rfl ?_
    refine XS.astore X9.here hx rfl (hb hby d3_22) rfl rfl (l' := #[sR o0, sR vA, sI 2, sI 1, sR (vA + 1 + 4 * 1), sR (vA + 1 + 4 * 1), sI 3, sI 3, sR (vA + 2 + 4 * 0 + 2)]) rfl ?_
    refine XS.aload X9.here hx rfl (hb hby d3_24) rfl rfl ?_
    refine AV.len (Gr9.row 1 (by decide)) X9 hx hZ rfl (hb hby d3_26) ?_
    refine XS.istore X9.here hx rfl (hb hby d3_27) rfl (l' := #[sR o0, sR vA, sI 2, sI 1, sR (vA + 1 + 4 * 1), sR (vA + 1 + 4 * 1), sI 3, sI 3, sR (vA + 2 + 4 * 0 + 2)]) rfl ?_
    refine XS.iconst X9.here hx rfl (hb hby d3_29) ?_
    refine XS.istore X9.here hx rfl (hb hby d3_30) rfl (l' := #[sR o0, sR vA, sI 2, sI 1, sR (vA + 1 + 4 * 1), sR (vA + 1 + 4 * 1), sI 3, sI 0, sR (vA + 2 + 4 * 0 + 2)]) rfl ?_
    refine XS.iload X9.here hx rfl (hb hby d3_32) rfl ?_
    refine XS.iload X9.here hx rfl (hb hby d3_34) rfl ?_
    refine XS.icmpNo X9.here hx rfl (hb hby d3_36) rfl (tlt (by decide)).2.1 ?_
    refine XS.aload X9.here hx rfl (hb hby d3_39) rfl rfl ?_
    refine XS.iload X9.here hx rfl (hb hby d3_41) rfl ?_
    refine AV.aaload (Gr9.row 1 (by decide)) rfl X9 hx hZ rfl (j := (0 : Int32)) (by decide) (hb hby d3_43) ?_
    refine XS.astore X9.here hx rfl (hb hby d3_44) rfl rfl (l' := #[sR o0, sR vA, sI 2, sI 1, sR (vA + 1 + 4 * 1), sR (vA + 1 + 4 * 1), sI 3, sI 0, sR (vA + 2 + 4 * 1 + 0)]) rfl ?_
    refine XS.aload X9.here hx rfl (hb hby d3_46) rfl rfl ?_
    refine XS.aloadN X9.here hx rfl (hb hby d3_48) rfl rfl ?_
    exact kZ
  refine GF X9 hx hZ hown (wq hw 14 rfl) rfl c10_1 (hb hby d3_49) fun T11 X11 e11 => ?_
  obtain ⟨_, _, ⟨T12, L12, k12, n12⟩, -, X12, ⟨Lc12, hQ12, l12, y12, z12⟩, st12⟩ := Jvm.LawKit.callS X11 hx (y := y4) hown (wz hZ hw 29 rfl) (wz hZ hw 30 rfl) (wz hZ hw 31 rfl) (wz hZ hw 32 rfl) (by decide) (backOf (W := 0) (rm4 l Z a0 hw [] (vA + 2 + 4 * 1 + 0) dI 2 ((own_rs f dI 3) 1 0) T9.heap n0 Z9 (Gr9.cell 1 0 (by decide) (by decide)) (Nat.le_trans ha4 (show vA ≤ (vA + 2 + 4 * 1 + 0) by omega))) hZ (wq hw 32 rfl) (wq hw 31 rfl) (by decide) (by decide)) (g := (mkF m 52 #[sR o0, sR vA, sI 2, sI 1, sR (vA + 1 + 4 * 1), sR (vA + 1 + 4 * 1), sI 3, sI 0, sR (vA + 2 + 4 * 1 + 0)] [(.double dI), (.ref (vA + 2 + 4 * 1 + 0))])) rfl (by rw [hml]; rfl) (argsL := [(.ref (vA + 2 + 4 * 1 + 0)), (.double dI)]) (rest := []) (lenOf pd_2 rfl) rfl (leW rfl) (hb hby d3_52) (fun _ _ => ⟨rfl, e11, (by decide : 0 + 0 + 0 + 0 + 0 ≤ _), (by decide : 0 + 0 + 0 + 0 + 0 ≤ _)⟩)
  dsimp only [Pt.U, Pt.locs, Pt.cells, Pt.slots] at X12 l12 y12 z12 st12 hQ12
  subst l12 y12 z12
  obtain ⟨rfl, N12q, Kq12, f12_0⟩ := hQ12
  have c13_0 := c10_0.keep Kq12
  have c13_1 := c10_1.keep Kq12 (ninS (own_na (by omega)) nin0)
  have c13_2 := c10_2.keep Kq12 (ninS (own_na (by omega)) nin0)
  have c13_3 := Gr9
  have K12 : Keep h0 T12.heap [(vA + 2 + 4 * 0 + 0), (vA + 2 + 4 * 0 + 1), (vA + 2 + 4 * 0 + 2), (vA + 2 + 4 * 1 + 0), (vA + 2 + 4 * 1 + 1), (vA + 2 + 4 * 1 + 2)] := K9.trans Kq12 (allS (Or.inl (by simp)) all0)
  have Z12 := Nat.le_trans Z9 Kq12.1
  have N12 := Fr.app N9 N12q
  refine Go.via st12 ?_
  have Gr12 : Gd Z T12.heap vA (own_rs f dI 4) := (Gd.setK Gr9 1 0 (by decide) (by decide) Kq12 f12_0).congr (own_rs_step rfl (by decide))
  refine Vi (T12.setTop (mkF m 49 #[sR o0, sR vA, sI 2, sI 1, sR (vA + 1 + 4 * 1), sR (vA + 1 + 4 * 1), sI 3, sI 1, sR (vA + 2 + 4 * 1 + 1)] [(.ref o0), (.ref (vA + 2 + 4 * 1 + 1))])) (fun tZ kZ => ?_) ?_
  · refine XS.iinc X12.here hx rfl (hb hby d3_55) rfl (l' := #[sR o0, sR vA, sI 2, sI 1, sR (vA + 1 + 4 * 1), sR (vA + 1 + 4 * 1), sI 3, sI 1, sR (vA + 2 + 4 * 1 + 0)]) rfl ?_
    refine XS.goto X12.here hx rfl (pc0 := 58) (pc' := 32) rfl (hb hby d3_58) (by decide) (by decide) ?_
    refine XS.iload X12.here hx rfl (hb hby d3_32) rfl ?_
    refine XS.iload X12.here hx rfl (hb hby d3_34) rfl ?_
    refine XS.icmpNo X12.here hx rfl (hb hby d3_36) rfl (tlt (by decide)).2.1 ?_
    refine XS.aload X12.here hx rfl (hb hby d3_39) rfl rfl ?_
    refine XS.iload X12.here hx rfl (hb hby d3_41) rfl ?_
    refine AV.aaload (Gr12.row 1 (by decide)) rfl X12 hx hZ rfl (j := (1 : Int32)) (by decide) (hb hby d3_43) ?_
    refine XS.astore X12.here hx rfl (hb hby d3_44) rfl rfl (l' := #[sR o0, sR vA, sI 2, sI 1, sR (vA + 1 + 4 * 1), sR (vA + 1 + 4 * 1), sI 3, sI 1, sR (vA + 2 + 4 * 1 + 1)]) rfl ?_
    refine XS.aload X12.here hx rfl (hb hby d3_46) rfl rfl ?_
    refine XS.aloadN X12.here hx rfl (hb hby d3_48) rfl rfl ?_
    exact kZ
  refine GF X12 hx hZ hown (wq hw 14 rfl) rfl c13_1 (hb hby d3_49) fun T14 X14 e14 => ?_
  obtain ⟨_, _, ⟨T15, L15, k15, n15⟩, -, X15, ⟨Lc15, hQ15, l15, y15, z15⟩, st15⟩ := Jvm.LawKit.callS X14 hx (y := y4) hown (wz hZ hw 29 rfl) (wz hZ hw 30 rfl) (wz hZ hw 31 rfl) (wz hZ hw 32 rfl) (by decide) (backOf (W := 0) (rm4 l Z a0 hw [] (vA + 2 + 4 * 1 + 1) dI 2 ((own_rs f dI 4) 1 1) T12.heap n0 Z12 (Gr12.cell 1 1 (by decide) (by decide)) (Nat.le_trans ha4 (show vA ≤ (vA + 2 + 4 * 1 + 1) by omega))) hZ (wq hw 32 rfl) (wq hw 31 rfl) (by decide) (by decide)) (g := (mkF m 52 #[sR o0, sR vA, sI 2, sI 1, sR (vA + 1 + 4 * 1), sR (vA + 1 + 4 * 1), sI 3, sI 1, sR (vA + 2 + 4 * 1 + 1)] [(.double dI), (.ref (vA + 2 + 4 * 1 + 1))])) rfl (by rw [hml]; rfl) (argsL := [(.ref (vA + 2 + 4 * 1 + 1)), (.double dI)]) (rest := []) (lenOf pd_2 rfl) rfl (leW rfl) (hb hby d3_52) (fun _ _ => ⟨rfl, e14, (by decide : 0 + 0 + 0 + 0 + 0 + 0 ≤ _), (by decide : 0 + 0 + 0 + 0 + 0 + 0 ≤ _)⟩)
  dsimp only [Pt.U, Pt.locs, Pt.cells, Pt.slots] at X15 l15 y15 z15 st15 hQ15
  subst l15 y15 z15
  obtain ⟨rfl, N15q, Kq15, f15_0⟩ := hQ15
  have c16_0 := c13_0.keep Kq15
  have c16_1 := c13_1.keep Kq15 (ninS (own_na (by omega)) nin0)
  have c16_2 := c13_2.keep Kq15 (ninS (own_na (by omega)) nin0)
  have c16_3 := Gr12
  have K15 : Keep h0 T15.heap [(vA + 2 + 4 * 0 + 0), (vA + 2 + 4 * 0 + 1), (vA + 2 + 4 * 0 + 2), (vA + 2 + 4 * 1 + 0), (vA + 2 + 4 * 1 + 1), (vA + 2 + 4 * 1 + 2)] := K12.trans Kq15 (allS (Or.inl (by simp)) all0)
  have Z15 := Nat.le_trans Z12 Kq15.1
  have N15 := Fr.app N12 N15q
  refine Go.via st15 ?_
  have Gr15 : Gd Z T15.heap vA (own_rs f dI 5) := (Gd.setK Gr12 1 1 (by decide) (by decide) Kq15 f15_0).congr (own_rs_step rfl (by decide))
  refine Vi (T15.setTop (mkF m 49 #[sR o0, sR vA, sI 2, sI 1, sR (vA + 1 + 4 * 1), sR (vA + 1 + 4 * 1), sI 3, sI 2, sR (vA + 2 + 4 * 1 + 2)] [(.ref o0), (.ref (vA + 2 + 4 * 1 + 2))])) (fun tZ kZ => ?_) ?_
  · refine XS.iinc X15.here hx rfl (hb hby d3_55) rfl (l' := #[sR o0, sR vA, sI 2, sI 1, sR (vA + 1 + 4 * 1), sR (vA + 1 + 4 * 1), sI 3, sI 2, sR (vA + 2 + 4 * 1 + 1)]) rfl ?_
    refine XS.goto X15.here hx rfl (pc0 := 58) (pc' := 32) rfl (hb hby d3_58) (by decide) (by decide) ?_
    refine XS.iload X15.here hx rfl (hb hby d3_32) rfl ?_
    refine XS.iload X15.here hx rfl (hb hby d3_34) rfl ?_
    refine XS.icmpNo X15.here hx rfl (hb hby d3_36) rfl (tlt (by decide)).2.1 ?_
    refine XS.aload X15.here hx rfl (hb hby d3_39) rfl rfl ?_
    refine XS.iload X15.here hx rfl (hb hby d3_41) rfl ?_
    refine AV.aaload (Gr15.row 1 (by decide)) rfl X15 hx hZ rfl (j := (2 : Int32)) (by decide) (hb hby d3_43) ?_
    refine XS.astore X15.here hx rfl (hb hby d3_44) rfl rfl (l' := #[sR o0, sR vA, sI 2, sI 1, sR (vA + 1 + 4 * 1), sR (vA + 1 + 4 * 1), sI 3, sI 2, sR (vA + 2 + 4 * 1 + 2)]) rfl ?_
    refine XS.aload X15.here hx rfl (hb hby d3_46) rfl rfl ?_
    refine XS.aloadN X15.here hx rfl (hb hby d3_48) rfl rfl ?_
    exact kZ
  refine GF X15 hx hZ hown (wq hw 14 rfl) rfl c16_1 (hb hby d3_49) fun T17 X17 e17 => ?_
  obtain ⟨_, _, ⟨T18, L18, k18, n18⟩, -, X18, ⟨Lc18, hQ18, l18, y18, z18⟩, st18⟩ := Jvm.LawKit.callS X17 hx (y := y4) hown (wz hZ hw 29 rfl) (wz hZ hw 30 rfl) (wz hZ hw 31 rfl) (wz hZ hw 32 rfl) (by decide) (backOf (W := 0) (rm4 l Z a0 hw [] (vA + 2 + 4 * 1 + 2) dI 2 ((own_rs f dI 5) 1 2) T15.heap n0 Z15 (Gr15.cell 1 2 (by decide) (by decide)) (Nat.le_trans ha4 (show vA ≤ (vA + 2 + 4 * 1 + 2) by omega))) hZ (wq hw 32 rfl) (wq hw 31 rfl) (by decide) (by decide)) (g := (mkF m 52 #[sR o0, sR vA, sI 2, sI 1, sR (vA + 1 + 4 * 1), sR (vA + 1 + 4 * 1), sI 3, sI 2, sR (vA + 2 + 4 * 1 + 2)] [(.double dI), (.ref (vA + 2 + 4 * 1 + 2))])) rfl (by rw [hml]; rfl) (argsL := [(.ref (vA + 2 + 4 * 1 + 2)), (.double dI)]) (rest := []) (lenOf pd_2 rfl) rfl (leW rfl) (hb hby d3_52) (fun _ _ => ⟨rfl, e17, (by decide : 0 + 0 + 0 + 0 + 0 + 0 + 0 ≤ _), (by decide : 0 + 0 + 0 + 0 + 0 + 0 + 0 ≤ _)⟩)
  dsimp only [Pt.U, Pt.locs, Pt.cells, Pt.slots] at X18 l18 y18 z18 st18 hQ18
  subst l18 y18 z18
  obtain ⟨rfl, N18q, Kq18, f18_0⟩ := hQ18
  have c19_0 := c16_0.keep Kq18
  have c19_1 := c16_1.keep Kq18 (ninS (own_na (by omega)) nin0)
  have c19_2 := c16_2.keep Kq18 (ninS (own_na (by omega)) nin0)
  have c19_3 := Gr15
  have K18 : Keep h0 T18.heap [(vA + 2 + 4 * 0 + 0), (vA + 2 + 4 * 0 + 1), (vA + 2 + 4 * 0 + 2), (vA + 2 + 4 * 1 + 0), (vA + 2 + 4 * 1 + 1), (vA + 2 + 4 * 1 + 2)] := K15.trans Kq18 (allS (Or.inl (by simp)) all0)
  have Z18 := Nat.le_trans Z15 Kq18.1
  have N18 := Fr.app N15 N18q
  refine Go.via st18 ?_
  have Gr18 : Gd Z T18.heap vA (own_rs f dI 6) := (Gd.setK Gr15 1 2 (by decide) (by decide) Kq18 f18_0).congr (own_rs_step rfl (by decide))
  refine Vi (T18.setTop (mkF m 67 #[sR o0, sR vA, sI 2, sI 2, sR (vA + 1 + 4 * 1), sR (vA + 1 + 4 * 1), sI 3, sI 3, sR (vA + 2 + 4 * 1 + 2)] [])) (fun tZ kZ => ?_) ?_
  · refine XS.iinc X18.here hx rfl (hb hby d3_55) rfl (l' := #[sR o0, sR vA, sI 2, sI 1, sR (vA + 1 + 4 * 1), sR (vA + 1 + 4 * 1), sI 3, sI 3, sR (vA + 2 + 4 * 1 + 2)]) rfl ?_
    refine XS.goto X18.here hx rfl (pc0 := 58) (pc' := 32) rfl (hb hby d3_58) (by decide) (by decide) ?_
    refine XS.iload X18.here hx rfl (hb hby d3_32) rfl ?_
    refine XS.iload X18.here hx rfl (hb hby d3_34) rfl ?_
    refine XS.icmpYes X18.here hx rfl (pc0 := 36) (pc' := 61) rfl (hb hby d3_36) rfl (flt (by decide)).2.1 (by decide) (by decide) ?_
    refine XS.iinc X18.here hx rfl (hb hby d3_61) rfl (l' := #[sR o0, sR vA, sI 2, sI 2, sR (vA + 1 + 4 * 1), sR (vA + 1 + 4 * 1), sI 3, sI 3, sR (vA + 2 + 4 * 1 + 2)]) rfl ?_
    refine XS.goto X18.here hx rfl (pc0 := 64) (pc' := 10) rfl (hb hby d3_64) (by decide) (by decide) ?_
    refine XS.iloadN X18.here hx rfl (hb hby d3_10) rfl ?_
    refine XS.iloadN X18.here hx rfl (hb hby d3_11) rfl ?_
    refine XS.icmpYes X18.here hx rfl (pc0 := 12) (pc' := 67) rfl (hb hby d3_12) rfl (flt (by decide)).2.1 (by decide) (by decide) ?_
    exact kZ
  have Ge : Gd Z T18.heap vA (fun _ _ _ => dI) := Gr18.congr own_rs_end
  refine Go.retV X18 hx Bd.notSynchronized Bd.returns (hb hby d3_67) (by decide) (by decide) ?_
  exact ⟨rfl, N18, K18, c19_0, c19_1, c19_2, Ge⟩
def own_b2 (a b : Nat) : Nat → Value := fun k => if k = 0 then .ref a else .ref b
theorem own_b20 {a b : Nat} : own_b2 a b (0 : Int32).toNatClampNeg = .ref a := rfl
theorem own_b21 {a b : Nat} : own_b2 a b (1 : Int32).toNatClampNeg = .ref b := rfl
def own_2 (a b : Int32) : Nat → Int32 := fun k => if k = 0 then a else b
theorem own_xb {x : Int32} (h : x = 0 ∨ x = 1) : ¬ x < 0 ∧ x.toNatClampNeg < 2 := by rcases h with rfl | rfl <;> decide
theorem own_p1 {x : Int32} (h : x = 0 ∨ x = 1) : ¬ x + 1 < 0 ∧ (x + 1).toNatClampNeg < 3 := by rcases h with rfl | rfl <;> decide
theorem d1_0 : DC B1 0 (.aload_n 0) 1 := by decide +kernel
theorem d1_1 : DC B1 1 (.invokespecial 1) 3 := by decide +kernel
theorem d1_4 : DC B1 4 (.aload_n 0) 1 := by decide +kernel
theorem d1_5 : DC B1 5 (.dload_n 3) 1 := by decide +kernel
theorem d1_6 : DC B1 6 (.putfield 7) 3 := by decide +kernel
theorem d1_9 : DC B1 9 (.aload_n 0) 1 := by decide +kernel
theorem d1_10 : DC B1 10 (.iload_n 1) 1 := by decide +kernel
theorem d1_11 : DC B1 11 (.iload_n 2) 1 := by decide +kernel
theorem d1_12 : DC B1 12 (.iconst 1) 1 := by decide +kernel
theorem d1_13 : DC B1 13 (.iadd) 1 := by decide +kernel
theorem d1_14 : DC B1 14 (.iload_n 2) 1 := by decide +kernel
theorem d1_15 : DC B1 15 (.multianewarray 13 3) 4 := by decide +kernel
theorem d1_19 : DC B1 19 (.putfield 15) 3 := by decide +kernel
theorem d1_22 : DC B1 22 (.aload_n 0) 1 := by decide +kernel
theorem d1_23 : DC B1 23 (.iload_n 1) 1 := by decide +kernel
theorem d1_24 : DC B1 24 (.iload_n 2) 1 := by decide +kernel
theorem d1_25 : DC B1 25 (.iconst 1) 1 := by decide +kernel
theorem d1_26 : DC B1 26 (.iadd) 1 := by decide +kernel
theorem d1_27 : DC B1 27 (.iload_n 2) 1 := by decide +kernel
theorem d1_28 : DC B1 28 (.multianewarray 13 3) 4 := by decide +kernel
theorem d1_32 : DC B1 32 (.putfield 18) 3 := by decide +kernel
theorem d1_35 : DC B1 35 (.aload_n 0) 1 := by decide +kernel
theorem pd_1 : parseMethodDescriptor "()V" = some ⟨[], none⟩ := by decide +kernel
theorem d1_36 : DC B1 36 (.invokevirtual 21) 3 := by decide +kernel
theorem d1_39 : DC B1 39 (.return_) 1 := by decide +kernel
def Q1 (Z : State) (o0 : Nat) (d3 : UInt64) (h0 : Heap) (n0 : Nat) (v : Option Value) (h : Heap) (L : List Loc) : Prop := v = none ∧ Fr n0 L ∧ ∃ b4 : Nat, ∃ b8 : Nat, h0.size ≤ b4 ∧ h0.size ≤ b8 ∧ b4 ≠ b8 ∧ Keep h0 h [o0] ∧ Exa Z h o0 "com/example/muster/muster/solvers/Pheromone" ∧ Fld Z h o0 "com/example/muster/muster/solvers/Pheromone" "initial" "D" (.double d3) ∧ Fld Z h o0 "com/example/muster/muster/solvers/Pheromone" "value" "[[[D" (.ref b4) ∧ Fld Z h o0 "com/example/muster/muster/solvers/Pheromone" "deposited" "[[[D" (.ref b8) ∧ Gd Z h b4 (fun _ _ _ => d3) ∧ Gd Z h b8 (fun _ _ _ => (0 : UInt64)) ∧ b4 + 9 ≤ b8
abbrev RM_2_18_40_36 : Room := { frames := 2, cells := 18, slots := 40, locals := 36 }
theorem ef_1_aaaa (m : MethodId) (x0 : Nat) (x1 : Int32) (x2 : Int32) (x3 : UInt64) : entryFrame m #[(.ref x0), (.int x1), (.int x2), (.double x3)] 5 = mkF m 0 #[.val (.ref x0), .val (.int x1), .val (.int x2), .val (.double x3), .second] [] := by first | (simp [entryFrame, mkF, argsToLocals, Value.category]; done) | rfl
theorem rm1 (l : Launch) (Z : State) (a0 : Array Value) (hw : HW a0 Z) (ws : List Jvm.Cond) (o0 : Nat) (d3 : UInt64) (h0 : Heap) (n0 : Nat) (Z0 : n0 ≤ h0.size) (ha0 : Exa Z h0 o0 "com/example/muster/muster/solvers/Pheromone") (ha1 : Fld Z h0 o0 "com/example/muster/muster/solvers/Pheromone" "initial" "D" (.double 0)) (ha2 : Fld Z h0 o0 "com/example/muster/muster/solvers/Pheromone" "value" "[[[D" .null) (ha3 : Fld Z h0 o0 "com/example/muster/muster/solvers/Pheromone" "deposited" "[[[D" .null) (ha4 : n0 ≤ o0) :
    MetFree l y1 (head1 (Jvm.Cond.code y1 prog_48_method_1_code 5 none :: ws) RM_2_18_40_36) (fun a U => a = #[(.ref o0), (.int 2), (.int 2), (.double d3)] ∧ Z.Warmed39 U.vm ∧ U.heap = h0) (fun _ _ _ _ _ => True) (fun _ U o U' => ∃ v L, o = .returned v ∧ Q1 Z o0 d3 h0 n0 v U'.heap L ∧ FrameEnd U o U' L RM_2_18_40_36.cells RM_2_18_40_36.slots) := by
  refine MetFree.of_bodySF (plainFor_of_name pn_1) hisR ?_
  intro p e s m args below meth c s₁ Bd hml0 hP hK
  obtain ⟨rfl, hZ, hh⟩ := hP
  have hx := Bd.exec
  have hby := Bd.bytes
  have hml : c.maxLocals = 5 := hml0
  have hown : s.vm.findClass "com/example/muster/muster/solvers/Pheromone" = some m.cls := findClass_of_methodNamed Bd.named
  have hnm := (name_of_methodNamed Bd.named Bd.method).1
  have X0 : Stand p l e RM_2_18_40_36 s m _ below meth c s₁ [] 0 0 := Stand.of_body Bd
  have e0 : s₁.heap = h0 := by rw [← hh, Bd.state]; rfl
  have N0 := Fr.nil n0
  refine Go.into (P := fun oo uu => ∃ v L, oo = .returned v ∧ Q1 Z o0 d3 h0 n0 v uu.heap L ∧ FrameEnd s oo uu L RM_2_18_40_36.cells RM_2_18_40_36.slots) (ef_1_aaaa m o0 (2 : Int32) (2 : Int32) d3) ?_
  show Go p e below _ (s₁.setTop (mkF m 0 #[sR o0, sI 2, sI 2, .val (.double d3), .second] []))
  refine Vi (s₁.setTop (mkF m 1 #[sR o0, sI 2, sI 2, .val (.double d3), .second] [(.ref o0)])) (fun tZ kZ => ?_) ?_
  · refine XS.aloadN X0.here hx rfl (hb hby d1_0) rfl rfl ?_
    exact kZ
  obtain ⟨T1, X1, e1, st1⟩ := initO X0 hx hZ hown (wq hw 11 rfl) (wq hw 12 rfl) (wq hw 13 rfl) e0 (g := (mkF m 1 #[sR o0, sI 2, sI 2, .val (.double d3), .second] [(.ref o0)])) rfl (by rw [hml]; rfl) rfl (hb hby d1_1) (by decide) (W := 0) (by show 2 * 0 + _ ≤ _; exact Nat.le_of_eq rfl) (by decide)
  refine Go.via st1 ?_
  refine Vi (T1.setTop (mkF m 6 #[sR o0, sI 2, sI 2, .val (.double d3), .second] [(.double d3), (.ref o0)])) (fun tZ kZ => ?_) ?_
  · refine XS.aloadN X1.here hx rfl (hb hby d1_4) rfl rfl ?_
    refine XS.dloadN X1.here hx rfl (hb hby d1_5) rfl ?_
    exact kZ
  obtain ⟨T2, h2, X2, e2, W2, st2⟩ := putF X1 hx hZ hown (host := "") (Or.inl (wq hw 14 rfl)) Via.refl e1 ha1 ha0 (Or.inr ⟨(wq hw 15 rfl), rfl, hnm⟩) (wq hw 6 rfl) (ty := .double) (by decide) rfl rfl (g := (mkF m 6 #[sR o0, sI 2, sI 2, .val (.double d3), .second] [(.double d3), (.ref o0)])) rfl rfl (hb hby d1_6)
  have N2 := Fr.snoc X2 N0 ha4
  have c3_0 := ha0.wr W2
  have c3_2 := ha2.other W2 (sn (Or.inr (wq hw 21 rfl)) (Or.inr (wq hw 15 rfl)))
  have c3_3 := ha3.other W2 (sn (Or.inr (wq hw 23 rfl)) (Or.inr (wq hw 15 rfl)))
  have K2 : Keep h0 h2 [o0] := (Keep.refl h0 [o0]).wr W2 (Or.inl (by simp))
  have Z2 := Nat.le_trans Z0 (Keep.of_wr W2).1
  have Fw2 := ha1.same W2
  refine Go.via st2 ?_
  refine Vi (T2.setTop (mkF m 15 #[sR o0, sI 2, sI 2, .val (.double d3), .second] [(.int 2), (.int 3), (.int 2), (.ref o0)])) (fun tZ kZ => ?_) ?_
  · refine XS.aloadN X2.here hx rfl (hb hby d1_9) rfl rfl ?_
    refine XS.iloadN X2.here hx rfl (hb hby d1_10) rfl ?_
    refine XS.iloadN X2.here hx rfl (hb hby d1_11) rfl ?_
    refine XS.iconst X2.here hx rfl (hb hby d1_12) ?_
    refine XS.iadd X2.here hx rfl (hb hby d1_13) rfl ?_
    refine XS.iloadN X2.here hx rfl (hb hby d1_14) rfl ?_
    exact kZ
  obtain ⟨T4, h4, X4, e4, E4, s4, A4, B4, C4, st4⟩ := own_multi3 X2 hx hZ hown (wq hw 16 rfl) (wq hw 17 rfl) (wq hw 18 rfl) (wq hw 19 rfl) e2 (g := (mkF m 15 #[sR o0, sI 2, sI 2, .val (.double d3), .second] [(.int 2), (.int 3), (.int 2), (.ref o0)])) rfl (hb hby d1_15) rfl (by decide) (by decide) (by decide) (N := 2) (M := 3) (K := 2) rfl rfl rfl (by decide) (by decide) (by decide) (by decide) (by decide)
  obtain ⟨b4, g4⟩ : ∃ z, z = h2.size := ⟨_, rfl⟩
  rw [← g4] at s4 A4 B4 C4 st4
  have Gn4 : Gd Z h4 b4 (fun _ _ _ => 0) := Gd.new A4 B4 C4
  have g_b4 : n0 ≤ b4 := Nat.le_trans Z2 (Nat.le_of_eq g4.symm)
  have sz_b4 : h0.size ≤ b4 := Nat.le_trans (K2).1 (Nat.le_of_eq g4.symm)
  have ne_o0_b4 : o0 ≠ b4 := Nat.ne_of_lt (Nat.lt_of_lt_of_le c3_0.lt (Nat.le_of_eq g4.symm))
  have lt_o0_b4 : (o0 : Nat) < b4 := Nat.lt_of_lt_of_le c3_0.lt (Nat.le_of_eq g4.symm)
  have c5_0 := c3_0.ext E4
  have c5_1 := Fw2.ext E4
  have c5_2 := c3_2.ext E4
  have c5_3 := c3_3.ext E4
  have K4 : Keep h0 h4 [o0] := K2.ext E4
  have Z4 := Nat.le_trans Z2 E4.1
  refine Go.via st4 ?_
  obtain ⟨T6, h6, X6, e6, W6, st6⟩ := putF X4 hx hZ hown (host := "") (Or.inl (wq hw 20 rfl)) Via.refl e4 c5_2 c5_0 (Or.inr ⟨(wq hw 21 rfl), rfl, hnm⟩) (wq hw 6 rfl) (ty := (.array (.array (.array .double)))) (by decide) rfl rfl (g := (mkF m 19 #[sR o0, sI 2, sI 2, .val (.double d3), .second] [(.ref b4), (.ref o0)])) rfl rfl (hb hby d1_19)
  have N6 := Fr.snoc X6 N2 ha4
  have c7_0 := c5_0.wr W6
  have c7_1 := c5_1.other W6 (sn (Or.inr (wq hw 15 rfl)) (Or.inr (wq hw 21 rfl)))
  have c7_3 := c5_3.other W6 (sn (Or.inr (wq hw 23 rfl)) (Or.inr (wq hw 21 rfl)))
  have c7_6 := Gn4.other W6 (by omega)
  have K6 : Keep h0 h6 [o0] := K4.wr W6 (Or.inl (by simp))
  have Z6 := Nat.le_trans Z4 (Keep.of_wr W6).1
  have Fw6 := c5_2.same W6
  refine Go.via st6 ?_
  refine Vi (T6.setTop (mkF m 28 #[sR o0, sI 2, sI 2, .val (.double d3), .second] [(.int 2), (.int 3), (.int 2), (.ref o0)])) (fun tZ kZ => ?_) ?_
  · refine XS.aloadN X6.here hx rfl (hb hby d1_22) rfl rfl ?_
    refine XS.iloadN X6.here hx rfl (hb hby d1_23) rfl ?_
    refine XS.iloadN X6.here hx rfl (hb hby d1_24) rfl ?_
    refine XS.iconst X6.here hx rfl (hb hby d1_25) ?_
    refine XS.iadd X6.here hx rfl (hb hby d1_26) rfl ?_
    refine XS.iloadN X6.here hx rfl (hb hby d1_27) rfl ?_
    exact kZ
  obtain ⟨T8, h8, X8, e8, E8, s8, A8, B8, C8, st8⟩ := own_multi3 X6 hx hZ hown (wq hw 16 rfl) (wq hw 17 rfl) (wq hw 18 rfl) (wq hw 19 rfl) e6 (g := (mkF m 28 #[sR o0, sI 2, sI 2, .val (.double d3), .second] [(.int 2), (.int 3), (.int 2), (.ref o0)])) rfl (hb hby d1_28) rfl (by decide) (by decide) (by decide) (N := 2) (M := 3) (K := 2) rfl rfl rfl (by decide) (by decide) (by decide) (by decide) (by decide)
  obtain ⟨b8, g8⟩ : ∃ z, z = h6.size := ⟨_, rfl⟩
  rw [← g8] at s8 A8 B8 C8 st8
  have Gn8 : Gd Z h8 b8 (fun _ _ _ => 0) := Gd.new A8 B8 C8
  have g_b8 : n0 ≤ b8 := Nat.le_trans Z6 (Nat.le_of_eq g8.symm)
  have sz_b8 : h0.size ≤ b8 := Nat.le_trans (K6).1 (Nat.le_of_eq g8.symm)
  have ne_o0_b8 : o0 ≠ b8 := Nat.ne_of_lt (Nat.lt_of_lt_of_le c7_0.lt (Nat.le_of_eq g8.symm))
  have lt_o0_b8 : (o0 : Nat) < b8 := Nat.lt_of_lt_of_le c7_0.lt (Nat.le_of_eq g8.symm)
  have lt_b4_b8 : (b4 : Nat) + 9 ≤ b8 := Nat.le_trans c7_6.lt (Nat.le_of_eq g8.symm)
  have c9_0 := c7_0.ext E8
  have c9_1 := c7_1.ext E8
  have c9_2 := Fw6.ext E8
  have c9_3 := c7_3.ext E8
  have c9_6 := c7_6.ext E8
  have K8 : Keep h0 h8 [o0] := K6.ext E8
  have Z8 := Nat.le_trans Z6 E8.1
  refine Go.via st8 ?_
  obtain ⟨T10, h10, X10, e10, W10, st10⟩ := putF X8 hx hZ hown (host := "") (Or.inl (wq hw 22 rfl)) Via.refl e8 c9_3 c9_0 (Or.inr ⟨(wq hw 23 rfl), rfl, hnm⟩) (wq hw 6 rfl) (ty := (.array (.array (.array .double)))) (by decide) rfl rfl (g := (mkF m 32 #[sR o0, sI 2, sI 2, .val (.double d3), .second] [(.ref b8), (.ref o0)])) rfl rfl (hb hby d1_32)
  have N10 := Fr.snoc X10 N6 ha4
  have c11_0 := c9_0.wr W10
  have c11_1 := c9_1.other W10 (sn (Or.inr (wq hw 15 rfl)) (Or.inr (wq hw 23 rfl)))
  have c11_2 := c9_2.other W10 (sn (Or.inr (wq hw 21 rfl)) (Or.inr (wq hw 23 rfl)))
  have c11_6 := c9_6.other W10 (by omega)
  have c11_8 := Gn8.other W10 (by omega)
  have c11_9 := lt_b4_b8
  have K10 : Keep h0 h10 [o0] := K8.wr W10 (Or.inl (by simp))
  have Z10 := Nat.le_trans Z8 (Keep.of_wr W10).1
  have Fw10 := c9_3.same W10
  refine Go.via st10 ?_
  refine Vi (T10.setTop (mkF m 36 #[sR o0, sI 2, sI 2, .val (.double d3), .second] [(.ref o0)])) (fun tZ kZ => ?_) ?_
  · refine XS.aloadN X10.here hx rfl (hb hby d1_35) rfl rfl ?_
    exact kZ
  obtain ⟨cq12, kq12, q12a, q12b, q12c⟩ := isOf hZ e10 c11_0
  obtain ⟨_, _, ⟨T12, L12, k12, n12⟩, -, X12, ⟨Lc12, hQ12, l12, y12, z12⟩, st12⟩ := X10.virtualBack hx (y := y3) (z := y3) hown (wz hZ hw 24 rfl) (wz hZ hw 25 rfl) (notFace_of_selects (args := #[]) (wz hZ hw 27 rfl)) (wz hZ hw 27 rfl) (wz hZ hw 26 rfl) (by decide) (backOf (W := 0) (rm3 l Z a0 hw [] o0 d3 b4 (fun _ _ _ => (0 : UInt64)) h10 n0 Z10 c11_0 c11_1 c11_2 c11_6 g_b4 (by omega)) hZ (wq hw 28 rfl) (wq hw 7 rfl) (by decide) (by decide)) q12a q12c (g := (mkF m 36 #[sR o0, sI 2, sI 2, .val (.double d3), .second] [(.ref o0)])) rfl (by rw [hml]; rfl) (Steps.refl _) (argsL := []) (rest := []) (lenOf pd_1 rfl) rfl (leW rfl) (hb hby d1_36) (fun _ _ => ⟨rfl, e10, (by decide : 0 + 9 + 9 + 0 ≤ _), (by decide : 0 + 20 + 20 + 0 ≤ _)⟩)
  dsimp only [Pt.U, Pt.locs, Pt.cells, Pt.slots] at X12 l12 y12 z12 st12 hQ12
  subst l12 y12 z12
  obtain ⟨rfl, N12q, Kq12, f12_0, f12_1, f12_2, f12_3⟩ := hQ12
  have c13_3 := Fw10.keep Kq12 (ninS (own_na (by omega)) (ninS (own_na (by omega)) (ninS (own_na (by omega)) (ninS (own_na (by omega)) (ninS (own_na (by omega)) (ninS (own_na (by omega)) nin0))))))
  have c13_8 := c11_8.keep Kq12 (allS (by omega) (allS (by omega) (allS (by omega) (allS (by omega) (allS (by omega) (allS (by omega) all0))))))
  have c13_9 := c11_9
  have K12 : Keep h0 T12.heap [o0] := K10.trans Kq12 (allS (Or.inr (Nat.le_trans sz_b4 (show b4 ≤ (b4 + 2 + 4 * 0 + 0) by omega))) (allS (Or.inr (Nat.le_trans sz_b4 (show b4 ≤ (b4 + 2 + 4 * 0 + 1) by omega))) (allS (Or.inr (Nat.le_trans sz_b4 (show b4 ≤ (b4 + 2 + 4 * 0 + 2) by omega))) (allS (Or.inr (Nat.le_trans sz_b4 (show b4 ≤ (b4 + 2 + 4 * 1 + 0) by omega))) (allS (Or.inr (Nat.le_trans sz_b4 (show b4 ≤ (b4 + 2 + 4 * 1 + 1) by omega))) (allS (Or.inr (Nat.le_trans sz_b4 (show b4 ≤ (b4 + 2 + 4 * 1 + 2) by omega))) all0))))))
  have Z12 := Nat.le_trans Z10 Kq12.1
  have N12 := Fr.app N10 N12q
  refine Go.via (fun t k => st12.trans k) ?_
  refine Go.retV X12 hx Bd.notSynchronized Bd.returns (hb hby d1_39) (by decide) (by decide) ?_
  exact ⟨rfl, N12, b4, b8, sz_b4, sz_b8, (own_na (by omega)), K12, f12_0, f12_1, f12_2, c13_3, f12_3, c13_8, c13_9⟩
theorem d5_0 : DC B5 0 (.aload_n 0) 1 := by decide +kernel
theorem d5_1 : DC B5 1 (.invokespecial 1) 3 := by decide +kernel
theorem d5_4 : DC B5 4 (.aload_n 0) 1 := by decide +kernel
theorem d5_5 : DC B5 5 (.aload_n 1) 1 := by decide +kernel
theorem d5_6 : DC B5 6 (.arraylength) 1 := by decide +kernel
theorem d5_7 : DC B5 7 (.anewarray 7) 3 := by decide +kernel
theorem d5_10 : DC B5 10 (.putfield 9) 3 := by decide +kernel
theorem d5_13 : DC B5 13 (.iconst 0) 1 := by decide +kernel
theorem d5_14 : DC B5 14 (.istore_n 2) 1 := by decide +kernel
theorem d5_15 : DC B5 15 (.iload_n 2) 1 := by decide +kernel
theorem d5_16 : DC B5 16 (.aload_n 1) 1 := by decide +kernel
theorem d5_17 : DC B5 17 (.arraylength) 1 := by decide +kernel
theorem d5_18 : DC B5 18 (.if_icmp .ge 24) 3 := by decide +kernel
theorem d5_21 : DC B5 21 (.aload_n 0) 1 := by decide +kernel
theorem d5_22 : DC B5 22 (.getfield 9) 3 := by decide +kernel
theorem d5_25 : DC B5 25 (.iload_n 2) 1 := by decide +kernel
theorem d5_26 : DC B5 26 (.aload_n 1) 1 := by decide +kernel
theorem d5_27 : DC B5 27 (.iload_n 2) 1 := by decide +kernel
theorem d5_28 : DC B5 28 (.aaload) 1 := by decide +kernel
theorem d5_29 : DC B5 29 (.invokevirtual 15) 3 := by decide +kernel
theorem d5_32 : DC B5 32 (.checkcast 7) 3 := by decide +kernel
theorem d5_35 : DC B5 35 (.aastore) 1 := by decide +kernel
theorem d5_36 : DC B5 36 (.iinc 2 1) 3 := by decide +kernel
theorem d5_39 : DC B5 39 (.goto (-24)) 3 := by decide +kernel
theorem d5_42 : DC B5 42 (.return_) 1 := by decide +kernel
def Q5 (Z : State) (o0 : Nat) (o1 : Nat) (rA : Nat) (sA : Nat) (xa : Int32) (xb : Int32) (xc : Int32) (xd : Int32) (h0 : Heap) (n0 : Nat) (v : Option Value) (h : Heap) (L : List Loc) : Prop := v = none ∧ Fr n0 L ∧ ∃ b2 : Nat, ∃ b7 : Nat, ∃ b13 : Nat, h0.size ≤ b2 ∧ h0.size ≤ b7 ∧ h0.size ≤ b13 ∧ b2 ≠ b7 ∧ b2 ≠ b13 ∧ b7 ≠ b13 ∧ Keep h0 h [o0] ∧ Exa Z h o0 "com/example/muster/muster/core/MpdaPlan" ∧ Fld Z h o0 "com/example/muster/muster/core/MpdaPlan" "routes" "[[I" (.ref b2) ∧ Exa Z h rA "[I" ∧ Exa Z h sA "[I" ∧ AV Z h o1 (.array .int) 2 (own_b2 rA sA) ∧ AV Z h rA .int 2 (fun k => .int ((own_2 xa xb) k)) ∧ AV Z h sA .int 2 (fun k => .int ((own_2 xc xd) k)) ∧ AV Z h b2 (.array .int) 2 (up (up (fun _ => Value.null) (0 : Int32).toNatClampNeg (.ref b7)) (1 : Int32).toNatClampNeg (.ref b13)) ∧ Exa Z h b2 "[[I" ∧ OV Z h b2 .int "[I" ∧ AV Z h b7 .int 2 (fun k => .int ((own_2 xa xb) k)) ∧ Exa Z h b7 "[I" ∧ AV Z h b13 .int 2 (fun k => .int ((own_2 xc xd) k)) ∧ Exa Z h b13 "[I"
abbrev RM_1_3_6_16 : Room := { frames := 1, cells := 3, slots := 6, locals := 16 }
theorem pn_2 : plainName "com/example/muster/muster/core/MpdaPlan" = true := by first | (simp [plainName, overriddenIn]; done) | decide +kernel
theorem ef_5_aa (m : MethodId) (x0 : Nat) (x1 : Nat) : entryFrame m #[(.ref x0), (.ref x1)] 3 = mkF m 0 #[.val (.ref x0), .val (.ref x1), .unset] [] := by first | (simp [entryFrame, mkF, argsToLocals, Value.category]; done) | rfl
theorem rm5 (l : Launch) (Z : State) (a0 : Array Value) (hw : HW a0 Z) (ws : List Jvm.Cond) (o0 : Nat) (o1 : Nat) (rA : Nat) (sA : Nat) (xa : Int32) (xb : Int32) (xc : Int32) (xd : Int32) (h0 : Heap) (n0 : Nat) (Z0 : n0 ≤ h0.size) (ha0 : Exa Z h0 o0 "com/example/muster/muster/core/MpdaPlan") (ha1 : Fld Z h0 o0 "com/example/muster/muster/core/MpdaPlan" "routes" "[[I" .null) (ha2 : n0 ≤ o0) (ha3 : Exa Z h0 rA "[I") (ha4 : Exa Z h0 sA "[I") (ha5 : AV Z h0 o1 (.array .int) 2 (own_b2 rA sA)) (ha6 : AV Z h0 rA .int 2 (fun k => .int ((own_2 xa xb) k))) (ha7 : AV Z h0 sA .int 2 (fun k => .int ((own_2 xc xd) k))) (hne_o0_o1 : o0 ≠ o1) (hne_o0_rA : o0 ≠ rA) (hne_o0_sA : o0 ≠ sA) (hne_o1_rA : o1 ≠ rA) (hne_o1_sA : o1 ≠ sA) (hne_rA_sA : rA ≠ sA) :
    MetFree l y5 (head1 (Jvm.Cond.code y5 prog_25_method_1_code 3 none :: ws) RM_1_3_6_16) (fun a U => a = #[(.ref o0), (.ref o1)] ∧ Z.Warmed39 U.vm ∧ U.heap = h0) (fun _ _ _ _ _ => True) (fun _ U o U' => ∃ v L, o = .returned v ∧ Q5 Z o0 o1 rA sA xa xb xc xd h0 n0 v U'.heap L ∧ FrameEnd U o U' L RM_1_3_6_16.cells RM_1_3_6_16.slots) := by
  refine MetFree.of_bodySF (plainFor_of_name pn_2) hisR ?_
  intro p e s m args below meth c s₁ Bd hml0 hP hK
  obtain ⟨rfl, hZ, hh⟩ := hP
  have hx := Bd.exec
  have hby := Bd.bytes
  have hml : c.maxLocals = 3 := hml0
  have hown : s.vm.findClass "com/example/muster/muster/core/MpdaPlan" = some m.cls := findClass_of_methodNamed Bd.named
  have hnm := (name_of_methodNamed Bd.named Bd.method).1
  have X0 : Stand p l e RM_1_3_6_16 s m _ below meth c s₁ [] 0 0 := Stand.of_body Bd
  have e0 : s₁.heap = h0 := by rw [← hh, Bd.state]; rfl
  have N0 := Fr.nil n0
  refine Go.into (P := fun oo uu => ∃ v L, oo = .returned v ∧ Q5 Z o0 o1 rA sA xa xb xc xd h0 n0 v uu.heap L ∧ FrameEnd s oo uu L RM_1_3_6_16.cells RM_1_3_6_16.slots) (ef_5_aa m o0 o1) ?_
  show Go p e below _ (s₁.setTop (mkF m 0 #[sR o0, sR o1, .unset] []))
  refine Vi (s₁.setTop (mkF m 1 #[sR o0, sR o1, .unset] [(.ref o0)])) (fun tZ kZ => ?_) ?_
  · refine XS.aloadN X0.here hx rfl (hb hby d5_0) rfl rfl ?_
    exact kZ
  obtain ⟨T1, X1, e1, st1⟩ := initO X0 hx hZ hown (wq hw 39 rfl) (wq hw 12 rfl) (wq hw 13 rfl) e0 (g := (mkF m 1 #[sR o0, sR o1, .unset] [(.ref o0)])) rfl (by rw [hml]; rfl) rfl (hb hby d5_1) (by decide) (W := 0) (by show 2 * 0 + _ ≤ _; exact Nat.le_of_eq rfl) (by decide)
  refine Go.via st1 ?_
  refine Vi (T1.setTop (mkF m 7 #[sR o0, sR o1, .unset] [(.int 2), (.ref o0)])) (fun tZ kZ => ?_) ?_
  · refine XS.aloadN X1.here hx rfl (hb hby d5_4) rfl rfl ?_
    refine XS.aloadN X1.here hx rfl (hb hby d5_5) rfl rfl ?_
    refine AV.len ha5 X1 hx hZ e1 (hb hby d5_6) ?_
    exact kZ
  obtain ⟨T2, h2, k2, X2, e2, E2, A2, B2, O2, st2⟩ := newRA X1 hx hZ hown (C := "[I") (ty := .int) rfl (wq hw 40 rfl) (wq hw 2 rfl) e1 (g := (mkF m 7 #[sR o0, sR o1, .unset] [(.int 2), (.ref o0)])) rfl (hb hby d5_7) rfl (by decide) (cap := 2) (by decide) (by decide) (by decide) (by decide) (ad := "[[I") rfl
  obtain ⟨b2, g2⟩ : ∃ z, z = h0.size := ⟨_, rfl⟩
  rw [← g2] at A2 B2 st2
  have g_b2 : n0 ≤ b2 := Nat.le_trans Z0 (Nat.le_of_eq g2.symm)
  have sz_b2 : h0.size ≤ b2 := Nat.le_trans ((Keep.refl h0 [o0])).1 (Nat.le_of_eq g2.symm)
  have ne_o0_b2 : o0 ≠ b2 := Nat.ne_of_lt (Nat.lt_of_lt_of_le ha0.lt (Nat.le_of_eq g2.symm))
  have ne_rA_b2 : rA ≠ b2 := Nat.ne_of_lt (Nat.lt_of_lt_of_le ha3.lt (Nat.le_of_eq g2.symm))
  have ne_sA_b2 : sA ≠ b2 := Nat.ne_of_lt (Nat.lt_of_lt_of_le ha4.lt (Nat.le_of_eq g2.symm))
  have ne_o1_b2 : o1 ≠ b2 := Nat.ne_of_lt (Nat.lt_of_lt_of_le ha5.lt (Nat.le_of_eq g2.symm))
  have lt_o1_b2 : (o1 : Nat) < b2 := Nat.lt_of_lt_of_le ha5.lt (Nat.le_of_eq g2.symm)
  have lt_o0_b2 : (o0 : Nat) < b2 := Nat.lt_of_lt_of_le ha0.lt (Nat.le_of_eq g2.symm)
  have lt_sA_b2 : (sA : Nat) < b2 := Nat.lt_of_lt_of_le ha4.lt (Nat.le_of_eq g2.symm)
  have lt_rA_b2 : (rA : Nat) < b2 := Nat.lt_of_lt_of_le ha3.lt (Nat.le_of_eq g2.symm)
  have c3_0 := ha0.ext E2
  have c3_1 := ha1.ext E2
  have c3_3 := ha3.ext E2
  have c3_4 := ha4.ext E2
  have c3_5 := ha5.ext E2
  have c3_6 := ha6.ext E2
  have c3_7 := ha7.ext E2
  have K2 : Keep h0 h2 [o0] := (Keep.refl h0 [o0]).ext E2
  have Z2 := Nat.le_trans Z0 E2.1
  have V2 : AV Z h2 b2 (.array .int) 2 (fun _ => Value.null) := by have q := AV.new A2; exact q
  have OV2 : OV Z h2 b2 .int "[I" := ⟨_, A2.1, O2⟩
  refine Go.via st2 ?_
  obtain ⟨T4, h4, X4, e4, W4, st4⟩ := putF X2 hx hZ hown (host := "") (Or.inl (wq hw 41 rfl)) Via.refl e2 c3_1 c3_0 (Or.inr ⟨(wq hw 42 rfl), rfl, hnm⟩) (wq hw 34 rfl) (ty := (.array (.array .int))) (by decide) rfl rfl (g := (mkF m 10 #[sR o0, sR o1, .unset] [(.ref b2), (.ref o0)])) rfl rfl (hb hby d5_10)
  have N4 := Fr.snoc X4 N0 ha2
  have c5_0 := c3_0.wr W4
  have c5_3 := c3_3.wr W4
  have c5_4 := c3_4.wr W4
  have c5_5 := c3_5.other W4 (Ne.symm hne_o0_o1)
  have c5_6 := c3_6.other W4 (Ne.symm hne_o0_rA)
  have c5_7 := c3_7.other W4 (Ne.symm hne_o0_sA)
  have c5_9 := V2.other W4 (Ne.symm ne_o0_b2)
  have c5_10 := B2.wr W4
  have c5_11 := OV2.wr W4
  have K4 : Keep h0 h4 [o0] := K2.wr W4 (Or.inl (by simp))
  have Z4 := Nat.le_trans Z2 (Keep.of_wr W4).1
  have Fw4 := c3_1.same W4
  refine Go.via st4 ?_
  refine Vi (T4.setTop (mkF m 22 #[sR o0, sR o1, sI 0] [(.ref o0)])) (fun tZ kZ => ?_) ?_
  · refine XS.iconst X4.here hx rfl (hb hby d5_13) ?_
    refine XS.istoreN X4.here hx rfl (hb hby d5_14) rfl (l' := #[sR o0, sR o1, sI 0]) rfl ?_
    refine XS.iloadN X4.here hx rfl (hb hby d5_15) rfl ?_
    refine XS.aloadN X4.here hx rfl (hb hby d5_16) rfl rfl ?_
    refine AV.len c5_5 X4 hx hZ e4 (hb hby d5_17) ?_
    refine XS.icmpNo X4.here hx rfl (hb hby d5_18) rfl (tlt (by decide)).2.1 ?_
    refine XS.aloadN X4.here hx rfl (hb hby d5_21) rfl rfl ?_
    exact kZ
  refine GF X4 hx hZ hown (wq hw 41 rfl) e4 Fw4 (hb hby d5_22) fun T6 X6 e6 => ?_
  refine Vi (T6.setTop (mkF m 29 #[sR o0, sR o1, sI 0] [(.ref rA), (.int 0), (.ref b2)])) (fun tZ kZ => ?_) ?_
  · refine XS.iloadN X6.here hx rfl (hb hby d5_25) rfl ?_
    refine XS.aloadN X6.here hx rfl (hb hby d5_26) rfl rfl ?_
    refine XS.iloadN X6.here hx rfl (hb hby d5_27) rfl ?_
    refine AV.aaload c5_5 rfl X6 hx hZ e6 (j := (0 : Int32)) (by decide) (hb hby d5_28) ?_
    rw [own_b20]
    exact kZ
  obtain ⟨T7, h7, X7, e7, E7, V7, B7, st7⟩ := AV.clone c5_6 (fun _ _ => rfl) X6 hx hZ hown (wq hw 43 rfl) (wq hw 44 rfl) (wq hw 48 rfl) (wq hw 46 rfl) (wq hw 47 rfl) (wq hw 49 rfl) e6 c5_3 (g := (mkF m 29 #[sR o0, sR o1, sI 0] [(.ref rA), (.int 0), (.ref b2)])) rfl (by rw [hml]; rfl) (rest := [(.int 0), (.ref b2)]) rfl (hb hby d5_29) (by decide) (W := 2) (cap := 2) (by show 2 * 0 + _ ≤ _; exact Nat.le_of_eq rfl) (by decide) (by decide) (by decide) (by decide)
  obtain ⟨b7, g7⟩ : ∃ z, z = h4.size := ⟨_, rfl⟩
  rw [← g7] at V7 B7 st7
  have g_b7 : n0 ≤ b7 := Nat.le_trans Z4 (Nat.le_of_eq g7.symm)
  have sz_b7 : h0.size ≤ b7 := Nat.le_trans (K4).1 (Nat.le_of_eq g7.symm)
  have ne_o0_b7 : o0 ≠ b7 := Nat.ne_of_lt (Nat.lt_of_lt_of_le c5_0.lt (Nat.le_of_eq g7.symm))
  have ne_rA_b7 : rA ≠ b7 := Nat.ne_of_lt (Nat.lt_of_lt_of_le c5_3.lt (Nat.le_of_eq g7.symm))
  have ne_sA_b7 : sA ≠ b7 := Nat.ne_of_lt (Nat.lt_of_lt_of_le c5_4.lt (Nat.le_of_eq g7.symm))
  have ne_o1_b7 : o1 ≠ b7 := Nat.ne_of_lt (Nat.lt_of_lt_of_le c5_5.lt (Nat.le_of_eq g7.symm))
  have ne_b2_b7 : b2 ≠ b7 := Nat.ne_of_lt (Nat.lt_of_lt_of_le c5_9.lt (Nat.le_of_eq g7.symm))
  have lt_o1_b7 : (o1 : Nat) < b7 := Nat.lt_of_lt_of_le c5_5.lt (Nat.le_of_eq g7.symm)
  have lt_b2_b7 : (b2 : Nat) < b7 := Nat.lt_of_lt_of_le c5_9.lt (Nat.le_of_eq g7.symm)
  have lt_o0_b7 : (o0 : Nat) < b7 := Nat.lt_of_lt_of_le c5_0.lt (Nat.le_of_eq g7.symm)
  have lt_rA_b7 : (rA : Nat) < b7 := Nat.lt_of_lt_of_le c5_3.lt (Nat.le_of_eq g7.symm)
  have lt_sA_b7 : (sA : Nat) < b7 := Nat.lt_of_lt_of_le c5_4.lt (Nat.le_of_eq g7.symm)
  have c8_0 := c5_0.ext E7
  have c8_1 := Fw4.ext E7
  have c8_3 := c5_3.ext E7
  have c8_4 := c5_4.ext E7
  have c8_5 := c5_5.ext E7
  have c8_6 := c5_6.ext E7
  have c8_7 := c5_7.ext E7
  have c8_9 := c5_9.ext E7
  have c8_10 := c5_10.ext E7
  have c8_11 := c5_11.ext E7
  have K7 : Keep h0 h7 [o0] := K4.ext E7
  have Z7 := Nat.le_trans Z4 E7.1
  refine Go.via st7 ?_
  obtain ⟨T9, X9, e9, st9⟩ := castY X7 hx hZ hown (wq hw 40 rfl) e7 (Ins.self B7) (g := (mkF m 32 #[sR o0, sR o1, sI 0] [(.ref b7), (.int 0), (.ref b2)])) rfl rfl (hb hby d5_32)
  refine Go.via st9 ?_
  obtain ⟨T10, h10, X10, e10, W10, V10, st10⟩ := AV.aastore c8_9 rfl (OV.sto c8_11 c8_9 (Ins.self B7)) X9 hx hZ e9 (j := (0 : Int32)) (by decide) (Ls := #[sR o0, sR o1, sI 0]) (rest := []) (hb hby d5_35) (v := (.ref b7))
  have N10 := Fr.snoc X10 N4 g_b2
  have c11_0 := c8_0.wr W10
  have c11_1 := c8_1.other W10 (Or.inl ne_o0_b2)
  have c11_3 := c8_3.wr W10
  have c11_4 := c8_4.wr W10
  have c11_5 := c8_5.other W10 ne_o1_b2
  have c11_6 := c8_6.other W10 ne_rA_b2
  have c11_7 := c8_7.other W10 ne_sA_b2
  have c11_10 := c8_10.wr W10
  have c11_11 := c8_11.wr W10
  have c11_13 := V7.other W10 (Ne.symm ne_b2_b7)
  have c11_14 := B7.wr W10
  have K10 : Keep h0 h10 [o0] := K7.wr W10 (Or.inr sz_b2)
  have Z10 := Nat.le_trans Z7 (Keep.of_wr W10).1
  refine Go.via st10 ?_
  refine Vi (T10.setTop (mkF m 22 #[sR o0, sR o1, sI 1] [(.ref o0)])) (fun tZ kZ => ?_) ?_
  · refine XS.iinc X10.here hx rfl (hb hby d5_36) rfl (l' := #[sR o0, sR o1, sI 1]) rfl ?_
    refine XS.goto X10.here hx rfl (pc0 := 39) (pc' := 15) rfl (hb hby d5_39) (by decide) (by decide) ?_
    refine XS.iloadN X10.here hx rfl (hb hby d5_15) rfl ?_
    refine XS.aloadN X10.here hx rfl (hb hby d5_16) rfl rfl ?_
    refine AV.len c11_5 X10 hx hZ e10 (hb hby d5_17) ?_
    refine XS.icmpNo X10.here hx rfl (hb hby d5_18) rfl (tlt (by decide)).2.1 ?_
    refine XS.aloadN X10.here hx rfl (hb hby d5_21) rfl rfl ?_
    exact kZ
  refine GF X10 hx hZ hown (wq hw 41 rfl) e10 c11_1 (hb hby d5_22) fun T12 X12 e12 => ?_
  refine Vi (T12.setTop (mkF m 29 #[sR o0, sR o1, sI 1] [(.ref sA), (.int 1), (.ref b2)])) (fun tZ kZ => ?_) ?_
  · refine XS.iloadN X12.here hx rfl (hb hby d5_25) rfl ?_
    refine XS.aloadN X12.here hx rfl (hb hby d5_26) rfl rfl ?_
    refine XS.iloadN X12.here hx rfl (hb hby d5_27) rfl ?_
    refine AV.aaload c11_5 rfl X12 hx hZ e12 (j := (1 : Int32)) (by decide) (hb hby d5_28) ?_
    rw [own_b21]
    exact kZ
  obtain ⟨T13, h13, X13, e13, E13, V13, B13, st13⟩ := AV.clone c11_7 (fun _ _ => rfl) X12 hx hZ hown (wq hw 43 rfl) (wq hw 44 rfl) (wq hw 48 rfl) (wq hw 46 rfl) (wq hw 47 rfl) (wq hw 49 rfl) e12 c11_4 (g := (mkF m 29 #[sR o0, sR o1, sI 1] [(.ref sA), (.int 1), (.ref b2)])) rfl (by rw [hml]; rfl) (rest := [(.int 1), (.ref b2)]) rfl (hb hby d5_29) (by decide) (W := 2) (cap := 2) (by show 2 * 0 + _ ≤ _; exact Nat.le_of_eq rfl) (by decide) (by decide) (by decide) (by decide)
  obtain ⟨b13, g13⟩ : ∃ z, z = h10.size := ⟨_, rfl⟩
  rw [← g13] at V13 B13 st13
  have g_b13 : n0 ≤ b13 := Nat.le_trans Z10 (Nat.le_of_eq g13.symm)
  have sz_b13 : h0.size ≤ b13 := Nat.le_trans (K10).1 (Nat.le_of_eq g13.symm)
  have ne_o0_b13 : o0 ≠ b13 := Nat.ne_of_lt (Nat.lt_of_lt_of_le c11_0.lt (Nat.le_of_eq g13.symm))
  have ne_rA_b13 : rA ≠ b13 := Nat.ne_of_lt (Nat.lt_of_lt_of_le c11_3.lt (Nat.le_of_eq g13.symm))
  have ne_sA_b13 : sA ≠ b13 := Nat.ne_of_lt (Nat.lt_of_lt_of_le c11_4.lt (Nat.le_of_eq g13.symm))
  have ne_o1_b13 : o1 ≠ b13 := Nat.ne_of_lt (Nat.lt_of_lt_of_le c11_5.lt (Nat.le_of_eq g13.symm))
  have ne_b2_b13 : b2 ≠ b13 := Nat.ne_of_lt (Nat.lt_of_lt_of_le V10.lt (Nat.le_of_eq g13.symm))
  have ne_b7_b13 : b7 ≠ b13 := Nat.ne_of_lt (Nat.lt_of_lt_of_le c11_13.lt (Nat.le_of_eq g13.symm))
  have lt_o1_b13 : (o1 : Nat) < b13 := Nat.lt_of_lt_of_le c11_5.lt (Nat.le_of_eq g13.symm)
  have lt_b2_b13 : (b2 : Nat) < b13 := Nat.lt_of_lt_of_le V10.lt (Nat.le_of_eq g13.symm)
  have lt_o0_b13 : (o0 : Nat) < b13 := Nat.lt_of_lt_of_le c11_0.lt (Nat.le_of_eq g13.symm)
  have lt_b7_b13 : (b7 : Nat) < b13 := Nat.lt_of_lt_of_le c11_13.lt (Nat.le_of_eq g13.symm)
  have lt_rA_b13 : (rA : Nat) < b13 := Nat.lt_of_lt_of_le c11_3.lt (Nat.le_of_eq g13.symm)
  have lt_sA_b13 : (sA : Nat) < b13 := Nat.lt_of_lt_of_le c11_4.lt (Nat.le_of_eq g13.symm)
  have c14_0 := c11_0.ext E13
  have c14_1 := c11_1.ext E13
  have c14_3 := c11_3.ext E13
  have c14_4 := c11_4.ext E13
  have c14_5 := c11_5.ext E13
  have c14_6 := c11_6.ext E13
  have c14_7 := c11_7.ext E13
  have c14_9 := V10.ext E13
  have c14_10 := c11_10.ext E13
  have c14_11 := c11_11.ext E13
  have c14_13 := c11_13.ext E13
  have c14_14 := c11_14.ext E13
  have K13 : Keep h0 h13 [o0] := K10.ext E13
  have Z13 := Nat.le_trans Z10 E13.1
  refine Go.via st13 ?_
  obtain ⟨T15, X15, e15, st15⟩ := castY X13 hx hZ hown (wq hw 40 rfl) e13 (Ins.self B13) (g := (mkF m 32 #[sR o0, sR o1, sI 1] [(.ref b13), (.int 1), (.ref b2)])) rfl rfl (hb hby d5_32)
  refine Go.via st15 ?_
  obtain ⟨T16, h16, X16, e16, W16, V16, st16⟩ := AV.aastore c14_9 rfl (OV.sto c14_11 c14_9 (Ins.self B13)) X15 hx hZ e15 (j := (1 : Int32)) (by decide) (Ls := #[sR o0, sR o1, sI 1]) (rest := []) (hb hby d5_35) (v := (.ref b13))
  have N16 := Fr.snoc X16 N10 g_b2
  have c17_0 := c14_0.wr W16
  have c17_1 := c14_1.other W16 (Or.inl ne_o0_b2)
  have c17_3 := c14_3.wr W16
  have c17_4 := c14_4.wr W16
  have c17_5 := c14_5.other W16 ne_o1_b2
  have c17_6 := c14_6.other W16 ne_rA_b2
  have c17_7 := c14_7.other W16 ne_sA_b2
  have c17_10 := c14_10.wr W16
  have c17_11 := c14_11.wr W16
  have c17_13 := c14_13.other W16 (Ne.symm ne_b2_b7)
  have c17_14 := c14_14.wr W16
  have c17_16 := V13.other W16 (Ne.symm ne_b2_b13)
  have c17_17 := B13.wr W16
  have K16 : Keep h0 h16 [o0] := K13.wr W16 (Or.inr sz_b2)
  have Z16 := Nat.le_trans Z13 (Keep.of_wr W16).1
  refine Go.via st16 ?_
  refine Vi (T16.setTop (mkF m 42 #[sR o0, sR o1, sI 2] [])) (fun tZ kZ => ?_) ?_
  · refine XS.iinc X16.here hx rfl (hb hby d5_36) rfl (l' := #[sR o0, sR o1, sI 2]) rfl ?_
    refine XS.goto X16.here hx rfl (pc0 := 39) (pc' := 15) rfl (hb hby d5_39) (by decide) (by decide) ?_
    refine XS.iloadN X16.here hx rfl (hb hby d5_15) rfl ?_
    refine XS.aloadN X16.here hx rfl (hb hby d5_16) rfl rfl ?_
    refine AV.len c17_5 X16 hx hZ e16 (hb hby d5_17) ?_
    refine XS.icmpYes X16.here hx rfl (pc0 := 18) (pc' := 42) rfl (hb hby d5_18) rfl (flt (by decide)).2.1 (by decide) (by decide) ?_
    exact kZ
  refine Go.retV X16 hx Bd.notSynchronized Bd.returns (hb hby d5_42) (by decide) (by decide) ?_
  rw [e16]
  exact ⟨rfl, N16, b2, b7, b13, sz_b2, sz_b7, sz_b13, ne_b2_b7, ne_b2_b13, ne_b7_b13, K16, c17_0, c17_1, c17_3, c17_4, c17_5, c17_6, c17_7, V16, c17_10, c17_11, c17_13, c17_14, c17_16, c17_17⟩
theorem d7_0 : DC B7 0 (.aload_n 0) 1 := by decide +kernel
theorem d7_1 : DC B7 1 (.getfield 9) 3 := by decide +kernel
theorem d7_4 : DC B7 4 (.arraylength) 1 := by decide +kernel
theorem d7_5 : DC B7 5 (.ireturn) 1 := by decide +kernel
def f7 (o0 : Nat) (qA : Nat) (cA : Nat) (eA : Nat) : Int32 := (2 : Int32)
def Q7 (o0 : Nat) (qA : Nat) (cA : Nat) (eA : Nat) (h0 : Heap) (n0 : Nat) (v : Option Value) (h : Heap) (L : List Loc) : Prop := v = some (.int (f7 o0 qA cA eA)) ∧ Fr n0 L ∧ h = h0
theorem ef_7_a (m : MethodId) (x0 : Nat) : entryFrame m #[(.ref x0)] 1 = mkF m 0 #[.val (.ref x0)] [] := by first | (simp [entryFrame, mkF, argsToLocals, Value.category]; done) | rfl
theorem rm7 (l : Launch) (Z : State) (a0 : Array Value) (hw : HW a0 Z) (ws : List Jvm.Cond) (o0 : Nat) (qA : Nat) (cA : Nat) (eA : Nat) (h0 : Heap) (n0 : Nat) (Z0 : n0 ≤ h0.size) (ha0 : Exa Z h0 o0 "com/example/muster/muster/core/MpdaPlan") (ha1 : Fld Z h0 o0 "com/example/muster/muster/core/MpdaPlan" "routes" "[[I" (.ref qA)) (ha2 : AV Z h0 qA (.array .int) 2 (own_b2 cA eA)) :
    MetFree l y7 (head1 (Jvm.Cond.code y7 prog_25_method_2_code 1 (some .int) :: ws) RM_0_0_0_0) (fun a U => a = #[(.ref o0)] ∧ Z.Warmed39 U.vm ∧ U.heap = h0) (fun _ _ _ _ _ => True) (fun _ U o U' => ∃ v L, o = .returned v ∧ Q7 o0 qA cA eA h0 n0 v U'.heap L ∧ FrameEnd U o U' L RM_0_0_0_0.cells RM_0_0_0_0.slots) := by
  refine MetFree.of_bodySF (plainFor_of_name pn_2) hisR ?_
  intro p e s m args below meth c s₁ Bd hml0 hP hK
  obtain ⟨rfl, hZ, hh⟩ := hP
  have hx := Bd.exec
  have hby := Bd.bytes
  have hml : c.maxLocals = 1 := hml0
  have hown : s.vm.findClass "com/example/muster/muster/core/MpdaPlan" = some m.cls := findClass_of_methodNamed Bd.named
  have X0 : Stand p l e RM_0_0_0_0 s m _ below meth c s₁ [] 0 0 := Stand.of_body Bd
  have e0 : s₁.heap = h0 := by rw [← hh, Bd.state]; rfl
  have N0 := Fr.nil n0
  refine Go.into (P := fun oo uu => ∃ v L, oo = .returned v ∧ Q7 o0 qA cA eA h0 n0 v uu.heap L ∧ FrameEnd s oo uu L RM_0_0_0_0.cells RM_0_0_0_0.slots) (ef_7_a m o0) ?_
  show Go p e below _ (s₁.setTop (mkF m 0 #[sR o0] []))
  refine Vi (s₁.setTop (mkF m 1 #[sR o0] [(.ref o0)])) (fun tZ kZ => ?_) ?_
  · refine XS.aloadN X0.here hx rfl (hb hby d7_0) rfl rfl ?_
    exact kZ
  refine GF X0 hx hZ hown (wq hw 41 rfl) e0 ha1 (hb hby d7_1) fun T1 X1 e1 => ?_
  refine Vi (T1.setTop (mkF m 5 #[sR o0] [(.int 2)])) (fun tZ kZ => ?_) ?_
  · refine AV.len ha2 X1 hx hZ e1 (hb hby d7_4) ?_
    exact kZ
  refine Go.retI X1 hx Bd.notSynchronized Bd.returns (hb hby d7_5) (by decide) (by decide) ?_
  refine ⟨?_, N0, e1⟩
  show some ((.int 2) : Value) = some (.int (f7 o0 qA cA eA))
  rfl
theorem d8_0 : DC B8 0 (.aload_n 0) 1 := by decide +kernel
theorem d8_1 : DC B8 1 (.getfield 9) 3 := by decide +kernel
theorem d8_4 : DC B8 4 (.iload_n 1) 1 := by decide +kernel
theorem d8_5 : DC B8 5 (.aaload) 1 := by decide +kernel
theorem d8_6 : DC B8 6 (.invokevirtual 15) 3 := by decide +kernel
theorem d8_9 : DC B8 9 (.checkcast 7) 3 := by decide +kernel
theorem d8_12 : DC B8 12 (.areturn) 1 := by decide +kernel
def Q80 (Z : State) (o0 : Nat) (qA : Nat) (cA : Nat) (eA : Nat) (xa : Int32) (xb : Int32) (xc : Int32) (xd : Int32) (h0 : Heap) (n0 : Nat) (v : Option Value) (h : Heap) (L : List Loc) : Prop := ∃ b2 : Nat, v = some (.ref b2) ∧ Fr n0 L ∧ h0.size ≤ b2 ∧ Keep h0 h [] ∧ Exa Z h o0 "com/example/muster/muster/core/MpdaPlan" ∧ Fld Z h o0 "com/example/muster/muster/core/MpdaPlan" "routes" "[[I" (.ref qA) ∧ AV Z h qA (.array .int) 2 (own_b2 cA eA) ∧ Exa Z h cA "[I" ∧ AV Z h cA .int 2 (fun k => .int ((own_2 xa xb) k)) ∧ Exa Z h eA "[I" ∧ AV Z h eA .int 2 (fun k => .int ((own_2 xc xd) k)) ∧ AV Z h b2 .int 2 (fun k => .int ((own_2 xa xb) k)) ∧ Exa Z h b2 "[I"
abbrev RM_1_1_2_14 : Room := { frames := 1, cells := 1, slots := 2, locals := 14 }
theorem ef_8_aa (m : MethodId) (x0 : Nat) (x1 : Int32) : entryFrame m #[(.ref x0), (.int x1)] 2 = mkF m 0 #[.val (.ref x0), .val (.int x1)] [] := by first | (simp [entryFrame, mkF, argsToLocals, Value.category]; done) | rfl
theorem rm80 (l : Launch) (Z : State) (a0 : Array Value) (hw : HW a0 Z) (ws : List Jvm.Cond) (o0 : Nat) (qA : Nat) (cA : Nat) (eA : Nat) (xa : Int32) (xb : Int32) (xc : Int32) (xd : Int32) (h0 : Heap) (n0 : Nat) (Z0 : n0 ≤ h0.size) (ha0 : Exa Z h0 o0 "com/example/muster/muster/core/MpdaPlan") (ha1 : Fld Z h0 o0 "com/example/muster/muster/core/MpdaPlan" "routes" "[[I" (.ref qA)) (ha2 : AV Z h0 qA (.array .int) 2 (own_b2 cA eA)) (ha3 : Exa Z h0 cA "[I") (ha4 : AV Z h0 cA .int 2 (fun k => .int ((own_2 xa xb) k))) (ha5 : Exa Z h0 eA "[I") (ha6 : AV Z h0 eA .int 2 (fun k => .int ((own_2 xc xd) k))) :
    MetFree l y8 (head1 (Jvm.Cond.code y8 prog_25_method_3_code 2 (some (.array .int)) :: ws) RM_1_1_2_14) (fun a U => a = #[(.ref o0), (.int 0)] ∧ Z.Warmed39 U.vm ∧ U.heap = h0) (fun _ _ _ _ _ => True) (fun _ U o U' => ∃ v L, o = .returned v ∧ Q80 Z o0 qA cA eA xa xb xc xd h0 n0 v U'.heap L ∧ FrameEnd U o U' L RM_1_1_2_14.cells RM_1_1_2_14.slots) := by
  refine MetFree.of_bodySF (plainFor_of_name pn_2) hisR ?_
  intro p e s m args below meth c s₁ Bd hml0 hP hK
  obtain ⟨rfl, hZ, hh⟩ := hP
  have hx := Bd.exec
  have hby := Bd.bytes
  have hml : c.maxLocals = 2 := hml0
  have hown : s.vm.findClass "com/example/muster/muster/core/MpdaPlan" = some m.cls := findClass_of_methodNamed Bd.named
  have X0 : Stand p l e RM_1_1_2_14 s m _ below meth c s₁ [] 0 0 := Stand.of_body Bd
  have e0 : s₁.heap = h0 := by rw [← hh, Bd.state]; rfl
  have N0 := Fr.nil n0
  refine Go.into (P := fun oo uu => ∃ v L, oo = .returned v ∧ Q80 Z o0 qA cA eA xa xb xc xd h0 n0 v uu.heap L ∧ FrameEnd s oo uu L RM_1_1_2_14.cells RM_1_1_2_14.slots) (ef_8_aa m o0 (0 : Int32)) ?_
  show Go p e below _ (s₁.setTop (mkF m 0 #[sR o0, sI 0] []))
  refine Vi (s₁.setTop (mkF m 1 #[sR o0, sI 0] [(.ref o0)])) (fun tZ kZ => ?_) ?_
  · refine XS.aloadN X0.here hx rfl (hb hby d8_0) rfl rfl ?_
    exact kZ
  refine GF X0 hx hZ hown (wq hw 41 rfl) e0 ha1 (hb hby d8_1) fun T1 X1 e1 => ?_
  refine Vi (T1.setTop (mkF m 6 #[sR o0, sI 0] [(.ref cA)])) (fun tZ kZ => ?_) ?_
  · refine XS.iloadN X1.here hx rfl (hb hby d8_4) rfl ?_
    refine AV.aaload ha2 rfl X1 hx hZ e1 (j := (0 : Int32)) (by decide) (hb hby d8_5) ?_
    rw [own_b20]
    exact kZ
  obtain ⟨T2, h2, X2, e2, E2, V2, B2, st2⟩ := AV.clone ha4 (fun _ _ => rfl) X1 hx hZ hown (wq hw 43 rfl) (wq hw 44 rfl) (wq hw 48 rfl) (wq hw 46 rfl) (wq hw 47 rfl) (wq hw 49 rfl) e1 ha3 (g := (mkF m 6 #[sR o0, sI 0] [(.ref cA)])) rfl (by rw [hml]; rfl) (rest := []) rfl (hb hby d8_6) (by decide) (W := 0) (cap := 2) (by show 2 * 0 + _ ≤ _; exact Nat.le_of_eq rfl) (by decide) (by decide) (by decide) (by decide)
  obtain ⟨b2, g2⟩ : ∃ z, z = h0.size := ⟨_, rfl⟩
  rw [← g2] at V2 B2 st2
  have g_b2 : n0 ≤ b2 := Nat.le_trans Z0 (Nat.le_of_eq g2.symm)
  have sz_b2 : h0.size ≤ b2 := Nat.le_trans ((Keep.refl h0 [])).1 (Nat.le_of_eq g2.symm)
  have ne_o0_b2 : o0 ≠ b2 := Nat.ne_of_lt (Nat.lt_of_lt_of_le ha0.lt (Nat.le_of_eq g2.symm))
  have ne_qA_b2 : qA ≠ b2 := Nat.ne_of_lt (Nat.lt_of_lt_of_le ha2.lt (Nat.le_of_eq g2.symm))
  have ne_cA_b2 : cA ≠ b2 := Nat.ne_of_lt (Nat.lt_of_lt_of_le ha3.lt (Nat.le_of_eq g2.symm))
  have ne_eA_b2 : eA ≠ b2 := Nat.ne_of_lt (Nat.lt_of_lt_of_le ha5.lt (Nat.le_of_eq g2.symm))
  have lt_o0_b2 : (o0 : Nat) < b2 := Nat.lt_of_lt_of_le ha0.lt (Nat.le_of_eq g2.symm)
  have lt_cA_b2 : (cA : Nat) < b2 := Nat.lt_of_lt_of_le ha3.lt (Nat.le_of_eq g2.symm)
  have lt_eA_b2 : (eA : Nat) < b2 := Nat.lt_of_lt_of_le ha5.lt (Nat.le_of_eq g2.symm)
  have lt_qA_b2 : (qA : Nat) < b2 := Nat.lt_of_lt_of_le ha2.lt (Nat.le_of_eq g2.symm)
  have c3_0 := ha0.ext E2
  have c3_1 := ha1.ext E2
  have c3_2 := ha2.ext E2
  have c3_3 := ha3.ext E2
  have c3_4 := ha4.ext E2
  have c3_5 := ha5.ext E2
  have c3_6 := ha6.ext E2
  have K2 : Keep h0 h2 [] := (Keep.refl h0 []).ext E2
  have Z2 := Nat.le_trans Z0 E2.1
  refine Go.via st2 ?_
  obtain ⟨T4, X4, e4, st4⟩ := castY X2 hx hZ hown (wq hw 40 rfl) e2 (Ins.self B2) (g := (mkF m 9 #[sR o0, sI 0] [(.ref b2)])) rfl rfl (hb hby d8_9)
  refine Go.via st4 ?_
  refine Go.retR X4 hx Bd.notSynchronized Bd.returns rfl rfl (hb hby d8_12) (by decide) (by decide) ?_
  rw [e4]
  exact ⟨b2, rfl, N0, sz_b2, K2, c3_0, c3_1, c3_2, c3_3, c3_4, c3_5, c3_6, V2, B2⟩
def Q81 (Z : State) (o0 : Nat) (qA : Nat) (cA : Nat) (eA : Nat) (xa : Int32) (xb : Int32) (xc : Int32) (xd : Int32) (h0 : Heap) (n0 : Nat) (v : Option Value) (h : Heap) (L : List Loc) : Prop := ∃ b2 : Nat, v = some (.ref b2) ∧ Fr n0 L ∧ h0.size ≤ b2 ∧ Keep h0 h [] ∧ Exa Z h o0 "com/example/muster/muster/core/MpdaPlan" ∧ Fld Z h o0 "com/example/muster/muster/core/MpdaPlan" "routes" "[[I" (.ref qA) ∧ AV Z h qA (.array .int) 2 (own_b2 cA eA) ∧ Exa Z h cA "[I" ∧ AV Z h cA .int 2 (fun k => .int ((own_2 xa xb) k)) ∧ Exa Z h eA "[I" ∧ AV Z h eA .int 2 (fun k => .int ((own_2 xc xd) k)) ∧ AV Z h b2 .int 2 (fun k => .int ((own_2 xc xd) k)) ∧ Exa Z h b2 "[I"
theorem rm81 (l : Launch) (Z : State) (a0 : Array Value) (hw : HW a0 Z) (ws : List Jvm.Cond) (o0 : Nat) (qA : Nat) (cA : Nat) (eA : Nat) (xa : Int32) (xb : Int32) (xc : Int32) (xd : Int32) (h0 : Heap) (n0 : Nat) (Z0 : n0 ≤ h0.size) (ha0 : Exa Z h0 o0 "com/example/muster/muster/core/MpdaPlan") (ha1 : Fld Z h0 o0 "com/example/muster/muster/core/MpdaPlan" "routes" "[[I" (.ref qA)) (ha2 : AV Z h0 qA (.array .int) 2 (own_b2 cA eA)) (ha3 : Exa Z h0 cA "[I") (ha4 : AV Z h0 cA .int 2 (fun k => .int ((own_2 xa xb) k))) (ha5 : Exa Z h0 eA "[I") (ha6 : AV Z h0 eA .int 2 (fun k => .int ((own_2 xc xd) k))) :
    MetFree l y8 (head1 (Jvm.Cond.code y8 prog_25_method_3_code 2 (some (.array .int)) :: ws) RM_1_1_2_14) (fun a U => a = #[(.ref o0), (.int 1)] ∧ Z.Warmed39 U.vm ∧ U.heap = h0) (fun _ _ _ _ _ => True) (fun _ U o U' => ∃ v L, o = .returned v ∧ Q81 Z o0 qA cA eA xa xb xc xd h0 n0 v U'.heap L ∧ FrameEnd U o U' L RM_1_1_2_14.cells RM_1_1_2_14.slots) := by
  refine MetFree.of_bodySF (plainFor_of_name pn_2) hisR ?_
  intro p e s m args below meth c s₁ Bd hml0 hP hK
  obtain ⟨rfl, hZ, hh⟩ := hP
  have hx := Bd.exec
  have hby := Bd.bytes
  have hml : c.maxLocals = 2 := hml0
  have hown : s.vm.findClass "com/example/muster/muster/core/MpdaPlan" = some m.cls := findClass_of_methodNamed Bd.named
  have X0 : Stand p l e RM_1_1_2_14 s m _ below meth c s₁ [] 0 0 := Stand.of_body Bd
  have e0 : s₁.heap = h0 := by rw [← hh, Bd.state]; rfl
  have N0 := Fr.nil n0
  refine Go.into (P := fun oo uu => ∃ v L, oo = .returned v ∧ Q81 Z o0 qA cA eA xa xb xc xd h0 n0 v uu.heap L ∧ FrameEnd s oo uu L RM_1_1_2_14.cells RM_1_1_2_14.slots) (ef_8_aa m o0 (1 : Int32)) ?_
  show Go p e below _ (s₁.setTop (mkF m 0 #[sR o0, sI 1] []))
  refine Vi (s₁.setTop (mkF m 1 #[sR o0, sI 1] [(.ref o0)])) (fun tZ kZ => ?_) ?_
  · refine XS.aloadN X0.here hx rfl (hb hby d8_0) rfl rfl ?_
    exact kZ
  refine GF X0 hx hZ hown (wq hw 41 rfl) e0 ha1 (hb hby d8_1) fun T1 X1 e1 => ?_
  refine Vi (T1.setTop (mkF m 6 #[sR o0, sI 1] [(.ref eA)])) (fun tZ kZ => ?_) ?_
  · refine XS.iloadN X1.here hx rfl (hb hby d8_4) rfl ?_
    refine AV.aaload ha2 rfl X1 hx hZ e1 (j := (1 : Int32)) (by decide) (hb hby d8_5) ?_
    rw [own_b21]
    exact kZ
  obtain ⟨T2, h2, X2, e2, E2, V2, B2, st2⟩ := AV.clone ha6 (fun _ _ => rfl) X1 hx hZ hown (wq hw 43 rfl) (wq hw 44 rfl) (wq hw 48 rfl) (wq hw 46 rfl) (wq hw 47 rfl) (wq hw 49 rfl) e1 ha5 (g := (mkF m 6 #[sR o0, sI 1] [(.ref eA)])) rfl (by rw [hml]; rfl) (rest := []) rfl (hb hby d8_6) (by decide) (W := 0) (cap := 2) (by show 2 * 0 + _ ≤ _; exact Nat.le_of_eq rfl) (by decide) (by decide) (by decide) (by decide)
  obtain ⟨b2, g2⟩ : ∃ z, z = h0.size := ⟨_, rfl⟩
  rw [← g2] at V2 B2 st2
  have g_b2 : n0 ≤ b2 := Nat.le_trans Z0 (Nat.le_of_eq g2.symm)
  have sz_b2 : h0.size ≤ b2 := Nat.le_trans ((Keep.refl h0 [])).1 (Nat.le_of_eq g2.symm)
  have ne_o0_b2 : o0 ≠ b2 := Nat.ne_of_lt (Nat.lt_of_lt_of_le ha0.lt (Nat.le_of_eq g2.symm))
  have ne_qA_b2 : qA ≠ b2 := Nat.ne_of_lt (Nat.lt_of_lt_of_le ha2.lt (Nat.le_of_eq g2.symm))
  have ne_cA_b2 : cA ≠ b2 := Nat.ne_of_lt (Nat.lt_of_lt_of_le ha3.lt (Nat.le_of_eq g2.symm))
  have ne_eA_b2 : eA ≠ b2 := Nat.ne_of_lt (Nat.lt_of_lt_of_le ha5.lt (Nat.le_of_eq g2.symm))
  have lt_o0_b2 : (o0 : Nat) < b2 := Nat.lt_of_lt_of_le ha0.lt (Nat.le_of_eq g2.symm)
  have lt_cA_b2 : (cA : Nat) < b2 := Nat.lt_of_lt_of_le ha3.lt (Nat.le_of_eq g2.symm)
  have lt_eA_b2 : (eA : Nat) < b2 := Nat.lt_of_lt_of_le ha5.lt (Nat.le_of_eq g2.symm)
  have lt_qA_b2 : (qA : Nat) < b2 := Nat.lt_of_lt_of_le ha2.lt (Nat.le_of_eq g2.symm)
  have c3_0 := ha0.ext E2
  have c3_1 := ha1.ext E2
  have c3_2 := ha2.ext E2
  have c3_3 := ha3.ext E2
  have c3_4 := ha4.ext E2
  have c3_5 := ha5.ext E2
  have c3_6 := ha6.ext E2
  have K2 : Keep h0 h2 [] := (Keep.refl h0 []).ext E2
  have Z2 := Nat.le_trans Z0 E2.1
  refine Go.via st2 ?_
  obtain ⟨T4, X4, e4, st4⟩ := castY X2 hx hZ hown (wq hw 40 rfl) e2 (Ins.self B2) (g := (mkF m 9 #[sR o0, sI 1] [(.ref b2)])) rfl rfl (hb hby d8_9)
  refine Go.via st4 ?_
  refine Go.retR X4 hx Bd.notSynchronized Bd.returns rfl rfl (hb hby d8_12) (by decide) (by decide) ?_
  rw [e4]
  exact ⟨b2, rfl, N0, sz_b2, K2, c3_0, c3_1, c3_2, c3_3, c3_4, c3_5, c3_6, V2, B2⟩
open Jvm.Free.Fl in
def GB (K : Nat) (f : Nat → Nat → Nat → UInt64) : Prop := ∀ i j k, Mag64 K (f i j k)
open Jvm.Free.Fl in
theorem GB.upd {K : Nat} {f : Nat → Nat → Nat → UInt64} (h : GB K f) (i j k : Nat) {v : UInt64} (hv : Mag64 (K + 2) v) : GB (K + 2) (own_upd f i j (up (f i j) k v)) := by
  intro i' j' k'
  unfold own_upd
  split
  · show Mag64 _ (if k' = k then v else f i j k')
    split
    · exact hv
    · exact (h i j k').mono (by omega)
  · exact (h i' j' k').mono (by omega)
def own_d1 (g : Nat → Nat → Nat → UInt64) (i j k : Nat) (d : UInt64) : Nat → Nat → Nat → UInt64 := own_upd g i j (up (g i j) k (FP.dadd (g i j k) d))
open Jvm.Free.Fl in
theorem GB.d1 {K : Nat} {f : Nat → Nat → Nat → UInt64} (h : GB K f) (i j k : Nat) {d : UInt64} (hd : Mag64 K d) (hK : K ≤ 2047) : GB (K + 2) (own_d1 f i j k d) := h.upd i j k (dadd_mag (h i j k) hd hK)
open Jvm.Free.Fl in
theorem own_add {K : Nat} {x y : UInt64} (hx : Mag64 K x) (hy : Mag64 K y) (hK : K + 2 ≤ 2047) : NoNaN64 (FP.dadd x y) := ((dadd_mag hx hy (by omega)).fin (by omega)).noNaN
theorem d6_0 : DC B6 0 (.iconst 0) 1 := by decide +kernel
theorem d6_1 : DC B6 1 (.istore 4) 2 := by decide +kernel
theorem d6_3 : DC B6 3 (.iload 4) 2 := by decide +kernel
theorem d6_5 : DC B6 5 (.aload_n 1) 1 := by decide +kernel
theorem pd_6 : parseMethodDescriptor "()I" = some ⟨[], some .int⟩ := by decide +kernel
theorem d6_6 : DC B6 6 (.invokevirtual 30) 3 := by decide +kernel
theorem d6_9 : DC B6 9 (.if_icmp .ge 71) 3 := by decide +kernel
theorem d6_12 : DC B6 12 (.iconst (-1)) 1 := by decide +kernel
theorem d6_13 : DC B6 13 (.istore 5) 2 := by decide +kernel
theorem d6_15 : DC B6 15 (.aload_n 1) 1 := by decide +kernel
theorem d6_16 : DC B6 16 (.iload 4) 2 := by decide +kernel
theorem pd_7 : parseMethodDescriptor "(I)[I" = some ⟨[.int], some (.array .int)⟩ := by decide +kernel
theorem d6_18 : DC B6 18 (.invokevirtual 38) 3 := by decide +kernel
theorem d6_21 : DC B6 21 (.astore 6) 2 := by decide +kernel
theorem d6_23 : DC B6 23 (.aload 6) 2 := by decide +kernel
theorem d6_25 : DC B6 25 (.arraylength) 1 := by decide +kernel
theorem d6_26 : DC B6 26 (.istore 7) 2 := by decide +kernel
theorem d6_28 : DC B6 28 (.iconst 0) 1 := by decide +kernel
theorem d6_29 : DC B6 29 (.istore 8) 2 := by decide +kernel
theorem d6_31 : DC B6 31 (.iload 8) 2 := by decide +kernel
theorem d6_33 : DC B6 33 (.iload 7) 2 := by decide +kernel
theorem d6_35 : DC B6 35 (.if_icmp .ge 39) 3 := by decide +kernel
theorem d6_38 : DC B6 38 (.aload 6) 2 := by decide +kernel
theorem d6_40 : DC B6 40 (.iload 8) 2 := by decide +kernel
theorem d6_42 : DC B6 42 (.iaload) 1 := by decide +kernel
theorem d6_43 : DC B6 43 (.istore 9) 2 := by decide +kernel
theorem d6_45 : DC B6 45 (.aload_n 0) 1 := by decide +kernel
theorem d6_46 : DC B6 46 (.getfield 18) 3 := by decide +kernel
theorem d6_49 : DC B6 49 (.iload 4) 2 := by decide +kernel
theorem d6_51 : DC B6 51 (.aaload) 1 := by decide +kernel
theorem d6_52 : DC B6 52 (.iload 5) 2 := by decide +kernel
theorem d6_54 : DC B6 54 (.iconst 1) 1 := by decide +kernel
theorem d6_55 : DC B6 55 (.iadd) 1 := by decide +kernel
theorem d6_56 : DC B6 56 (.aaload) 1 := by decide +kernel
theorem d6_57 : DC B6 57 (.iload 9) 2 := by decide +kernel
theorem d6_59 : DC B6 59 (.dup2) 1 := by decide +kernel
theorem d6_60 : DC B6 60 (.daload) 1 := by decide +kernel
theorem d6_61 : DC B6 61 (.dload_n 2) 1 := by decide +kernel
theorem d6_62 : DC B6 62 (.dadd) 1 := by decide +kernel
theorem d6_63 : DC B6 63 (.dastore) 1 := by decide +kernel
theorem d6_64 : DC B6 64 (.iload 9) 2 := by decide +kernel
theorem d6_66 : DC B6 66 (.istore 5) 2 := by decide +kernel
theorem d6_68 : DC B6 68 (.iinc 8 1) 3 := by decide +kernel
theorem d6_71 : DC B6 71 (.goto (-40)) 3 := by decide +kernel
theorem d6_74 : DC B6 74 (.iinc 4 1) 3 := by decide +kernel
theorem d6_77 : DC B6 77 (.goto (-74)) 3 := by decide +kernel
theorem d6_80 : DC B6 80 (.return_) 1 := by decide +kernel
def Q6 (Z : State) (o0 : Nat) (o1 : Nat) (d2 : UInt64) (dA : Nat) (g : Nat → Nat → Nat → UInt64) (qA : Nat) (cA : Nat) (eA : Nat) (xa : Int32) (xb : Int32) (xc : Int32) (xd : Int32) (h0 : Heap) (n0 : Nat) (v : Option Value) (h : Heap) (L : List Loc) : Prop := v = none ∧ Fr n0 L ∧ Keep h0 h [(dA + 2 + 4 * 0 + 0), (dA + 2 + 4 * 0 + (xa + (1 : Int32)).toNatClampNeg), (dA + 2 + 4 * 1 + 0), (dA + 2 + 4 * 1 + (xc + (1 : Int32)).toNatClampNeg)] ∧ Exa Z h o0 "com/example/muster/muster/solvers/Pheromone" ∧ Fld Z h o0 "com/example/muster/muster/solvers/Pheromone" "deposited" "[[[D" (.ref dA) ∧ Gd Z h dA (own_d1 (own_d1 (own_d1 (own_d1 g 0 0 xa.toNatClampNeg d2) 0 (xa + (1 : Int32)).toNatClampNeg xb.toNatClampNeg d2) 1 0 xc.toNatClampNeg d2) 1 (xc + (1 : Int32)).toNatClampNeg xd.toNatClampNeg d2) ∧ Exa Z h o1 "com/example/muster/muster/core/MpdaPlan" ∧ Fld Z h o1 "com/example/muster/muster/core/MpdaPlan" "routes" "[[I" (.ref qA) ∧ AV Z h qA (.array .int) 2 (own_b2 cA eA) ∧ Exa Z h cA "[I" ∧ AV Z h cA .int 2 (fun k => .int ((own_2 xa xb) k)) ∧ Exa Z h eA "[I" ∧ AV Z h eA .int 2 (fun k => .int ((own_2 xc xd) k))
abbrev RM_2_2_4_27 : Room := { frames := 2, cells := 2, slots := 4, locals := 27 }
theorem ef_6_aaa (m : MethodId) (x0 : Nat) (x1 : Nat) (x2 : UInt64) : entryFrame m #[(.ref x0), (.ref x1), (.double x2)] 10 = mkF m 0 #[.val (.ref x0), .val (.ref x1), .val (.double x2), .second, .unset, .unset, .unset, .unset, .unset, .unset] [] := by first | (simp [entryFrame, mkF, argsToLocals, Value.category]; done) | rfl
theorem rm6 (l : Launch) (Z : State) (a0 : Array Value) (hw : HW a0 Z) (ws : List Jvm.Cond) (o0 : Nat) (o1 : Nat) (d2 : UInt64) (dA : Nat) (g : Nat → Nat → Nat → UInt64) (qA : Nat) (cA : Nat) (eA : Nat) (xa : Int32) (xb : Int32) (xc : Int32) (xd : Int32) (h0 : Heap) (n0 : Nat) (Z0 : n0 ≤ h0.size) (ha0 : Exa Z h0 o0 "com/example/muster/muster/solvers/Pheromone") (ha1 : Fld Z h0 o0 "com/example/muster/muster/solvers/Pheromone" "deposited" "[[[D" (.ref dA)) (ha2 : Gd Z h0 dA g) (ha3 : n0 ≤ dA) (ha4 : Exa Z h0 o1 "com/example/muster/muster/core/MpdaPlan") (ha5 : Fld Z h0 o1 "com/example/muster/muster/core/MpdaPlan" "routes" "[[I" (.ref qA)) (ha6 : AV Z h0 qA (.array .int) 2 (own_b2 cA eA)) (ha7 : Exa Z h0 cA "[I") (ha8 : AV Z h0 cA .int 2 (fun k => .int ((own_2 xa xb) k))) (ha9 : Exa Z h0 eA "[I") (ha10 : AV Z h0 eA .int 2 (fun k => .int ((own_2 xc xd) k))) (ha : xa = 0 ∨ xa = 1) (hb_ : xb = 0 ∨ xb = 1) (hc_ : xc = 0 ∨ xc = 1) (hd_ : xd = 0 ∨ xd = 1) (ho0 : o0 < dA ∨ dA + 9 ≤ o0) (ho_o1 : o1 < dA ∨ dA + 9 ≤ o1) (ho_qA : qA < dA ∨ dA + 9 ≤ qA) (ho_cA : cA < dA ∨ dA + 9 ≤ cA) (ho_eA : eA < dA ∨ dA + 9 ≤ eA) (hg0 : GB 1060 g) (hamt : Jvm.Free.Fl.Mag64 1060 d2) :
    MetFree l y6 (head1 (Jvm.Cond.code y6 prog_48_method_4_code 10 none :: ws) RM_2_2_4_27) (fun a U => a = #[(.ref o0), (.ref o1), (.double d2)] ∧ Z.Warmed39 U.vm ∧ U.heap = h0) (fun _ _ _ _ _ => True) (fun _ U o U' => ∃ v L, o = .returned v ∧ Q6 Z o0 o1 d2 dA g qA cA eA xa xb xc xd h0 n0 v U'.heap L ∧ FrameEnd U o U' L RM_2_2_4_27.cells RM_2_2_4_27.slots) := by
  refine MetFree.of_bodySF (plainFor_of_name pn_1) hisR ?_
  intro p e s m args below meth c s₁ Bd hml0 hP hK
  obtain ⟨rfl, hZ, hh⟩ := hP
  have hx := Bd.exec
  have hby := Bd.bytes
  have hml : c.maxLocals = 10 := hml0
  have hown : s.vm.findClass "com/example/muster/muster/solvers/Pheromone" = some m.cls := findClass_of_methodNamed Bd.named
  have X0 : Stand p l e RM_2_2_4_27 s m _ below meth c s₁ [] 0 0 := Stand.of_body Bd
  have e0 : s₁.heap = h0 := by rw [← hh, Bd.state]; rfl
  have N0 := Fr.nil n0
  refine Go.into (P := fun oo uu => ∃ v L, oo = .returned v ∧ Q6 Z o0 o1 d2 dA g qA cA eA xa xb xc xd h0 n0 v uu.heap L ∧ FrameEnd s oo uu L RM_2_2_4_27.cells RM_2_2_4_27.slots) (ef_6_aaa m o0 o1 d2) ?_
  show Go p e below _ (s₁.setTop (mkF m 0 #[sR o0, sR o1, .val (.double d2), .second, .unset, .unset, .unset, .unset, .unset, .unset] []))
  have q1 := (own_p1 ha).2
  have q2 := (own_p1 hc_).2
  refine Vi (s₁.setTop (mkF m 6 #[sR o0, sR o1, .val (.double d2), .second, sI 0, .unset, .unset, .unset, .unset, .unset] [(.ref o1), (.int 0)])) (fun tZ kZ => ?_) ?_
  · refine XS.iconst X0.here hx rfl (hb hby d6_0) ?_
    refine XS.istore X0.here hx rfl (hb hby d6_1) rfl (l' := #[sR o0, sR o1, .val (.double d2), .second, sI 0, .unset, .unset, .unset, .unset, .unset]) rfl ?_
    refine XS.iload X0.here hx rfl (hb hby d6_3) rfl ?_
    refine XS.aloadN X0.here hx rfl (hb hby d6_5) rfl rfl ?_
    exact kZ
  obtain ⟨cq1, kq1, q1a, q1b, q1c⟩ := isOf hZ e0 ha4
  obtain ⟨_, _, ⟨T1, L1, k1, n1⟩, -, X1, ⟨Lc1, hQ1, l1, y1, z1⟩, st1⟩ := X0.virtualBack hx (y := y7) (z := y7) hown (wz hZ hw 55 rfl) (wz hZ hw 56 rfl) (notFace_of_selects (args := #[]) (wz hZ hw 58 rfl)) (wz hZ hw 58 rfl) (wz hZ hw 57 rfl) (by decide) (backOf (W := 1) (rm7 l Z a0 hw [] o1 qA cA eA h0 n0 Z0 ha4 ha5 ha6) hZ (wq hw 59 rfl) (wq hw 35 rfl) (by decide) (by decide)) q1a q1c (g := (mkF m 6 #[sR o0, sR o1, .val (.double d2), .second, sI 0, .unset, .unset, .unset, .unset, .unset] [(.ref o1), (.int 0)])) rfl (by rw [hml]; rfl) (Steps.refl _) (argsL := []) (rest := [(.int 0)]) (lenOf pd_6 rfl) rfl (leW rfl) (hb hby d6_6) (fun _ _ => ⟨rfl, e0, (by decide : 0 + 0 ≤ _), (by decide : 0 + 0 ≤ _)⟩)
  dsimp only [Pt.U, Pt.locs, Pt.cells, Pt.slots] at X1 l1 y1 z1 st1 hQ1
  subst l1 y1 z1
  obtain ⟨rfl, N1q, e1⟩ := hQ1
  have N1 := Fr.app N0 N1q
  refine Go.via (fun t k => st1.trans k) ?_
  refine Vi (T1.setTop (mkF m 18 #[sR o0, sR o1, .val (.double d2), .second, sI 0, sI (-1), .unset, .unset, .unset, .unset] [(.int 0), (.ref o1)])) (fun tZ kZ => ?_) ?_
  · refine XS.icmpNo X1.here hx rfl (hb hby d6_9) rfl (tlt (by show (0 : Int32) < 2; decide)).2.1 ?_
    refine XS.iconst X1.here hx rfl (hb hby d6_12) ?_
    refine XS.istore X1.here hx rfl (hb hby d6_13) rfl (l' := #[sR o0, sR o1, .val (.double d2), .second, sI 0, sI (-1), .unset, .unset, .unset, .unset]) rfl ?_
    refine XS.aloadN X1.here hx rfl (hb hby d6_15) rfl rfl ?_
    refine XS.iload X1.here hx rfl (hb hby d6_16) rfl ?_
    exact kZ
  obtain ⟨cq2, kq2, q2a, q2b, q2c⟩ := isOf hZ e1 ha4
  obtain ⟨_, _, ⟨T2, L2, k2, n2⟩, -, X2, ⟨Lc2, hQ2, l2, y2, z2⟩, st2⟩ := X1.virtualBack hx (y := y8) (z := y8) hown (wz hZ hw 60 rfl) (wz hZ hw 61 rfl) (notFace_of_selects (args := #[]) (wz hZ hw 63 rfl)) (wz hZ hw 63 rfl) (wz hZ hw 62 rfl) (by decide) (backOf (W := 0) (rm80 l Z a0 hw [] o1 qA cA eA xa xb xc xd h0 n0 Z0 ha4 ha5 ha6 ha7 ha8 ha9 ha10) hZ (wq hw 64 rfl) (wq hw 35 rfl) (by decide) (by decide)) q2a q2c (g := (mkF m 18 #[sR o0, sR o1, .val (.double d2), .second, sI 0, sI (-1), .unset, .unset, .unset, .unset] [(.int 0), (.ref o1)])) rfl (by rw [hml]; rfl) (Steps.refl _) (argsL := [(.int 0)]) (rest := []) (lenOf pd_7 rfl) rfl (leW rfl) (hb hby d6_18) (fun _ _ => ⟨rfl, e1, (by decide : 0 + 0 + 1 ≤ _), (by decide : 0 + 0 + 2 ≤ _)⟩)
  dsimp only [Pt.U, Pt.locs, Pt.cells, Pt.slots] at X2 l2 y2 z2 st2 hQ2
  subst l2 y2 z2
  obtain ⟨b2_0, rfl, N2q, hz_b2_0, Kq2, f2_0, f2_1, f2_2, f2_3, f2_4, f2_5, f2_6, f2_7, f2_8⟩ := hQ2
  have g_b2_0 : n0 ≤ b2_0 := Nat.le_trans Z0 hz_b2_0
  have sz_b2_0 : h0.size ≤ b2_0 := Nat.le_trans ((Keep.refl h0 [(dA + 2 + 4 * 0 + 0), (dA + 2 + 4 * 0 + (xa + (1 : Int32)).toNatClampNeg), (dA + 2 + 4 * 1 + 0), (dA + 2 + 4 * 1 + (xc + (1 : Int32)).toNatClampNeg)])).1 hz_b2_0
  have ne_o0_b2_0 : o0 ≠ b2_0 := Nat.ne_of_lt (Nat.lt_of_lt_of_le ha0.lt hz_b2_0)
  have ne_o1_b2_0 : o1 ≠ b2_0 := Nat.ne_of_lt (Nat.lt_of_lt_of_le ha4.lt hz_b2_0)
  have ne_qA_b2_0 : qA ≠ b2_0 := Nat.ne_of_lt (Nat.lt_of_lt_of_le ha6.lt hz_b2_0)
  have ne_cA_b2_0 : cA ≠ b2_0 := Nat.ne_of_lt (Nat.lt_of_lt_of_le ha7.lt hz_b2_0)
  have ne_eA_b2_0 : eA ≠ b2_0 := Nat.ne_of_lt (Nat.lt_of_lt_of_le ha9.lt hz_b2_0)
  have lt_o0_b2_0 : (o0 : Nat) < b2_0 := Nat.lt_of_lt_of_le ha0.lt hz_b2_0
  have lt_dA_b2_0 : (dA : Nat) + 9 ≤ b2_0 := Nat.le_trans ha2.lt hz_b2_0
  have lt_o1_b2_0 : (o1 : Nat) < b2_0 := Nat.lt_of_lt_of_le ha4.lt hz_b2_0
  have lt_qA_b2_0 : (qA : Nat) < b2_0 := Nat.lt_of_lt_of_le ha6.lt hz_b2_0
  have lt_cA_b2_0 : (cA : Nat) < b2_0 := Nat.lt_of_lt_of_le ha7.lt hz_b2_0
  have lt_eA_b2_0 : (eA : Nat) < b2_0 := Nat.lt_of_lt_of_le ha9.lt hz_b2_0
  have c3_0 := ha0.keep Kq2
  have c3_1 := ha1.keep Kq2 nin0
  have c3_2 := ha2.keep Kq2 all0
  have K2 : Keep h0 T2.heap [(dA + 2 + 4 * 0 + 0), (dA + 2 + 4 * 0 + (xa + (1 : Int32)).toNatClampNeg), (dA + 2 + 4 * 1 + 0), (dA + 2 + 4 * 1 + (xc + (1 : Int32)).toNatClampNeg)] := (Keep.refl h0 [(dA + 2 + 4 * 0 + 0), (dA + 2 + 4 * 0 + (xa + (1 : Int32)).toNatClampNeg), (dA + 2 + 4 * 1 + 0), (dA + 2 + 4 * 1 + (xc + (1 : Int32)).toNatClampNeg)]).trans Kq2 all0
  have Z2 := Nat.le_trans Z0 Kq2.1
  have N2 := Fr.app N1 N2q
  refine Go.via (fun t k => st2.trans k) ?_
  refine Vi (T2.setTop (mkF m 45 #[sR o0, sR o1, .val (.double d2), .second, sI 0, sI (-1), sR b2_0, sI 2, sI 0, sI ((own_2 xa xb) (0 : Int32).toNatClampNeg)] [])) (fun tZ kZ => ?_) ?_
  · refine XS.astore X2.here hx rfl (hb hby d6_21) rfl rfl (l' := #[sR o0, sR o1, .val (.double d2), .second, sI 0, sI (-1), sR b2_0, .unset, .unset, .unset]) rfl ?_
    refine XS.aload X2.here hx rfl (hb hby d6_23) rfl rfl ?_
    refine AV.len f2_7 X2 hx hZ rfl (hb hby d6_25) ?_
    refine XS.istore X2.here hx rfl (hb hby d6_26) rfl (l' := #[sR o0, sR o1, .val (.double d2), .second, sI 0, sI (-1), sR b2_0, sI 2, .unset, .unset]) rfl ?_
    refine XS.iconst X2.here hx rfl (hb hby d6_28) ?_
    refine XS.istore X2.here hx rfl (hb hby d6_29) rfl (l' := #[sR o0, sR o1, .val (.double d2), .second, sI 0, sI (-1), sR b2_0, sI 2, sI 0, .unset]) rfl ?_
    refine XS.iload X2.here hx rfl (hb hby d6_31) rfl ?_
    refine XS.iload X2.here hx rfl (hb hby d6_33) rfl ?_
    refine XS.icmpNo X2.here hx rfl (hb hby d6_35) rfl (tlt (by decide)).2.1 ?_
    refine XS.aload X2.here hx rfl (hb hby d6_38) rfl rfl ?_
    refine XS.iload X2.here hx rfl (hb hby d6_40) rfl ?_
    refine AV.iaload f2_7 X2 hx hZ rfl (j := (0 : Int32)) (by decide) (hb hby d6_42) ?_
    refine XS.istore X2.here hx rfl (hb hby d6_43) rfl (l' := #[sR o0, sR o1, .val (.double d2), .second, sI 0, sI (-1), sR b2_0, sI 2, sI 0, sI ((own_2 xa xb) (0 : Int32).toNatClampNeg)]) rfl ?_
    exact kZ
  show Go p e below _ (T2.setTop (mkF m 45 #[sR o0, sR o1, .val (.double d2), .second, sI 0, sI (-1), sR b2_0, sI 2, sI 0, sI xa] []))
  refine Vi (T2.setTop (mkF m 46 #[sR o0, sR o1, .val (.double d2), .second, sI 0, sI (-1), sR b2_0, sI 2, sI 0, sI xa] [(.ref o0)])) (fun tZ kZ => ?_) ?_
  · refine XS.aloadN X2.here hx rfl (hb hby d6_45) rfl rfl ?_
    exact kZ
  refine GF X2 hx hZ hown (wq hw 22 rfl) rfl c3_1 (hb hby d6_46) fun T4 X4 e4 => ?_
  refine Vi (T4.setTop (mkF m 63 #[sR o0, sR o1, .val (.double d2), .second, sI 0, sI (-1), sR b2_0, sI 2, sI 0, sI xa] [(.double (FP.dadd ((g 0 0) xa.toNatClampNeg) d2)), (.int xa), (.ref (dA + 2 + 4 * 0 + 0))])) (fun tZ kZ => ?_) ?_
  · refine XS.iload X4.here hx rfl (hb hby d6_49) rfl ?_
    refine AV.aaload c3_2.top rfl X4 hx hZ e4 (j := (0 : Int32)) (by decide) (hb hby d6_51) ?_
    refine XS.iload X4.here hx rfl (hb hby d6_52) rfl ?_
    refine XS.iconst X4.here hx rfl (hb hby d6_54) ?_
    refine XS.iadd X4.here hx rfl (hb hby d6_55) rfl ?_
    refine AV.aaload (c3_2.row 0 (by decide)) rfl X4 hx hZ e4 (j := (0 : Int32)) (by decide) (hb hby d6_56) ?_
    refine XS.iload X4.here hx rfl (hb hby d6_57) rfl ?_
    refine Jvm.Free.XT.dup2 X4.here hx rfl (hb hby d6_59) rfl rfl rfl ?_
    refine AV.daload (c3_2.cell 0 0 (by decide) (by decide)) X4 hx hZ e4 (j := xa) (own_xb ha) (hb hby d6_60) ?_
    refine XS.dloadN X4.here hx rfl (hb hby d6_61) rfl ?_
    refine XS.daddS X4.here hx rfl (hb hby d6_62) rfl (own_add (hg0 _ _ _) (hamt.mono (by decide)) (by decide)) rfl ?_
    exact kZ
  obtain ⟨T5, h5, X5, e5, W5, V5, st5⟩ := AV.dastore (c3_2.cell 0 0 (by decide) (by decide)) X4 hx hZ e4 (j := xa) (own_xb ha) (Ls := #[sR o0, sR o1, .val (.double d2), .second, sI 0, sI (-1), sR b2_0, sI 2, sI 0, sI xa]) (rest := []) (hb hby d6_63) (x := (FP.dadd ((g 0 0) xa.toNatClampNeg) d2))
  have N5 := Fr.snoc X5 N2 (Nat.le_trans ha3 (show dA ≤ (dA + 2 + 4 * 0 + 0) by omega))
  have c6_0 := c3_0.wr W5
  have c6_1 := c3_1.other W5 (Or.inl (own_na (by omega)))
  have c6_2 := c3_2
  have c6_4 := f2_0.wr W5
  have c6_5 := f2_1.other W5 (Or.inl (own_na (by omega)))
  have c6_6 := f2_2.other W5 (own_na (by omega))
  have c6_7 := f2_3.wr W5
  have c6_8 := f2_4.other W5 (own_na (by omega))
  have c6_9 := f2_5.wr W5
  have c6_10 := f2_6.other W5 (own_na (by omega))
  have c6_11 := f2_7.other W5 (own_na (by omega))
  have c6_12 := f2_8.wr W5
  have K5 : Keep h0 h5 [(dA + 2 + 4 * 0 + 0), (dA + 2 + 4 * 0 + (xa + (1 : Int32)).toNatClampNeg), (dA + 2 + 4 * 1 + 0), (dA + 2 + 4 * 1 + (xc + (1 : Int32)).toNatClampNeg)] := K2.wr W5 (Or.inl (by simp))
  have Z5 := Nat.le_trans Z2 (Keep.of_wr W5).1
  have gb6 : GB 1062 (own_d1 g 0 0 xa.toNatClampNeg d2) := hg0.d1 _ _ _ (hamt.mono (by decide)) (by decide)
  have Gw5 : Gd Z h5 dA (own_d1 g 0 0 xa.toNatClampNeg d2) := (Gd.set c3_2 0 0 (by decide) (by decide) W5 V5).congr (fun _ _ _ _ _ _ => rfl)
  refine Go.via st5 ?_
  refine Vi (T5.setTop (mkF m 45 #[sR o0, sR o1, .val (.double d2), .second, sI 0, sI xa, sR b2_0, sI 2, sI 1, sI ((own_2 xa xb) (1 : Int32).toNatClampNeg)] [])) (fun tZ kZ => ?_) ?_
  · refine XS.iload X5.here hx rfl (hb hby d6_64) rfl ?_
    refine XS.istore X5.here hx rfl (hb hby d6_66) rfl (l' := #[sR o0, sR o1, .val (.double d2), .second, sI 0, sI xa, sR b2_0, sI 2, sI 0, sI xa]) rfl ?_
    refine XS.iinc X5.here hx rfl (hb hby d6_68) rfl (l' := #[sR o0, sR o1, .val (.double d2), .second, sI 0, sI xa, sR b2_0, sI 2, sI 1, sI xa]) rfl ?_
    refine XS.goto X5.here hx rfl (pc0 := 71) (pc' := 31) rfl (hb hby d6_71) (by decide) (by decide) ?_
    refine XS.iload X5.here hx rfl (hb hby d6_31) rfl ?_
    refine XS.iload X5.here hx rfl (hb hby d6_33) rfl ?_
    refine XS.icmpNo X5.here hx rfl (hb hby d6_35) rfl (tlt (by decide)).2.1 ?_
    refine XS.aload X5.here hx rfl (hb hby d6_38) rfl rfl ?_
    refine XS.iload X5.here hx rfl (hb hby d6_40) rfl ?_
    refine AV.iaload c6_11 X5 hx hZ e5 (j := (1 : Int32)) (by decide) (hb hby d6_42) ?_
    refine XS.istore X5.here hx rfl (hb hby d6_43) rfl (l' := #[sR o0, sR o1, .val (.double d2), .second, sI 0, sI xa, sR b2_0, sI 2, sI 1, sI ((own_2 xa xb) (1 : Int32).toNatClampNeg)]) rfl ?_
    exact kZ
  show Go p e below _ (T5.setTop (mkF m 45 #[sR o0, sR o1, .val (.double d2), .second, sI 0, sI xa, sR b2_0, sI 2, sI 1, sI xb] []))
  refine Vi (T5.setTop (mkF m 46 #[sR o0, sR o1, .val (.double d2), .second, sI 0, sI xa, sR b2_0, sI 2, sI 1, sI xb] [(.ref o0)])) (fun tZ kZ => ?_) ?_
  · refine XS.aloadN X5.here hx rfl (hb hby d6_45) rfl rfl ?_
    exact kZ
  refine GF X5 hx hZ hown (wq hw 22 rfl) e5 c6_1 (hb hby d6_46) fun T7 X7 e7 => ?_
  refine Vi (T7.setTop (mkF m 63 #[sR o0, sR o1, .val (.double d2), .second, sI 0, sI xa, sR b2_0, sI 2, sI 1, sI xb] [(.double (FP.dadd (((own_d1 g 0 0 xa.toNatClampNeg d2) 0 (xa + (1 : Int32)).toNatClampNeg) xb.toNatClampNeg) d2)), (.int xb), (.ref (dA + 2 + 4 * 0 + (xa + (1 : Int32)).toNatClampNeg))])) (fun tZ kZ => ?_) ?_
  · refine XS.iload X7.here hx rfl (hb hby d6_49) rfl ?_
    refine AV.aaload Gw5.top rfl X7 hx hZ e7 (j := (0 : Int32)) (by decide) (hb hby d6_51) ?_
    refine XS.iload X7.here hx rfl (hb hby d6_52) rfl ?_
    refine XS.iconst X7.here hx rfl (hb hby d6_54) ?_
    refine XS.iadd X7.here hx rfl (hb hby d6_55) rfl ?_
    refine AV.aaload (Gw5.row 0 (by decide)) rfl X7 hx hZ e7 (j := (xa + (1 : Int32))) (own_p1 ha) (hb hby d6_56) ?_
    refine XS.iload X7.here hx rfl (hb hby d6_57) rfl ?_
    refine Jvm.Free.XT.dup2 X7.here hx rfl (hb hby d6_59) rfl rfl rfl ?_
    refine AV.daload (Gw5.cell 0 (xa + (1 : Int32)).toNatClampNeg (by decide) (own_p1 ha).2) X7 hx hZ e7 (j := xb) (own_xb hb_) (hb hby d6_60) ?_
    refine XS.dloadN X7.here hx rfl (hb hby d6_61) rfl ?_
    refine XS.daddS X7.here hx rfl (hb hby d6_62) rfl (own_add (gb6 _ _ _) (hamt.mono (by decide)) (by decide)) rfl ?_
    exact kZ
  obtain ⟨T8, h8, X8, e8, W8, V8, st8⟩ := AV.dastore (Gw5.cell 0 (xa + (1 : Int32)).toNatClampNeg (by decide) (own_p1 ha).2) X7 hx hZ e7 (j := xb) (own_xb hb_) (Ls := #[sR o0, sR o1, .val (.double d2), .second, sI 0, sI xa, sR b2_0, sI 2, sI 1, sI xb]) (rest := []) (hb hby d6_63) (x := (FP.dadd (((own_d1 g 0 0 xa.toNatClampNeg d2) 0 (xa + (1 : Int32)).toNatClampNeg) xb.toNatClampNeg) d2))
  have N8 := Fr.snoc X8 N5 (Nat.le_trans ha3 (show dA ≤ (dA + 2 + 4 * 0 + (xa + (1 : Int32)).toNatClampNeg) by omega))
  have c9_0 := c6_0.wr W8
  have c9_1 := c6_1.other W8 (Or.inl (own_na (by omega)))
  have c9_2 := Gw5
  have c9_4 := c6_4.wr W8
  have c9_5 := c6_5.other W8 (Or.inl (own_na (by omega)))
  have c9_6 := c6_6.other W8 (own_na (by omega))
  have c9_7 := c6_7.wr W8
  have c9_8 := c6_8.other W8 (own_na (by omega))
  have c9_9 := c6_9.wr W8
  have c9_10 := c6_10.other W8 (own_na (by omega))
  have c9_11 := c6_11.other W8 (own_na (by omega))
  have c9_12 := c6_12.wr W8
  have K8 : Keep h0 h8 [(dA + 2 + 4 * 0 + 0), (dA + 2 + 4 * 0 + (xa + (1 : Int32)).toNatClampNeg), (dA + 2 + 4 * 1 + 0), (dA + 2 + 4 * 1 + (xc + (1 : Int32)).toNatClampNeg)] := K5.wr W8 (Or.inl (by simp))
  have Z8 := Nat.le_trans Z5 (Keep.of_wr W8).1
  have gb9 : GB 1064 (own_d1 (own_d1 g 0 0 xa.toNatClampNeg d2) 0 (xa + (1 : Int32)).toNatClampNeg xb.toNatClampNeg d2) := gb6.d1 _ _ _ (hamt.mono (by decide)) (by decide)
  have Gw8 : Gd Z h8 dA (own_d1 (own_d1 g 0 0 xa.toNatClampNeg d2) 0 (xa + (1 : Int32)).toNatClampNeg xb.toNatClampNeg d2) := (Gd.set Gw5 0 (xa + (1 : Int32)).toNatClampNeg (by decide) (own_p1 ha).2 W8 V8).congr (fun _ _ _ _ _ _ => rfl)
  refine Go.via st8 ?_
  refine Vi (T8.setTop (mkF m 6 #[sR o0, sR o1, .val (.double d2), .second, sI 1, sI xb, sR b2_0, sI 2, sI 2, sI xb] [(.ref o1), (.int 1)])) (fun tZ kZ => ?_) ?_
  · refine XS.iload X8.here hx rfl (hb hby d6_64) rfl ?_
    refine XS.istore X8.here hx rfl (hb hby d6_66) rfl (l' := #[sR o0, sR o1, .val (.double d2), .second, sI 0, sI xb, sR b2_0, sI 2, sI 1, sI xb]) rfl ?_
    refine XS.iinc X8.here hx rfl (hb hby d6_68) rfl (l' := #[sR o0, sR o1, .val (.double d2), .second, sI 0, sI xb, sR b2_0, sI 2, sI 2, sI xb]) rfl ?_
    refine XS.goto X8.here hx rfl (pc0 := 71) (pc' := 31) rfl (hb hby d6_71) (by decide) (by decide) ?_
    refine XS.iload X8.here hx rfl (hb hby d6_31) rfl ?_
    refine XS.iload X8.here hx rfl (hb hby d6_33) rfl ?_
    refine XS.icmpYes X8.here hx rfl (pc0 := 35) (pc' := 74) rfl (hb hby d6_35) rfl (flt (by decide)).2.1 (by decide) (by decide) ?_
    refine XS.iinc X8.here hx rfl (hb hby d6_74) rfl (l' := #[sR o0, sR o1, .val (.double d2), .second, sI 1, sI xb, sR b2_0, sI 2, sI 2, sI xb]) rfl ?_
    refine XS.goto X8.here hx rfl (pc0 := 77) (pc' := 3) rfl (hb hby d6_77) (by decide) (by decide) ?_
    refine XS.iload X8.here hx rfl (hb hby d6_3) rfl ?_
    refine XS.aloadN X8.here hx rfl (hb hby d6_5) rfl rfl ?_
    exact kZ
  obtain ⟨cq10, kq10, q10a, q10b, q10c⟩ := isOf hZ e8 c9_4
  obtain ⟨_, _, ⟨T10, L10, k10, n10⟩, -, X10, ⟨Lc10, hQ10, l10, y10, z10⟩, st10⟩ := X8.virtualBack hx (y := y7) (z := y7) hown (wz hZ hw 55 rfl) (wz hZ hw 56 rfl) (notFace_of_selects (args := #[]) (wz hZ hw 58 rfl)) (wz hZ hw 58 rfl) (wz hZ hw 57 rfl) (by decide) (backOf (W := 1) (rm7 l Z a0 hw [] o1 qA cA eA h8 n0 Z8 c9_4 c9_5 c9_6) hZ (wq hw 59 rfl) (wq hw 35 rfl) (by decide) (by decide)) q10a q10c (g := (mkF m 6 #[sR o0, sR o1, .val (.double d2), .second, sI 1, sI xb, sR b2_0, sI 2, sI 2, sI xb] [(.ref o1), (.int 1)])) rfl (by rw [hml]; rfl) (Steps.refl _) (argsL := []) (rest := [(.int 1)]) (lenOf pd_6 rfl) rfl (leW rfl) (hb hby d6_6) (fun _ _ => ⟨rfl, e8, (by decide : 0 + 0 + 1 + 0 ≤ _), (by decide : 0 + 0 + 2 + 0 ≤ _)⟩)
  dsimp only [Pt.U, Pt.locs, Pt.cells, Pt.slots] at X10 l10 y10 z10 st10 hQ10
  subst l10 y10 z10
  obtain ⟨rfl, N10q, e10⟩ := hQ10
  have N10 := Fr.app N8 N10q
  refine Go.via (fun t k => st10.trans k) ?_
  refine Vi (T10.setTop (mkF m 18 #[sR o0, sR o1, .val (.double d2), .second, sI 1, sI (-1), sR b2_0, sI 2, sI 2, sI xb] [(.int 1), (.ref o1)])) (fun tZ kZ => ?_) ?_
  · refine XS.icmpNo X10.here hx rfl (hb hby d6_9) rfl (tlt (by show (1 : Int32) < 2; decide)).2.1 ?_
    refine XS.iconst X10.here hx rfl (hb hby d6_12) ?_
    refine XS.istore X10.here hx rfl (hb hby d6_13) rfl (l' := #[sR o0, sR o1, .val (.double d2), .second, sI 1, sI (-1), sR b2_0, sI 2, sI 2, sI xb]) rfl ?_
    refine XS.aloadN X10.here hx rfl (hb hby d6_15) rfl rfl ?_
    refine XS.iload X10.here hx rfl (hb hby d6_16) rfl ?_
    exact kZ
  obtain ⟨cq11, kq11, q11a, q11b, q11c⟩ := isOf hZ e10 c9_4
  obtain ⟨_, _, ⟨T11, L11, k11, n11⟩, -, X11, ⟨Lc11, hQ11, l11, y11, z11⟩, st11⟩ := X10.virtualBack hx (y := y8) (z := y8) hown (wz hZ hw 60 rfl) (wz hZ hw 61 rfl) (notFace_of_selects (args := #[]) (wz hZ hw 63 rfl)) (wz hZ hw 63 rfl) (wz hZ hw 62 rfl) (by decide) (backOf (W := 0) (rm81 l Z a0 hw [] o1 qA cA eA xa xb xc xd h8 n0 Z8 c9_4 c9_5 c9_6 c9_7 c9_8 c9_9 c9_10) hZ (wq hw 64 rfl) (wq hw 35 rfl) (by decide) (by decide)) q11a q11c (g := (mkF m 18 #[sR o0, sR o1, .val (.double d2), .second, sI 1, sI (-1), sR b2_0, sI 2, sI 2, sI xb] [(.int 1), (.ref o1)])) rfl (by rw [hml]; rfl) (Steps.refl _) (argsL := [(.int 1)]) (rest := []) (lenOf pd_7 rfl) rfl (leW rfl) (hb hby d6_18) (fun _ _ => ⟨rfl, e10, (by decide : 0 + 0 + 1 + 0 + 1 ≤ _), (by decide : 0 + 0 + 2 + 0 + 2 ≤ _)⟩)
  dsimp only [Pt.U, Pt.locs, Pt.cells, Pt.slots] at X11 l11 y11 z11 st11 hQ11
  subst l11 y11 z11
  obtain ⟨b11_0, rfl, N11q, hz_b11_0, Kq11, f11_0, f11_1, f11_2, f11_3, f11_4, f11_5, f11_6, f11_7, f11_8⟩ := hQ11
  have g_b11_0 : n0 ≤ b11_0 := Nat.le_trans Z8 hz_b11_0
  have sz_b11_0 : h0.size ≤ b11_0 := Nat.le_trans (K8).1 hz_b11_0
  have ne_o0_b11_0 : o0 ≠ b11_0 := Nat.ne_of_lt (Nat.lt_of_lt_of_le c9_0.lt hz_b11_0)
  have ne_o1_b11_0 : o1 ≠ b11_0 := Nat.ne_of_lt (Nat.lt_of_lt_of_le c9_4.lt hz_b11_0)
  have ne_qA_b11_0 : qA ≠ b11_0 := Nat.ne_of_lt (Nat.lt_of_lt_of_le c9_6.lt hz_b11_0)
  have ne_cA_b11_0 : cA ≠ b11_0 := Nat.ne_of_lt (Nat.lt_of_lt_of_le c9_7.lt hz_b11_0)
  have ne_eA_b11_0 : eA ≠ b11_0 := Nat.ne_of_lt (Nat.lt_of_lt_of_le c9_9.lt hz_b11_0)
  have ne_b2_0_b11_0 : b2_0 ≠ b11_0 := Nat.ne_of_lt (Nat.lt_of_lt_of_le c9_11.lt hz_b11_0)
  have lt_o0_b11_0 : (o0 : Nat) < b11_0 := Nat.lt_of_lt_of_le c9_0.lt hz_b11_0
  have lt_dA_b11_0 : (dA : Nat) + 9 ≤ b11_0 := Nat.le_trans Gw8.lt hz_b11_0
  have lt_o1_b11_0 : (o1 : Nat) < b11_0 := Nat.lt_of_lt_of_le c9_4.lt hz_b11_0
  have lt_qA_b11_0 : (qA : Nat) < b11_0 := Nat.lt_of_lt_of_le c9_6.lt hz_b11_0
  have lt_cA_b11_0 : (cA : Nat) < b11_0 := Nat.lt_of_lt_of_le c9_7.lt hz_b11_0
  have lt_eA_b11_0 : (eA : Nat) < b11_0 := Nat.lt_of_lt_of_le c9_9.lt hz_b11_0
  have lt_b2_0_b11_0 : (b2_0 : Nat) < b11_0 := Nat.lt_of_lt_of_le c9_11.lt hz_b11_0
  have c12_0 := c9_0.keep Kq11
  have c12_1 := c9_1.keep Kq11 nin0
  have c12_2 := Gw8.keep Kq11 all0
  have c12_11 := c9_11.keep Kq11 nin0
  have c12_12 := c9_12.keep Kq11
  have K11 : Keep h0 T11.heap [(dA + 2 + 4 * 0 + 0), (dA + 2 + 4 * 0 + (xa + (1 : Int32)).toNatClampNeg), (dA + 2 + 4 * 1 + 0), (dA + 2 + 4 * 1 + (xc + (1 : Int32)).toNatClampNeg)] := K8.trans Kq11 all0
  have Z11 := Nat.le_trans Z8 Kq11.1
  have N11 := Fr.app N10 N11q
  refine Go.via (fun t k => st11.trans k) ?_
  refine Vi (T11.setTop (mkF m 45 #[sR o0, sR o1, .val (.double d2), .second, sI 1, sI (-1), sR b11_0, sI 2, sI 0, sI ((own_2 xc xd) (0 : Int32).toNatClampNeg)] [])) (fun tZ kZ => ?_) ?_
  · refine XS.astore X11.here hx rfl (hb hby d6_21) rfl rfl (l' := #[sR o0, sR o1, .val (.double d2), .second, sI 1, sI (-1), sR b11_0, sI 2, sI 2, sI xb]) rfl ?_
    refine XS.aload X11.here hx rfl (hb hby d6_23) rfl rfl ?_
    refine AV.len f11_7 X11 hx hZ rfl (hb hby d6_25) ?_
    refine XS.istore X11.here hx rfl (hb hby d6_26) rfl (l' := #[sR o0, sR o1, .val (.double d2), .second, sI 1, sI (-1), sR b11_0, sI 2, sI 2, sI xb]) rfl ?_
    refine XS.iconst X11.here hx rfl (hb hby d6_28) ?_
    refine XS.istore X11.here hx rfl (hb hby d6_29) rfl (l' := #[sR o0, sR o1, .val (.double d2), .second, sI 1, sI (-1), sR b11_0, sI 2, sI 0, sI xb]) rfl ?_
    refine XS.iload X11.here hx rfl (hb hby d6_31) rfl ?_
    refine XS.iload X11.here hx rfl (hb hby d6_33) rfl ?_
    refine XS.icmpNo X11.here hx rfl (hb hby d6_35) rfl (tlt (by decide)).2.1 ?_
    refine XS.aload X11.here hx rfl (hb hby d6_38) rfl rfl ?_
    refine XS.iload X11.here hx rfl (hb hby d6_40) rfl ?_
    refine AV.iaload f11_7 X11 hx hZ rfl (j := (0 : Int32)) (by decide) (hb hby d6_42) ?_
    refine XS.istore X11.here hx rfl (hb hby d6_43) rfl (l' := #[sR o0, sR o1, .val (.double d2), .second, sI 1, sI (-1), sR b11_0, sI 2, sI 0, sI ((own_2 xc xd) (0 : Int32).toNatClampNeg)]) rfl ?_
    exact kZ
  show Go p e below _ (T11.setTop (mkF m 45 #[sR o0, sR o1, .val (.double d2), .second, sI 1, sI (-1), sR b11_0, sI 2, sI 0, sI xc] []))
  refine Vi (T11.setTop (mkF m 46 #[sR o0, sR o1, .val (.double d2), .second, sI 1, sI (-1), sR b11_0, sI 2, sI 0, sI xc] [(.ref o0)])) (fun tZ kZ => ?_) ?_
  · refine XS.aloadN X11.here hx rfl (hb hby d6_45) rfl rfl ?_
    exact kZ
  refine GF X11 hx hZ hown (wq hw 22 rfl) rfl c12_1 (hb hby d6_46) fun T13 X13 e13 => ?_
  refine Vi (T13.setTop (mkF m 63 #[sR o0, sR o1, .val (.double d2), .second, sI 1, sI (-1), sR b11_0, sI 2, sI 0, sI xc] [(.double (FP.dadd (((own_d1 (own_d1 g 0 0 xa.toNatClampNeg d2) 0 (xa + (1 : Int32)).toNatClampNeg xb.toNatClampNeg d2) 1 0) xc.toNatClampNeg) d2)), (.int xc), (.ref (dA + 2 + 4 * 1 + 0))])) (fun tZ kZ => ?_) ?_
  · refine XS.iload X13.here hx rfl (hb hby d6_49) rfl ?_
    refine AV.aaload c12_2.top rfl X13 hx hZ e13 (j := (1 : Int32)) (by decide) (hb hby d6_51) ?_
    refine XS.iload X13.here hx rfl (hb hby d6_52) rfl ?_
    refine XS.iconst X13.here hx rfl (hb hby d6_54) ?_
    refine XS.iadd X13.here hx rfl (hb hby d6_55) rfl ?_
    refine AV.aaload (c12_2.row 1 (by decide)) rfl X13 hx hZ e13 (j := (0 : Int32)) (by decide) (hb hby d6_56) ?_
    refine XS.iload X13.here hx rfl (hb hby d6_57) rfl ?_
    refine Jvm.Free.XT.dup2 X13.here hx rfl (hb hby d6_59) rfl rfl rfl ?_
    refine AV.daload (c12_2.cell 1 0 (by decide) (by decide)) X13 hx hZ e13 (j := xc) (own_xb hc_) (hb hby d6_60) ?_
    refine XS.dloadN X13.here hx rfl (hb hby d6_61) rfl ?_
    refine XS.daddS X13.here hx rfl (hb hby d6_62) rfl (own_add (gb9 _ _ _) (hamt.mono (by decide)) (by decide)) rfl ?_
    exact kZ
  obtain ⟨T14, h14, X14, e14, W14, V14, st14⟩ := AV.dastore (c12_2.cell 1 0 (by decide) (by decide)) X13 hx hZ e13 (j := xc) (own_xb hc_) (Ls := #[sR o0, sR o1, .val (.double d2), .second, sI 1, sI (-1), sR b11_0, sI 2, sI 0, sI xc]) (rest := []) (hb hby d6_63) (x := (FP.dadd (((own_d1 (own_d1 g 0 0 xa.toNatClampNeg d2) 0 (xa + (1 : Int32)).toNatClampNeg xb.toNatClampNeg d2) 1 0) xc.toNatClampNeg) d2))
  have N14 := Fr.snoc X14 N11 (Nat.le_trans ha3 (show dA ≤ (dA + 2 + 4 * 1 + 0) by omega))
  have c15_0 := c12_0.wr W14
  have c15_1 := c12_1.other W14 (Or.inl (own_na (by omega)))
  have c15_2 := c12_2
  have c15_4 := f11_0.wr W14
  have c15_5 := f11_1.other W14 (Or.inl (own_na (by omega)))
  have c15_6 := f11_2.other W14 (own_na (by omega))
  have c15_7 := f11_3.wr W14
  have c15_8 := f11_4.other W14 (own_na (by omega))
  have c15_9 := f11_5.wr W14
  have c15_10 := f11_6.other W14 (own_na (by omega))
  have c15_11 := c12_11.other W14 (own_na (by omega))
  have c15_12 := c12_12.wr W14
  have c15_14 := f11_7.other W14 (own_na (by omega))
  have c15_15 := f11_8.wr W14
  have K14 : Keep h0 h14 [(dA + 2 + 4 * 0 + 0), (dA + 2 + 4 * 0 + (xa + (1 : Int32)).toNatClampNeg), (dA + 2 + 4 * 1 + 0), (dA + 2 + 4 * 1 + (xc + (1 : Int32)).toNatClampNeg)] := K11.wr W14 (Or.inl (by simp))
  have Z14 := Nat.le_trans Z11 (Keep.of_wr W14).1
  have gb15 : GB 1066 (own_d1 (own_d1 (own_d1 g 0 0 xa.toNatClampNeg d2) 0 (xa + (1 : Int32)).toNatClampNeg xb.toNatClampNeg d2) 1 0 xc.toNatClampNeg d2) := gb9.d1 _ _ _ (hamt.mono (by decide)) (by decide)
  have Gw14 : Gd Z h14 dA (own_d1 (own_d1 (own_d1 g 0 0 xa.toNatClampNeg d2) 0 (xa + (1 : Int32)).toNatClampNeg xb.toNatClampNeg d2) 1 0 xc.toNatClampNeg d2) := (Gd.set c12_2 1 0 (by decide) (by decide) W14 V14).congr (fun _ _ _ _ _ _ => rfl)
  refine Go.via st14 ?_
  refine Vi (T14.setTop (mkF m 45 #[sR o0, sR o1, .val (.double d2), .second, sI 1, sI xc, sR b11_0, sI 2, sI 1, sI ((own_2 xc xd) (1 : Int32).toNatClampNeg)] [])) (fun tZ kZ => ?_) ?_
  · refine XS.iload X14.here hx rfl (hb hby d6_64) rfl ?_
    refine XS.istore X14.here hx rfl (hb hby d6_66) rfl (l' := #[sR o0, sR o1, .val (.double d2), .second, sI 1, sI xc, sR b11_0, sI 2, sI 0, sI xc]) rfl ?_
    refine XS.iinc X14.here hx rfl (hb hby d6_68) rfl (l' := #[sR o0, sR o1, .val (.double d2), .second, sI 1, sI xc, sR b11_0, sI 2, sI 1, sI xc]) rfl ?_
    refine XS.goto X14.here hx rfl (pc0 := 71) (pc' := 31) rfl (hb hby d6_71) (by decide) (by decide) ?_
    refine XS.iload X14.here hx rfl (hb hby d6_31) rfl ?_
    refine XS.iload X14.here hx rfl (hb hby d6_33) rfl ?_
    refine XS.icmpNo X14.here hx rfl (hb hby d6_35) rfl (tlt (by decide)).2.1 ?_
    refine XS.aload X14.here hx rfl (hb hby d6_38) rfl rfl ?_
    refine XS.iload X14.here hx rfl (hb hby d6_40) rfl ?_
    refine AV.iaload c15_14 X14 hx hZ e14 (j := (1 : Int32)) (by decide) (hb hby d6_42) ?_
    refine XS.istore X14.here hx rfl (hb hby d6_43) rfl (l' := #[sR o0, sR o1, .val (.double d2), .second, sI 1, sI xc, sR b11_0, sI 2, sI 1, sI ((own_2 xc xd) (1 : Int32).toNatClampNeg)]) rfl ?_
    exact kZ
  show Go p e below _ (T14.setTop (mkF m 45 #[sR o0, sR o1, .val (.double d2), .second, sI 1, sI xc, sR b11_0, sI 2, sI 1, sI xd] []))
  refine Vi (T14.setTop (mkF m 46 #[sR o0, sR o1, .val (.double d2), .second, sI 1, sI xc, sR b11_0, sI 2, sI 1, sI xd] [(.ref o0)])) (fun tZ kZ => ?_) ?_
  · refine XS.aloadN X14.here hx rfl (hb hby d6_45) rfl rfl ?_
    exact kZ
  refine GF X14 hx hZ hown (wq hw 22 rfl) e14 c15_1 (hb hby d6_46) fun T16 X16 e16 => ?_
  refine Vi (T16.setTop (mkF m 63 #[sR o0, sR o1, .val (.double d2), .second, sI 1, sI xc, sR b11_0, sI 2, sI 1, sI xd] [(.double (FP.dadd (((own_d1 (own_d1 (own_d1 g 0 0 xa.toNatClampNeg d2) 0 (xa + (1 : Int32)).toNatClampNeg xb.toNatClampNeg d2) 1 0 xc.toNatClampNeg d2) 1 (xc + (1 : Int32)).toNatClampNeg) xd.toNatClampNeg) d2)), (.int xd), (.ref (dA + 2 + 4 * 1 + (xc + (1 : Int32)).toNatClampNeg))])) (fun tZ kZ => ?_) ?_
  · refine XS.iload X16.here hx rfl (hb hby d6_49) rfl ?_
    refine AV.aaload Gw14.top rfl X16 hx hZ e16 (j := (1 : Int32)) (by decide) (hb hby d6_51) ?_
    refine XS.iload X16.here hx rfl (hb hby d6_52) rfl ?_
    refine XS.iconst X16.here hx rfl (hb hby d6_54) ?_
    refine XS.iadd X16.here hx rfl (hb hby d6_55) rfl ?_
    refine AV.aaload (Gw14.row 1 (by decide)) rfl X16 hx hZ e16 (j := (xc + (1 : Int32))) (own_p1 hc_) (hb hby d6_56) ?_
    refine XS.iload X16.here hx rfl (hb hby d6_57) rfl ?_
    refine Jvm.Free.XT.dup2 X16.here hx rfl (hb hby d6_59) rfl rfl rfl ?_
    refine AV.daload (Gw14.cell 1 (xc + (1 : Int32)).toNatClampNeg (by decide) (own_p1 hc_).2) X16 hx hZ e16 (j := xd) (own_xb hd_) (hb hby d6_60) ?_
    refine XS.dloadN X16.here hx rfl (hb hby d6_61) rfl ?_
    refine XS.daddS X16.here hx rfl (hb hby d6_62) rfl (own_add (gb15 _ _ _) (hamt.mono (by decide)) (by decide)) rfl ?_
    exact kZ
  obtain ⟨T17, h17, X17, e17, W17, V17, st17⟩ := AV.dastore (Gw14.cell 1 (xc + (1 : Int32)).toNatClampNeg (by decide) (own_p1 hc_).2) X16 hx hZ e16 (j := xd) (own_xb hd_) (Ls := #[sR o0, sR o1, .val (.double d2), .second, sI 1, sI xc, sR b11_0, sI 2, sI 1, sI xd]) (rest := []) (hb hby d6_63) (x := (FP.dadd (((own_d1 (own_d1 (own_d1 g 0 0 xa.toNatClampNeg d2) 0 (xa + (1 : Int32)).toNatClampNeg xb.toNatClampNeg d2) 1 0 xc.toNatClampNeg d2) 1 (xc + (1 : Int32)).toNatClampNeg) xd.toNatClampNeg) d2))
  have N17 := Fr.snoc X17 N14 (Nat.le_trans ha3 (show dA ≤ (dA + 2 + 4 * 1 + (xc + (1 : Int32)).toNatClampNeg) by omega))
  have c18_0 := c15_0.wr W17
  have c18_1 := c15_1.other W17 (Or.inl (own_na (by omega)))
  have c18_2 := Gw14
  have c18_4 := c15_4.wr W17
  have c18_5 := c15_5.other W17 (Or.inl (own_na (by omega)))
  have c18_6 := c15_6.other W17 (own_na (by omega))
  have c18_7 := c15_7.wr W17
  have c18_8 := c15_8.other W17 (own_na (by omega))
  have c18_9 := c15_9.wr W17
  have c18_10 := c15_10.other W17 (own_na (by omega))
  have c18_11 := c15_11.other W17 (own_na (by omega))
  have c18_12 := c15_12.wr W17
  have c18_14 := c15_14.other W17 (own_na (by omega))
  have c18_15 := c15_15.wr W17
  have K17 : Keep h0 h17 [(dA + 2 + 4 * 0 + 0), (dA + 2 + 4 * 0 + (xa + (1 : Int32)).toNatClampNeg), (dA + 2 + 4 * 1 + 0), (dA + 2 + 4 * 1 + (xc + (1 : Int32)).toNatClampNeg)] := K14.wr W17 (Or.inl (by simp))
  have Z17 := Nat.le_trans Z14 (Keep.of_wr W17).1
  have gb18 : GB 1068 (own_d1 (own_d1 (own_d1 (own_d1 g 0 0 xa.toNatClampNeg d2) 0 (xa + (1 : Int32)).toNatClampNeg xb.toNatClampNeg d2) 1 0 xc.toNatClampNeg d2) 1 (xc + (1 : Int32)).toNatClampNeg xd.toNatClampNeg d2) := gb15.d1 _ _ _ (hamt.mono (by decide)) (by decide)
  have Gw17 : Gd Z h17 dA (own_d1 (own_d1 (own_d1 (own_d1 g 0 0 xa.toNatClampNeg d2) 0 (xa + (1 : Int32)).toNatClampNeg xb.toNatClampNeg d2) 1 0 xc.toNatClampNeg d2) 1 (xc + (1 : Int32)).toNatClampNeg xd.toNatClampNeg d2) := (Gd.set Gw14 1 (xc + (1 : Int32)).toNatClampNeg (by decide) (own_p1 hc_).2 W17 V17).congr (fun _ _ _ _ _ _ => rfl)
  refine Go.via st17 ?_
  refine Vi (T17.setTop (mkF m 6 #[sR o0, sR o1, .val (.double d2), .second, sI 2, sI xd, sR b11_0, sI 2, sI 2, sI xd] [(.ref o1), (.int 2)])) (fun tZ kZ => ?_) ?_
  · refine XS.iload X17.here hx rfl (hb hby d6_64) rfl ?_
    refine XS.istore X17.here hx rfl (hb hby d6_66) rfl (l' := #[sR o0, sR o1, .val (.double d2), .second, sI 1, sI xd, sR b11_0, sI 2, sI 1, sI xd]) rfl ?_
    refine XS.iinc X17.here hx rfl (hb hby d6_68) rfl (l' := #[sR o0, sR o1, .val (.double d2), .second, sI 1, sI xd, sR b11_0, sI 2, sI 2, sI xd]) rfl ?_
    refine XS.goto X17.here hx rfl (pc0 := 71) (pc' := 31) rfl (hb hby d6_71) (by decide) (by decide) ?_
    refine XS.iload X17.here hx rfl (hb hby d6_31) rfl ?_
    refine XS.iload X17.here hx rfl (hb hby d6_33) rfl ?_
    refine XS.icmpYes X17.here hx rfl (pc0 := 35) (pc' := 74) rfl (hb hby d6_35) rfl (flt (by decide)).2.1 (by decide) (by decide) ?_
    refine XS.iinc X17.here hx rfl (hb hby d6_74) rfl (l' := #[sR o0, sR o1, .val (.double d2), .second, sI 2, sI xd, sR b11_0, sI 2, sI 2, sI xd]) rfl ?_
    refine XS.goto X17.here hx rfl (pc0 := 77) (pc' := 3) rfl (hb hby d6_77) (by decide) (by decide) ?_
    refine XS.iload X17.here hx rfl (hb hby d6_3) rfl ?_
    refine XS.aloadN X17.here hx rfl (hb hby d6_5) rfl rfl ?_
    exact kZ
  obtain ⟨cq19, kq19, q19a, q19b, q19c⟩ := isOf hZ e17 c18_4
  obtain ⟨_, _, ⟨T19, L19, k19, n19⟩, -, X19, ⟨Lc19, hQ19, l19, y19, z19⟩, st19⟩ := X17.virtualBack hx (y := y7) (z := y7) hown (wz hZ hw 55 rfl) (wz hZ hw 56 rfl) (notFace_of_selects (args := #[]) (wz hZ hw 58 rfl)) (wz hZ hw 58 rfl) (wz hZ hw 57 rfl) (by decide) (backOf (W := 1) (rm7 l Z a0 hw [] o1 qA cA eA h17 n0 Z17 c18_4 c18_5 c18_6) hZ (wq hw 59 rfl) (wq hw 35 rfl) (by decide) (by decide)) q19a q19c (g := (mkF m 6 #[sR o0, sR o1, .val (.double d2), .second, sI 2, sI xd, sR b11_0, sI 2, sI 2, sI xd] [(.ref o1), (.int 2)])) rfl (by rw [hml]; rfl) (Steps.refl _) (argsL := []) (rest := [(.int 2)]) (lenOf pd_6 rfl) rfl (leW rfl) (hb hby d6_6) (fun _ _ => ⟨rfl, e17, (by decide : 0 + 0 + 1 + 0 + 1 + 0 ≤ _), (by decide : 0 + 0 + 2 + 0 + 2 + 0 ≤ _)⟩)
  dsimp only [Pt.U, Pt.locs, Pt.cells, Pt.slots] at X19 l19 y19 z19 st19 hQ19
  subst l19 y19 z19
  obtain ⟨rfl, N19q, e19⟩ := hQ19
  have N19 := Fr.app N17 N19q
  refine Go.via (fun t k => st19.trans k) ?_
  refine Vi (T19.setTop (mkF m 80 #[sR o0, sR o1, .val (.double d2), .second, sI 2, sI xd, sR b11_0, sI 2, sI 2, sI xd] [])) (fun tZ kZ => ?_) ?_
  · refine XS.icmpYes X19.here hx rfl (pc0 := 9) (pc' := 80) rfl (hb hby d6_9) rfl (flt (by show ¬ (2 : Int32) < 2; decide)).2.1 (by decide) (by decide) ?_
    exact kZ
  refine Go.retV X19 hx Bd.notSynchronized Bd.returns (hb hby d6_80) (by decide) (by decide) ?_
  rw [e19]
  exact ⟨rfl, N19, K17, c18_0, c18_1, Gw17, c18_4, c18_5, c18_6, c18_7, c18_8, c18_9, c18_10⟩
theorem d9_0 : DC B9 0 (.iconst 0) 1 := by decide +kernel
theorem d9_1 : DC B9 1 (.istore_n 1) 1 := by decide +kernel
theorem d9_2 : DC B9 2 (.iload_n 1) 1 := by decide +kernel
theorem d9_3 : DC B9 3 (.aload_n 0) 1 := by decide +kernel
theorem d9_4 : DC B9 4 (.getfield 15) 3 := by decide +kernel
theorem d9_7 : DC B9 7 (.arraylength) 1 := by decide +kernel
theorem d9_8 : DC B9 8 (.if_icmp .ge 87) 3 := by decide +kernel
theorem d9_11 : DC B9 11 (.iconst 0) 1 := by decide +kernel
theorem d9_12 : DC B9 12 (.istore_n 2) 1 := by decide +kernel
theorem d9_13 : DC B9 13 (.iload_n 2) 1 := by decide +kernel
theorem d9_14 : DC B9 14 (.aload_n 0) 1 := by decide +kernel
theorem d9_15 : DC B9 15 (.getfield 15) 3 := by decide +kernel
theorem d9_18 : DC B9 18 (.iload_n 1) 1 := by decide +kernel
theorem d9_19 : DC B9 19 (.aaload) 1 := by decide +kernel
theorem d9_20 : DC B9 20 (.arraylength) 1 := by decide +kernel
theorem d9_21 : DC B9 21 (.if_icmp .ge 68) 3 := by decide +kernel
theorem d9_24 : DC B9 24 (.aload_n 0) 1 := by decide +kernel
theorem d9_25 : DC B9 25 (.getfield 15) 3 := by decide +kernel
theorem d9_28 : DC B9 28 (.iload_n 1) 1 := by decide +kernel
theorem d9_29 : DC B9 29 (.aaload) 1 := by decide +kernel
theorem d9_30 : DC B9 30 (.iload_n 2) 1 := by decide +kernel
theorem d9_31 : DC B9 31 (.aaload) 1 := by decide +kernel
theorem d9_32 : DC B9 32 (.astore_n 3) 1 := by decide +kernel
theorem d9_33 : DC B9 33 (.aload_n 0) 1 := by decide +kernel
theorem d9_34 : DC B9 34 (.getfield 18) 3 := by decide +kernel
theorem d9_37 : DC B9 37 (.iload_n 1) 1 := by decide +kernel
theorem d9_38 : DC B9 38 (.aaload) 1 := by decide +kernel
theorem d9_39 : DC B9 39 (.iload_n 2) 1 := by decide +kernel
theorem d9_40 : DC B9 40 (.aaload) 1 := by decide +kernel
theorem d9_41 : DC B9 41 (.astore 4) 2 := by decide +kernel
theorem d9_43 : DC B9 43 (.iconst 0) 1 := by decide +kernel
theorem d9_44 : DC B9 44 (.istore 5) 2 := by decide +kernel
theorem d9_46 : DC B9 46 (.iload 5) 2 := by decide +kernel
theorem d9_48 : DC B9 48 (.aload_n 3) 1 := by decide +kernel
theorem d9_49 : DC B9 49 (.arraylength) 1 := by decide +kernel
theorem d9_50 : DC B9 50 (.if_icmp .ge 33) 3 := by decide +kernel
theorem d9_53 : DC B9 53 (.aload_n 3) 1 := by decide +kernel
theorem d9_54 : DC B9 54 (.iload 5) 2 := by decide +kernel
theorem d9_56 : DC B9 56 (.ldc2_w 42) 3 := by decide +kernel
theorem d9_59 : DC B9 59 (.aload_n 3) 1 := by decide +kernel
theorem d9_60 : DC B9 60 (.iload 5) 2 := by decide +kernel
theorem d9_62 : DC B9 62 (.daload) 1 := by decide +kernel
theorem d9_63 : DC B9 63 (.dmul) 1 := by decide +kernel
theorem d9_64 : DC B9 64 (.aload 4) 2 := by decide +kernel
theorem d9_66 : DC B9 66 (.iload 5) 2 := by decide +kernel
theorem d9_68 : DC B9 68 (.daload) 1 := by decide +kernel
theorem d9_69 : DC B9 69 (.dadd) 1 := by decide +kernel
theorem d9_70 : DC B9 70 (.dastore) 1 := by decide +kernel
theorem d9_71 : DC B9 71 (.aload 4) 2 := by decide +kernel
theorem d9_73 : DC B9 73 (.iload 5) 2 := by decide +kernel
theorem d9_75 : DC B9 75 (.dconst 0) 1 := by decide +kernel
theorem d9_76 : DC B9 76 (.dastore) 1 := by decide +kernel
theorem d9_77 : DC B9 77 (.iinc 5 1) 3 := by decide +kernel
theorem d9_80 : DC B9 80 (.goto (-34)) 3 := by decide +kernel
theorem d9_83 : DC B9 83 (.iinc 2 1) 3 := by decide +kernel
theorem d9_86 : DC B9 86 (.goto (-73)) 3 := by decide +kernel
theorem d9_89 : DC B9 89 (.iinc 1 1) 3 := by decide +kernel
theorem d9_92 : DC B9 92 (.goto (-90)) 3 := by decide +kernel
theorem d9_95 : DC B9 95 (.return_) 1 := by decide +kernel
def Q9 (Z : State) (o0 : Nat) (vA : Nat) (dA : Nat) (f : Nat → Nat → Nat → UInt64) (g : Nat → Nat → Nat → UInt64) (h0 : Heap) (n0 : Nat) (v : Option Value) (h : Heap) (L : List Loc) : Prop := v = none ∧ Fr n0 L ∧ Keep h0 h [(vA + 2 + 4 * 0 + 0), (dA + 2 + 4 * 0 + 0), (vA + 2 + 4 * 0 + 1), (dA + 2 + 4 * 0 + 1), (vA + 2 + 4 * 0 + 2), (dA + 2 + 4 * 0 + 2), (vA + 2 + 4 * 1 + 0), (dA + 2 + 4 * 1 + 0), (vA + 2 + 4 * 1 + 1), (dA + 2 + 4 * 1 + 1), (vA + 2 + 4 * 1 + 2), (dA + 2 + 4 * 1 + 2)] ∧ Exa Z h o0 "com/example/muster/muster/solvers/Pheromone" ∧ Fld Z h o0 "com/example/muster/muster/solvers/Pheromone" "value" "[[[D" (.ref vA) ∧ Fld Z h o0 "com/example/muster/muster/solvers/Pheromone" "deposited" "[[[D" (.ref dA) ∧ Gd Z h vA (fun i j k => FP.dadd (FP.dmul (4606732058837280358 : UInt64) (f i j k)) (g i j k)) ∧ Gd Z h dA (fun _ _ _ => FP.dconst0)
theorem ef_9_a (m : MethodId) (x0 : Nat) : entryFrame m #[(.ref x0)] 6 = mkF m 0 #[.val (.ref x0), .unset, .unset, .unset, .unset, .unset] [] := by first | (simp [entryFrame, mkF, argsToLocals, Value.category]; done) | rfl
theorem rm9 (l : Launch) (Z : State) (a0 : Array Value) (hw : HW a0 Z) (ws : List Jvm.Cond) (o0 : Nat) (vA : Nat) (dA : Nat) (f : Nat → Nat → Nat → UInt64) (g : Nat → Nat → Nat → UInt64) (h0 : Heap) (n0 : Nat) (Z0 : n0 ≤ h0.size) (ha0 : Exa Z h0 o0 "com/example/muster/muster/solvers/Pheromone") (ha1 : Fld Z h0 o0 "com/example/muster/muster/solvers/Pheromone" "value" "[[[D" (.ref vA)) (ha2 : Fld Z h0 o0 "com/example/muster/muster/solvers/Pheromone" "deposited" "[[[D" (.ref dA)) (ha3 : Gd Z h0 vA f) (ha4 : Gd Z h0 dA g) (ha5 : n0 ≤ vA) (ha6 : n0 ≤ dA) (hov : o0 < vA ∨ vA + 9 ≤ o0) (hod : o0 < dA ∨ dA + 9 ≤ o0) (hvd : vA + 9 ≤ dA) (hnn : ∀ i j k : Nat, i < 2 → j < 3 → k < 2 → Jvm.Free.Fl.NoNaN64 (FP.dmul (4606732058837280358 : UInt64) (f i j k)) ∧ Jvm.Free.Fl.NoNaN64 (FP.dadd (FP.dmul (4606732058837280358 : UInt64) (f i j k)) (g i j k))) :
    MetFree l y9 (head1 (Jvm.Cond.code y9 prog_48_method_5_code 6 none :: ws) RM_0_0_0_0) (fun a U => a = #[(.ref o0)] ∧ Z.Warmed39 U.vm ∧ U.heap = h0) (fun _ _ _ _ _ => True) (fun _ U o U' => ∃ v L, o = .returned v ∧ Q9 Z o0 vA dA f g h0 n0 v U'.heap L ∧ FrameEnd U o U' L RM_0_0_0_0.cells RM_0_0_0_0.slots) := by
  refine MetFree.of_bodySF (plainFor_of_name pn_1) hisR ?_
  intro p e s m args below meth c s₁ Bd hml0 hP hK
  obtain ⟨rfl, hZ, hh⟩ := hP
  have hx := Bd.exec
  have hby := Bd.bytes
  have hml : c.maxLocals = 6 := hml0
  have hown : s.vm.findClass "com/example/muster/muster/solvers/Pheromone" = some m.cls := findClass_of_methodNamed Bd.named
  have X0 : Stand p l e RM_0_0_0_0 s m _ below meth c s₁ [] 0 0 := Stand.of_body Bd
  have e0 : s₁.heap = h0 := by rw [← hh, Bd.state]; rfl
  have N0 := Fr.nil n0
  refine Go.into (P := fun oo uu => ∃ v L, oo = .returned v ∧ Q9 Z o0 vA dA f g h0 n0 v uu.heap L ∧ FrameEnd s oo uu L RM_0_0_0_0.cells RM_0_0_0_0.slots) (ef_9_a m o0) ?_
  show Go p e below _ (s₁.setTop (mkF m 0 #[sR o0, .unset, .unset, .unset, .unset, .unset] []))
  have Gv0 : Gd Z h0 vA (own_vl f g 0) := ha3.congr own_vl_0
  have Gd0 : Gd Z h0 dA (own_dp g 0) := ha4.congr own_dp_0
  refine Vi (s₁.setTop (mkF m 4 #[sR o0, sI 0, .unset, .unset, .unset, .unset] [(.ref o0), (.int 0)])) (fun tZ kZ => ?_) ?_
  · refine XS.iconst X0.here hx rfl (hb hby d9_0) ?_
    refine XS.istoreN X0.here hx rfl (hb hby d9_1) rfl (l' := #[sR o0, sI 0, .unset, .unset, .unset, .unset]) rfl ?_
    refine XS.iloadN X0.here hx rfl (hb hby d9_2) rfl ?_
    refine XS.aloadN X0.here hx rfl (hb hby d9_3) rfl rfl ?_
    exact kZ
  refine GF X0 hx hZ hown (wq hw 20 rfl) e0 ha1 (hb hby d9_4) fun T1 X1 e1 => ?_
  refine Vi (T1.setTop (mkF m 15 #[sR o0, sI 0, sI 0, .unset, .unset, .unset] [(.ref o0), (.int 0)])) (fun tZ kZ => ?_) ?_
  · refine AV.len Gv0.top X1 hx hZ e1 (hb hby d9_7) ?_
    refine XS.icmpNo X1.here hx rfl (hb hby d9_8) rfl (tlt (by decide)).2.1 ?_
    refine XS.iconst X1.here hx rfl (hb hby d9_11) ?_
    refine XS.istoreN X1.here hx rfl (hb hby d9_12) rfl (l' := #[sR o0, sI 0, sI 0, .unset, .unset, .unset]) rfl ?_
    refine XS.iloadN X1.here hx rfl (hb hby d9_13) rfl ?_
    refine XS.aloadN X1.here hx rfl (hb hby d9_14) rfl rfl ?_
    exact kZ
  refine GF X1 hx hZ hown (wq hw 20 rfl) e1 ha1 (hb hby d9_15) fun T2 X2 e2 => ?_
  refine Vi (T2.setTop (mkF m 25 #[sR o0, sI 0, sI 0, .unset, .unset, .unset] [(.ref o0)])) (fun tZ kZ => ?_) ?_
  · refine XS.iloadN X2.here hx rfl (hb hby d9_18) rfl ?_
    refine AV.aaload Gv0.top rfl X2 hx hZ e2 (j := (0 : Int32)) (by decide) (hb hby d9_19) ?_
    refine AV.len (Gv0.row 0 (by decide)) X2 hx hZ e2 (hb hby d9_20) ?_
    refine XS.icmpNo X2.here hx rfl (hb hby d9_21) rfl (tlt (by decide)).2.1 ?_
    refine XS.aloadN X2.here hx rfl (hb hby d9_24) rfl rfl ?_
    exact kZ
  refine GF X2 hx hZ hown (wq hw 20 rfl) e2 ha1 (hb hby d9_25) fun T3 X3 e3 => ?_
  refine Vi (T3.setTop (mkF m 34 #[sR o0, sI 0, sI 0, sR (vA + 2 + 4 * 0 + 0), .unset, .unset] [(.ref o0)])) (fun tZ kZ => ?_) ?_
  · refine XS.iloadN X3.here hx rfl (hb hby d9_28) rfl ?_
    refine AV.aaload Gv0.top rfl X3 hx hZ e3 (j := (0 : Int32)) (by decide) (hb hby d9_29) ?_
    refine XS.iloadN X3.here hx rfl (hb hby d9_30) rfl ?_
    refine AV.aaload (Gv0.row 0 (by decide)) rfl X3 hx hZ e3 (j := (0 : Int32)) (by decide) (hb hby d9_31) ?_
    refine XS.astoreN X3.here hx rfl (hb hby d9_32) rfl rfl (l' := #[sR o0, sI 0, sI 0, sR (vA + 2 + 4 * 0 + 0), .unset, .unset]) rfl ?_
    refine XS.aloadN X3.here hx rfl (hb hby d9_33) rfl rfl ?_
    exact kZ
  refine GF X3 hx hZ hown (wq hw 22 rfl) e3 ha2 (hb hby d9_34) fun T4 X4 e4 => ?_
  refine Vi (T4.setTop (mkF m 70 #[sR o0, sI 0, sI 0, sR (vA + 2 + 4 * 0 + 0), sR (dA + 2 + 4 * 0 + 0), sI 0] [(.double (FP.dadd (FP.dmul (4606732058837280358 : UInt64) (((own_vl f g 0) 0 0) (0 : Int32).toNatClampNeg)) (((own_dp g 0) 0 0) (0 : Int32).toNatClampNeg))), (.int 0), (.ref (vA + 2 + 4 * 0 + 0))])) (fun tZ kZ => ?_) ?_
  · refine XS.iloadN X4.here hx rfl (hb hby d9_37) rfl ?_
    refine AV.aaload Gd0.top rfl X4 hx hZ e4 (j := (0 : Int32)) (by decide) (hb hby d9_38) ?_
    refine XS.iloadN X4.here hx rfl (hb hby d9_39) rfl ?_
    refine AV.aaload (Gd0.row 0 (by decide)) rfl X4 hx hZ e4 (j := (0 : Int32)) (by decide) (hb hby d9_40) ?_
    refine XS.astore X4.here hx rfl (hb hby d9_41) rfl rfl (l' := #[sR o0, sI 0, sI 0, sR (vA + 2 + 4 * 0 + 0), sR (dA + 2 + 4 * 0 + 0), .unset]) rfl ?_
    refine XS.iconst X4.here hx rfl (hb hby d9_43) ?_
    refine XS.istore X4.here hx rfl (hb hby d9_44) rfl (l' := #[sR o0, sI 0, sI 0, sR (vA + 2 + 4 * 0 + 0), sR (dA + 2 + 4 * 0 + 0), sI 0]) rfl ?_
    refine XS.iload X4.here hx rfl (hb hby d9_46) rfl ?_
    refine XS.aloadN X4.here hx rfl (hb hby d9_48) rfl rfl ?_
    refine AV.len (Gv0.cell 0 0 (by decide) (by decide)) X4 hx hZ e4 (hb hby d9_49) ?_
    refine XS.icmpNo X4.here hx rfl (hb hby d9_50) rfl (tlt (by decide)).2.1 ?_
    refine XS.aloadN X4.here hx rfl (hb hby d9_53) rfl rfl ?_
    refine XS.iload X4.here hx rfl (hb hby d9_54) rfl ?_
    refine X4.ldc2DoubleC hx hown (wz hZ hw 70 rfl) (g := (mkF m 56 #[sR o0, sI 0, sI 0, sR (vA + 2 + 4 * 0 + 0), sR (dA + 2 + 4 * 0 + 0), sI 0] [(.int 0), (.ref (vA + 2 + 4 * 0 + 0))])) rfl (hb hby d9_56) _ ?_
    refine XS.aloadN X4.here hx rfl (hb hby d9_59) rfl rfl ?_
    refine XS.iload X4.here hx rfl (hb hby d9_60) rfl ?_
    refine AV.daload (Gv0.cell 0 0 (by decide) (by decide)) X4 hx hZ e4 (j := (0 : Int32)) (by decide) (hb hby d9_62) ?_
    refine XS.dmulS X4.here hx rfl (hb hby d9_63) rfl (hnn 0 0 0 (by decide) (by decide) (by decide)).1 rfl ?_
    refine XS.aload X4.here hx rfl (hb hby d9_64) rfl rfl ?_
    refine XS.iload X4.here hx rfl (hb hby d9_66) rfl ?_
    refine AV.daload (Gd0.cell 0 0 (by decide) (by decide)) X4 hx hZ e4 (j := (0 : Int32)) (by decide) (hb hby d9_68) ?_
    refine XS.daddS X4.here hx rfl (hb hby d9_69) rfl (hnn 0 0 0 (by decide) (by decide) (by decide)).2 rfl ?_
    exact kZ
  obtain ⟨T5, h5, X5, e5, W5, V5, st5⟩ := AV.dastore (Gv0.cell 0 0 (by decide) (by decide)) X4 hx hZ e4 (j := (0 : Int32)) (by decide) (Ls := #[sR o0, sI 0, sI 0, sR (vA + 2 + 4 * 0 + 0), sR (dA + 2 + 4 * 0 + 0), sI 0]) (rest := []) (hb hby d9_70) (x := (FP.dadd (FP.dmul (4606732058837280358 : UInt64) (((own_vl f g 0) 0 0) (0 : Int32).toNatClampNeg)) (((own_dp g 0) 0 0) (0 : Int32).toNatClampNeg)))
  have N5 := Fr.snoc X5 N0 (Nat.le_trans ha5 (show vA ≤ (vA + 2 + 4 * 0 + 0) by omega))
  have c6_0 := ha0.wr W5
  have c6_1 := ha1.other W5 (Or.inl (own_na (by omega)))
  have c6_2 := ha2.other W5 (Or.inl (own_na (by omega)))
  have c6_3 := Gv0
  have c6_4 := Gd0.other W5 (by omega)
  have K5 : Keep h0 h5 [(vA + 2 + 4 * 0 + 0), (dA + 2 + 4 * 0 + 0), (vA + 2 + 4 * 0 + 1), (dA + 2 + 4 * 0 + 1), (vA + 2 + 4 * 0 + 2), (dA + 2 + 4 * 0 + 2), (vA + 2 + 4 * 1 + 0), (dA + 2 + 4 * 1 + 0), (vA + 2 + 4 * 1 + 1), (dA + 2 + 4 * 1 + 1), (vA + 2 + 4 * 1 + 2), (dA + 2 + 4 * 1 + 2)] := (Keep.refl h0 [(vA + 2 + 4 * 0 + 0), (dA + 2 + 4 * 0 + 0), (vA + 2 + 4 * 0 + 1), (dA + 2 + 4 * 0 + 1), (vA + 2 + 4 * 0 + 2), (dA + 2 + 4 * 0 + 2), (vA + 2 + 4 * 1 + 0), (dA + 2 + 4 * 1 + 0), (vA + 2 + 4 * 1 + 1), (dA + 2 + 4 * 1 + 1), (vA + 2 + 4 * 1 + 2), (dA + 2 + 4 * 1 + 2)]).wr W5 (Or.inl (by simp))
  have Z5 := Nat.le_trans Z0 (Keep.of_wr W5).1
  have Gw5 : Gd Z h5 vA (own_vl f g 1) := (Gd.set Gv0 0 0 (by decide) (by decide) W5 V5).congr (own_vl_step rfl (by decide) (by decide) rfl)
  refine Go.via st5 ?_
  refine Vi (T5.setTop (mkF m 76 #[sR o0, sI 0, sI 0, sR (vA + 2 + 4 * 0 + 0), sR (dA + 2 + 4 * 0 + 0), sI 0] [(.double FP.dconst0), (.int 0), (.ref (dA + 2 + 4 * 0 + 0))])) (fun tZ kZ => ?_) ?_
  · refine XS.aload X5.here hx rfl (hb hby d9_71) rfl rfl ?_
    refine XS.iload X5.here hx rfl (hb hby d9_73) rfl ?_
    refine XS.dconst0 X5.here hx rfl (hb hby d9_75) rfl ?_
    exact kZ
  obtain ⟨T7, h7, X7, e7, W7, V7, st7⟩ := AV.dastore (c6_4.cell 0 0 (by decide) (by decide)) X5 hx hZ e5 (j := (0 : Int32)) (by decide) (Ls := #[sR o0, sI 0, sI 0, sR (vA + 2 + 4 * 0 + 0), sR (dA + 2 + 4 * 0 + 0), sI 0]) (rest := []) (hb hby d9_76) (x := FP.dconst0)
  have N7 := Fr.snoc X7 N5 (Nat.le_trans ha6 (show dA ≤ (dA + 2 + 4 * 0 + 0) by omega))
  have c8_0 := c6_0.wr W7
  have c8_1 := c6_1.other W7 (Or.inl (own_na (by omega)))
  have c8_2 := c6_2.other W7 (Or.inl (own_na (by omega)))
  have c8_3 := Gw5.other W7 (by omega)
  have c8_4 := c6_4
  have K7 : Keep h0 h7 [(vA + 2 + 4 * 0 + 0), (dA + 2 + 4 * 0 + 0), (vA + 2 + 4 * 0 + 1), (dA + 2 + 4 * 0 + 1), (vA + 2 + 4 * 0 + 2), (dA + 2 + 4 * 0 + 2), (vA + 2 + 4 * 1 + 0), (dA + 2 + 4 * 1 + 0), (vA + 2 + 4 * 1 + 1), (dA + 2 + 4 * 1 + 1), (vA + 2 + 4 * 1 + 2), (dA + 2 + 4 * 1 + 2)] := K5.wr W7 (Or.inl (by simp))
  have Z7 := Nat.le_trans Z5 (Keep.of_wr W7).1
  have Gw7 : Gd Z h7 dA (own_dp g 1) := (Gd.set c6_4 0 0 (by decide) (by decide) W7 V7).congr (own_dp_step rfl (by decide) (by decide))
  refine Go.via st7 ?_
  refine Vi (T7.setTop (mkF m 70 #[sR o0, sI 0, sI 0, sR (vA + 2 + 4 * 0 + 0), sR (dA + 2 + 4 * 0 + 0), sI 1] [(.double (FP.dadd (FP.dmul (4606732058837280358 : UInt64) (((own_vl f g 1) 0 0) (1 : Int32).toNatClampNeg)) (((own_dp g 1) 0 0) (1 : Int32).toNatClampNeg))), (.int 1), (.ref (vA + 2 + 4 * 0 + 0))])) (fun tZ kZ => ?_) ?_
  · refine XS.iinc X7.here hx rfl (hb hby d9_77) rfl (l' := #[sR o0, sI 0, sI 0, sR (vA + 2 + 4 * 0 + 0), sR (dA + 2 + 4 * 0 + 0), sI 1]) rfl ?_
    refine XS.goto X7.here hx rfl (pc0 := 80) (pc' := 46) rfl (hb hby d9_80) (by decide) (by decide) ?_
    refine XS.iload X7.here hx rfl (hb hby d9_46) rfl ?_
    refine XS.aloadN X7.here hx rfl (hb hby d9_48) rfl rfl ?_
    refine AV.len (c8_3.cell 0 0 (by decide) (by decide)) X7 hx hZ e7 (hb hby d9_49) ?_
    refine XS.icmpNo X7.here hx rfl (hb hby d9_50) rfl (tlt (by decide)).2.1 ?_
    refine XS.aloadN X7.here hx rfl (hb hby d9_53) rfl rfl ?_
    refine XS.iload X7.here hx rfl (hb hby d9_54) rfl ?_
    refine X7.ldc2DoubleC hx hown (wz hZ hw 70 rfl) (g := (mkF m 56 #[sR o0, sI 0, sI 0, sR (vA + 2 + 4 * 0 + 0), sR (dA + 2 + 4 * 0 + 0), sI 1] [(.int 1), (.ref (vA + 2 + 4 * 0 + 0))])) rfl (hb hby d9_56) _ ?_
    refine XS.aloadN X7.here hx rfl (hb hby d9_59) rfl rfl ?_
    refine XS.iload X7.here hx rfl (hb hby d9_60) rfl ?_
    refine AV.daload (c8_3.cell 0 0 (by decide) (by decide)) X7 hx hZ e7 (j := (1 : Int32)) (by decide) (hb hby d9_62) ?_
    refine XS.dmulS X7.here hx rfl (hb hby d9_63) rfl (hnn 0 0 1 (by decide) (by decide) (by decide)).1 rfl ?_
    refine XS.aload X7.here hx rfl (hb hby d9_64) rfl rfl ?_
    refine XS.iload X7.here hx rfl (hb hby d9_66) rfl ?_
    refine AV.daload (Gw7.cell 0 0 (by decide) (by decide)) X7 hx hZ e7 (j := (1 : Int32)) (by decide) (hb hby d9_68) ?_
    refine XS.daddS X7.here hx rfl (hb hby d9_69) rfl (hnn 0 0 1 (by decide) (by decide) (by decide)).2 rfl ?_
    exact kZ
  obtain ⟨T9, h9, X9, e9, W9, V9, st9⟩ := AV.dastore (c8_3.cell 0 0 (by decide) (by decide)) X7 hx hZ e7 (j := (1 : Int32)) (by decide) (Ls := #[sR o0, sI 0, sI 0, sR (vA + 2 + 4 * 0 + 0), sR (dA + 2 + 4 * 0 + 0), sI 1]) (rest := []) (hb hby d9_70) (x := (FP.dadd (FP.dmul (4606732058837280358 : UInt64) (((own_vl f g 1) 0 0) (1 : Int32).toNatClampNeg)) (((own_dp g 1) 0 0) (1 : Int32).toNatClampNeg)))
  have N9 := Fr.snoc X9 N7 (Nat.le_trans ha5 (show vA ≤ (vA + 2 + 4 * 0 + 0) by omega))
  have c10_0 := c8_0.wr W9
  have c10_1 := c8_1.other W9 (Or.inl (own_na (by omega)))
  have c10_2 := c8_2.other W9 (Or.inl (own_na (by omega)))
  have c10_3 := c8_3
  have c10_4 := Gw7.other W9 (by omega)
  have K9 : Keep h0 h9 [(vA + 2 + 4 * 0 + 0), (dA + 2 + 4 * 0 + 0), (vA + 2 + 4 * 0 + 1), (dA + 2 + 4 * 0 + 1), (vA + 2 + 4 * 0 + 2), (dA + 2 + 4 * 0 + 2), (vA + 2 + 4 * 1 + 0), (dA + 2 + 4 * 1 + 0), (vA + 2 + 4 * 1 + 1), (dA + 2 + 4 * 1 + 1), (vA + 2 + 4 * 1 + 2), (dA + 2 + 4 * 1 + 2)] := K7.wr W9 (Or.inl (by simp))
  have Z9 := Nat.le_trans Z7 (Keep.of_wr W9).1
  have Gw9 : Gd Z h9 vA (own_vl f g 2) := (Gd.set c8_3 0 0 (by decide) (by decide) W9 V9).congr (own_vl_step rfl (by decide) (by decide) rfl)
  refine Go.via st9 ?_
  refine Vi (T9.setTop (mkF m 76 #[sR o0, sI 0, sI 0, sR (vA + 2 + 4 * 0 + 0), sR (dA + 2 + 4 * 0 + 0), sI 1] [(.double FP.dconst0), (.int 1), (.ref (dA + 2 + 4 * 0 + 0))])) (fun tZ kZ => ?_) ?_
  · refine XS.aload X9.here hx rfl (hb hby d9_71) rfl rfl ?_
    refine XS.iload X9.here hx rfl (hb hby d9_73) rfl ?_
    refine XS.dconst0 X9.here hx rfl (hb hby d9_75) rfl ?_
    exact kZ
  obtain ⟨T11, h11, X11, e11, W11, V11, st11⟩ := AV.dastore (c10_4.cell 0 0 (by decide) (by decide)) X9 hx hZ e9 (j := (1 : Int32)) (by decide) (Ls := #[sR o0, sI 0, sI 0, sR (vA + 2 + 4 * 0 + 0), sR (dA + 2 + 4 * 0 + 0), sI 1]) (rest := []) (hb hby d9_76) (x := FP.dconst0)
  have N11 := Fr.snoc X11 N9 (Nat.le_trans ha6 (show dA ≤ (dA + 2 + 4 * 0 + 0) by omega))
  have c12_0 := c10_0.wr W11
  have c12_1 := c10_1.other W11 (Or.inl (own_na (by omega)))
  have c12_2 := c10_2.other W11 (Or.inl (own_na (by omega)))
  have c12_3 := Gw9.other W11 (by omega)
  have c12_4 := c10_4
  have K11 : Keep h0 h11 [(vA + 2 + 4 * 0 + 0), (dA + 2 + 4 * 0 + 0), (vA + 2 + 4 * 0 + 1), (dA + 2 + 4 * 0 + 1), (vA + 2 + 4 * 0 + 2), (dA + 2 + 4 * 0 + 2), (vA + 2 + 4 * 1 + 0), (dA + 2 + 4 * 1 + 0), (vA + 2 + 4 * 1 + 1), (dA + 2 + 4 * 1 + 1), (vA + 2 + 4 * 1 + 2), (dA + 2 + 4 * 1 + 2)] := K9.wr W11 (Or.inl (by simp))
  have Z11 := Nat.le_trans Z9 (Keep.of_wr W11).1
  have Gw11 : Gd Z h11 dA (own_dp g 2) := (Gd.set c10_4 0 0 (by decide) (by decide) W11 V11).congr (own_dp_step rfl (by decide) (by decide))
  refine Go.via st11 ?_
  refine Vi (T11.setTop (mkF m 15 #[sR o0, sI 0, sI 1, sR (vA + 2 + 4 * 0 + 0), sR (dA + 2 + 4 * 0 + 0), sI 2] [(.ref o0), (.int 1)])) (fun tZ kZ => ?_) ?_
  · refine XS.iinc X11.here hx rfl (hb hby d9_77) rfl (l' := #[sR o0, sI 0, sI 0, sR (vA + 2 + 4 * 0 + 0), sR (dA + 2 + 4 * 0 + 0), sI 2]) rfl ?_
    refine XS.goto X11.here hx rfl (pc0 := 80) (pc' := 46) rfl (hb hby d9_80) (by decide) (by decide) ?_
    refine XS.iload X11.here hx rfl (hb hby d9_46) rfl ?_
    refine XS.aloadN X11.here hx rfl (hb hby d9_48) rfl rfl ?_
    refine AV.len (c12_3.cell 0 0 (by decide) (by decide)) X11 hx hZ e11 (hb hby d9_49) ?_
    refine XS.icmpYes X11.here hx rfl (pc0 := 50) (pc' := 83) rfl (hb hby d9_50) rfl (flt (by decide)).2.1 (by decide) (by decide) ?_
    refine XS.iinc X11.here hx rfl (hb hby d9_83) rfl (l' := #[sR o0, sI 0, sI 1, sR (vA + 2 + 4 * 0 + 0), sR (dA + 2 + 4 * 0 + 0), sI 2]) rfl ?_
    refine XS.goto X11.here hx rfl (pc0 := 86) (pc' := 13) rfl (hb hby d9_86) (by decide) (by decide) ?_
    refine XS.iloadN X11.here hx rfl (hb hby d9_13) rfl ?_
    refine XS.aloadN X11.here hx rfl (hb hby d9_14) rfl rfl ?_
    exact kZ
  refine GF X11 hx hZ hown (wq hw 20 rfl) e11 c12_1 (hb hby d9_15) fun T13 X13 e13 => ?_
  refine Vi (T13.setTop (mkF m 25 #[sR o0, sI 0, sI 1, sR (vA + 2 + 4 * 0 + 0), sR (dA + 2 + 4 * 0 + 0), sI 2] [(.ref o0)])) (fun tZ kZ => ?_) ?_
  · refine XS.iloadN X13.here hx rfl (hb hby d9_18) rfl ?_
    refine AV.aaload c12_3.top rfl X13 hx hZ e13 (j := (0 : Int32)) (by decide) (hb hby d9_19) ?_
    refine AV.len (c12_3.row 0 (by decide)) X13 hx hZ e13 (hb hby d9_20) ?_
    refine XS.icmpNo X13.here hx rfl (hb hby d9_21) rfl (tlt (by decide)).2.1 ?_
    refine XS.aloadN X13.here hx rfl (hb hby d9_24) rfl rfl ?_
    exact kZ
  refine GF X13 hx hZ hown (wq hw 20 rfl) e13 c12_1 (hb hby d9_25) fun T14 X14 e14 => ?_
  refine Vi (T14.setTop (mkF m 34 #[sR o0, sI 0, sI 1, sR (vA + 2 + 4 * 0 + 1), sR (dA + 2 + 4 * 0 + 0), sI 2] [(.ref o0)])) (fun tZ kZ => ?_) ?_
  · refine XS.iloadN X14.here hx rfl (hb hby d9_28) rfl ?_
    refine AV.aaload c12_3.top rfl X14 hx hZ e14 (j := (0 : Int32)) (by decide) (hb hby d9_29) ?_
    refine XS.iloadN X14.here hx rfl (hb hby d9_30) rfl ?_
    refine AV.aaload (c12_3.row 0 (by decide)) rfl X14 hx hZ e14 (j := (1 : Int32)) (by decide) (hb hby d9_31) ?_
    refine XS.astoreN X14.here hx rfl (hb hby d9_32) rfl rfl (l' := #[sR o0, sI 0, sI 1, sR (vA + 2 + 4 * 0 + 1), sR (dA + 2 + 4 * 0 + 0), sI 2]) rfl ?_
    refine XS.aloadN X14.here hx rfl (hb hby d9_33) rfl rfl ?_
    exact kZ
  refine GF X14 hx hZ hown (wq hw 22 rfl) e14 c12_2 (hb hby d9_34) fun T15 X15 e15 => ?_
  refine Vi (T15.setTop (mkF m 70 #[sR o0, sI 0, sI 1, sR (vA + 2 + 4 * 0 + 1), sR (dA + 2 + 4 * 0 + 1), sI 0] [(.double (FP.dadd (FP.dmul (4606732058837280358 : UInt64) (((own_vl f g 2) 0 1) (0 : Int32).toNatClampNeg)) (((own_dp g 2) 0 1) (0 : Int32).toNatClampNeg))), (.int 0), (.ref (vA + 2 + 4 * 0 + 1))])) (fun tZ kZ => ?_) ?_
  · refine XS.iloadN X15.here hx rfl (hb hby d9_37) rfl ?_
    refine AV.aaload Gw11.top rfl X15 hx hZ e15 (j := (0 : Int32)) (by decide) (hb hby d9_38) ?_
    refine XS.iloadN X15.here hx rfl (hb hby d9_39) rfl ?_
    refine AV.aaload (Gw11.row 0 (by decide)) rfl X15 hx hZ e15 (j := (1 : Int32)) (by decide) (hb hby d9_40) ?_
    refine XS.astore X15.here hx rfl (hb hby d9_41) rfl rfl (l' := #[sR o0, sI 0, sI 1, sR (vA + 2 + 4 * 0 + 1), sR (dA + 2 + 4 * 0 + 1), sI 2]) rfl ?_
    refine XS.iconst X15.here hx rfl (hb hby d9_43) ?_
    refine XS.istore X15.here hx rfl (hb hby d9_44) rfl (l' := #[sR o0, sI 0, sI 1, sR (vA + 2 + 4 * 0 + 1), sR (dA + 2 + 4 * 0 + 1), sI 0]) rfl ?_
    refine XS.iload X15.here hx rfl (hb hby d9_46) rfl ?_
    refine XS.aloadN X15.here hx rfl (hb hby d9_48) rfl rfl ?_
    refine AV.len (c12_3.cell 0 1 (by decide) (by decide)) X15 hx hZ e15 (hb hby d9_49) ?_
    refine XS.icmpNo X15.here hx rfl (hb hby d9_50) rfl (tlt (by decide)).2.1 ?_
    refine XS.aloadN X15.here hx rfl (hb hby d9_53) rfl rfl ?_
    refine XS.iload X15.here hx rfl (hb hby d9_54) rfl ?_
    refine X15.ldc2DoubleC hx hown (wz hZ hw 70 rfl) (g := (mkF m 56 #[sR o0, sI 0, sI 1, sR (vA + 2 + 4 * 0 + 1), sR (dA + 2 + 4 * 0 + 1), sI 0] [(.int 0), (.ref (vA + 2 + 4 * 0 + 1))])) rfl (hb hby d9_56) _ ?_
    refine XS.aloadN X15.here hx rfl (hb hby d9_59) rfl rfl ?_
    refine XS.iload X15.here hx rfl (hb hby d9_60) rfl ?_
    refine AV.daload (c12_3.cell 0 1 (by decide) (by decide)) X15 hx hZ e15 (j := (0 : Int32)) (by decide) (hb hby d9_62) ?_
    refine XS.dmulS X15.here hx rfl (hb hby d9_63) rfl (hnn 0 1 0 (by decide) (by decide) (by decide)).1 rfl ?_
    refine XS.aload X15.here hx rfl (hb hby d9_64) rfl rfl ?_
    refine XS.iload X15.here hx rfl (hb hby d9_66) rfl ?_
    refine AV.daload (Gw11.cell 0 1 (by decide) (by decide)) X15 hx hZ e15 (j := (0 : Int32)) (by decide) (hb hby d9_68) ?_
    refine XS.daddS X15.here hx rfl (hb hby d9_69) rfl (hnn 0 1 0 (by decide) (by decide) (by decide)).2 rfl ?_
    exact kZ
  obtain ⟨T16, h16, X16, e16, W16, V16, st16⟩ := AV.dastore (c12_3.cell 0 1 (by decide) (by decide)) X15 hx hZ e15 (j := (0 : Int32)) (by decide) (Ls := #[sR o0, sI 0, sI 1, sR (vA + 2 + 4 * 0 + 1), sR (dA + 2 + 4 * 0 + 1), sI 0]) (rest := []) (hb hby d9_70) (x := (FP.dadd (FP.dmul (4606732058837280358 : UInt64) (((own_vl f g 2) 0 1) (0 : Int32).toNatClampNeg)) (((own_dp g 2) 0 1) (0 : Int32).toNatClampNeg)))
  have N16 := Fr.snoc X16 N11 (Nat.le_trans ha5 (show vA ≤ (vA + 2 + 4 * 0 + 1) by omega))
  have c17_0 := c12_0.wr W16
  have c17_1 := c12_1.other W16 (Or.inl (own_na (by omega)))
  have c17_2 := c12_2.other W16 (Or.inl (own_na (by omega)))
  have c17_3 := c12_3
  have c17_4 := Gw11.other W16 (by omega)
  have K16 : Keep h0 h16 [(vA + 2 + 4 * 0 + 0), (dA + 2 + 4 * 0 + 0), (vA + 2 + 4 * 0 + 1), (dA + 2 + 4 * 0 + 1), (vA + 2 + 4 * 0 + 2), (dA + 2 + 4 * 0 + 2), (vA + 2 + 4 * 1 + 0), (dA + 2 + 4 * 1 + 0), (vA + 2 + 4 * 1 + 1), (dA + 2 + 4 * 1 + 1), (vA + 2 + 4 * 1 + 2), (dA + 2 + 4 * 1 + 2)] := K11.wr W16 (Or.inl (by simp))
  have Z16 := Nat.le_trans Z11 (Keep.of_wr W16).1
  have Gw16 : Gd Z h16 vA (own_vl f g 3) := (Gd.set c12_3 0 1 (by decide) (by decide) W16 V16).congr (own_vl_step rfl (by decide) (by decide) rfl)
  refine Go.via st16 ?_
  refine Vi (T16.setTop (mkF m 76 #[sR o0, sI 0, sI 1, sR (vA + 2 + 4 * 0 + 1), sR (dA + 2 + 4 * 0 + 1), sI 0] [(.double FP.dconst0), (.int 0), (.ref (dA + 2 + 4 * 0 + 1))])) (fun tZ kZ => ?_) ?_
  · refine XS.aload X16.here hx rfl (hb hby d9_71) rfl rfl ?_
    refine XS.iload X16.here hx rfl (hb hby d9_73) rfl ?_
    refine XS.dconst0 X16.here hx rfl (hb hby d9_75) rfl ?_
    exact kZ
  obtain ⟨T18, h18, X18, e18, W18, V18, st18⟩ := AV.dastore (c17_4.cell 0 1 (by decide) (by decide)) X16 hx hZ e16 (j := (0 : Int32)) (by decide) (Ls := #[sR o0, sI 0, sI 1, sR (vA + 2 + 4 * 0 + 1), sR (dA + 2 + 4 * 0 + 1), sI 0]) (rest := []) (hb hby d9_76) (x := FP.dconst0)
  have N18 := Fr.snoc X18 N16 (Nat.le_trans ha6 (show dA ≤ (dA + 2 + 4 * 0 + 1) by omega))
  have c19_0 := c17_0.wr W18
  have c19_1 := c17_1.other W18 (Or.inl (own_na (by omega)))
  have c19_2 := c17_2.other W18 (Or.inl (own_na (by omega)))
  have c19_3 := Gw16.other W18 (by omega)
  have c19_4 := c17_4
  have K18 : Keep h0 h18 [(vA + 2 + 4 * 0 + 0), (dA + 2 + 4 * 0 + 0), (vA + 2 + 4 * 0 + 1), (dA + 2 + 4 * 0 + 1), (vA + 2 + 4 * 0 + 2), (dA + 2 + 4 * 0 + 2), (vA + 2 + 4 * 1 + 0), (dA + 2 + 4 * 1 + 0), (vA + 2 + 4 * 1 + 1), (dA + 2 + 4 * 1 + 1), (vA + 2 + 4 * 1 + 2), (dA + 2 + 4 * 1 + 2)] := K16.wr W18 (Or.inl (by simp))
  have Z18 := Nat.le_trans Z16 (Keep.of_wr W18).1
  have Gw18 : Gd Z h18 dA (own_dp g 3) := (Gd.set c17_4 0 1 (by decide) (by decide) W18 V18).congr (own_dp_step rfl (by decide) (by decide))
  refine Go.via st18 ?_
  refine Vi (T18.setTop (mkF m 70 #[sR o0, sI 0, sI 1, sR (vA + 2 + 4 * 0 + 1), sR (dA + 2 + 4 * 0 + 1), sI 1] [(.double (FP.dadd (FP.dmul (4606732058837280358 : UInt64) (((own_vl f g 3) 0 1) (1 : Int32).toNatClampNeg)) (((own_dp g 3) 0 1) (1 : Int32).toNatClampNeg))), (.int 1), (.ref (vA + 2 + 4 * 0 + 1))])) (fun tZ kZ => ?_) ?_
  · refine XS.iinc X18.here hx rfl (hb hby d9_77) rfl (l' := #[sR o0, sI 0, sI 1, sR (vA + 2 + 4 * 0 + 1), sR (dA + 2 + 4 * 0 + 1), sI 1]) rfl ?_
    refine XS.goto X18.here hx rfl (pc0 := 80) (pc' := 46) rfl (hb hby d9_80) (by decide) (by decide) ?_
    refine XS.iload X18.here hx rfl (hb hby d9_46) rfl ?_
    refine XS.aloadN X18.here hx rfl (hb hby d9_48) rfl rfl ?_
    refine AV.len (c19_3.cell 0 1 (by decide) (by decide)) X18 hx hZ e18 (hb hby d9_49) ?_
    refine XS.icmpNo X18.here hx rfl (hb hby d9_50) rfl (tlt (by decide)).2.1 ?_
    refine XS.aloadN X18.here hx rfl (hb hby d9_53) rfl rfl ?_
    refine XS.iload X18.here hx rfl (hb hby d9_54) rfl ?_
    refine X18.ldc2DoubleC hx hown (wz hZ hw 70 rfl) (g := (mkF m 56 #[sR o0, sI 0, sI 1, sR (vA + 2 + 4 * 0 + 1), sR (dA + 2 + 4 * 0 + 1), sI 1] [(.int 1), (.ref (vA + 2 + 4 * 0 + 1))])) rfl (hb hby d9_56) _ ?_
    refine XS.aloadN X18.here hx rfl (hb hby d9_59) rfl rfl ?_
    refine XS.iload X18.here hx rfl (hb hby d9_60) rfl ?_
    refine AV.daload (c19_3.cell 0 1 (by decide) (by decide)) X18 hx hZ e18 (j := (1 : Int32)) (by decide) (hb hby d9_62) ?_
    refine XS.dmulS X18.here hx rfl (hb hby d9_63) rfl (hnn 0 1 1 (by decide) (by decide) (by decide)).1 rfl ?_
    refine XS.aload X18.here hx rfl (hb hby d9_64) rfl rfl ?_
    refine XS.iload X18.here hx rfl (hb hby d9_66) rfl ?_
    refine AV.daload (Gw18.cell 0 1 (by decide) (by decide)) X18 hx hZ e18 (j := (1 : Int32)) (by decide) (hb hby d9_68) ?_
    refine XS.daddS X18.here hx rfl (hb hby d9_69) rfl (hnn 0 1 1 (by decide) (by decide) (by decide)).2 rfl ?_
    exact kZ
  obtain ⟨T20, h20, X20, e20, W20, V20, st20⟩ := AV.dastore (c19_3.cell 0 1 (by decide) (by decide)) X18 hx hZ e18 (j := (1 : Int32)) (by decide) (Ls := #[sR o0, sI 0, sI 1, sR (vA + 2 + 4 * 0 + 1), sR (dA + 2 + 4 * 0 + 1), sI 1]) (rest := []) (hb hby d9_70) (x := (FP.dadd (FP.dmul (4606732058837280358 : UInt64) (((own_vl f g 3) 0 1) (1 : Int32).toNatClampNeg)) (((own_dp g 3) 0 1) (1 : Int32).toNatClampNeg)))
  have N20 := Fr.snoc X20 N18 (Nat.le_trans ha5 (show vA ≤ (vA + 2 + 4 * 0 + 1) by omega))
  have c21_0 := c19_0.wr W20
  have c21_1 := c19_1.other W20 (Or.inl (own_na (by omega)))
  have c21_2 := c19_2.other W20 (Or.inl (own_na (by omega)))
  have c21_3 := c19_3
  have c21_4 := Gw18.other W20 (by omega)
  have K20 : Keep h0 h20 [(vA + 2 + 4 * 0 + 0), (dA + 2 + 4 * 0 + 0), (vA + 2 + 4 * 0 + 1), (dA + 2 + 4 * 0 + 1), (vA + 2 + 4 * 0 + 2), (dA + 2 + 4 * 0 + 2), (vA + 2 + 4 * 1 + 0), (dA + 2 + 4 * 1 + 0), (vA + 2 + 4 * 1 + 1), (dA + 2 + 4 * 1 + 1), (vA + 2 + 4 * 1 + 2), (dA + 2 + 4 * 1 + 2)] := K18.wr W20 (Or.inl (by simp))
  have Z20 := Nat.le_trans Z18 (Keep.of_wr W20).1
  have Gw20 : Gd Z h20 vA (own_vl f g 4) := (Gd.set c19_3 0 1 (by decide) (by decide) W20 V20).congr (own_vl_step rfl (by decide) (by decide) rfl)
  refine Go.via st20 ?_
  refine Vi (T20.setTop (mkF m 76 #[sR o0, sI 0, sI 1, sR (vA + 2 + 4 * 0 + 1), sR (dA + 2 + 4 * 0 + 1), sI 1] [(.double FP.dconst0), (.int 1), (.ref (dA + 2 + 4 * 0 + 1))])) (fun tZ kZ => ?_) ?_
  · refine XS.aload X20.here hx rfl (hb hby d9_71) rfl rfl ?_
    refine XS.iload X20.here hx rfl (hb hby d9_73) rfl ?_
    refine XS.dconst0 X20.here hx rfl (hb hby d9_75) rfl ?_
    exact kZ
  obtain ⟨T22, h22, X22, e22, W22, V22, st22⟩ := AV.dastore (c21_4.cell 0 1 (by decide) (by decide)) X20 hx hZ e20 (j := (1 : Int32)) (by decide) (Ls := #[sR o0, sI 0, sI 1, sR (vA + 2 + 4 * 0 + 1), sR (dA + 2 + 4 * 0 + 1), sI 1]) (rest := []) (hb hby d9_76) (x := FP.dconst0)
  have N22 := Fr.snoc X22 N20 (Nat.le_trans ha6 (show dA ≤ (dA + 2 + 4 * 0 + 1) by omega))
  have c23_0 := c21_0.wr W22
  have c23_1 := c21_1.other W22 (Or.inl (own_na (by omega)))
  have c23_2 := c21_2.other W22 (Or.inl (own_na (by omega)))
  have c23_3 := Gw20.other W22 (by omega)
  have c23_4 := c21_4
  have K22 : Keep h0 h22 [(vA + 2 + 4 * 0 + 0), (dA + 2 + 4 * 0 + 0), (vA + 2 + 4 * 0 + 1), (dA + 2 + 4 * 0 + 1), (vA + 2 + 4 * 0 + 2), (dA + 2 + 4 * 0 + 2), (vA + 2 + 4 * 1 + 0), (dA + 2 + 4 * 1 + 0), (vA + 2 + 4 * 1 + 1), (dA + 2 + 4 * 1 + 1), (vA + 2 + 4 * 1 + 2), (dA + 2 + 4 * 1 + 2)] := K20.wr W22 (Or.inl (by simp))
  have Z22 := Nat.le_trans Z20 (Keep.of_wr W22).1
  have Gw22 : Gd Z h22 dA (own_dp g 4) := (Gd.set c21_4 0 1 (by decide) (by decide) W22 V22).congr (own_dp_step rfl (by decide) (by decide))
  refine Go.via st22 ?_
  refine Vi (T22.setTop (mkF m 15 #[sR o0, sI 0, sI 2, sR (vA + 2 + 4 * 0 + 1), sR (dA + 2 + 4 * 0 + 1), sI 2] [(.ref o0), (.int 2)])) (fun tZ kZ => ?_) ?_
  · refine XS.iinc X22.here hx rfl (hb hby d9_77) rfl (l' := #[sR o0, sI 0, sI 1, sR (vA + 2 + 4 * 0 + 1), sR (dA + 2 + 4 * 0 + 1), sI 2]) rfl ?_
    refine XS.goto X22.here hx rfl (pc0 := 80) (pc' := 46) rfl (hb hby d9_80) (by decide) (by decide) ?_
    refine XS.iload X22.here hx rfl (hb hby d9_46) rfl ?_
    refine XS.aloadN X22.here hx rfl (hb hby d9_48) rfl rfl ?_
    refine AV.len (c23_3.cell 0 1 (by decide) (by decide)) X22 hx hZ e22 (hb hby d9_49) ?_
    refine XS.icmpYes X22.here hx rfl (pc0 := 50) (pc' := 83) rfl (hb hby d9_50) rfl (flt (by decide)).2.1 (by decide) (by decide) ?_
    refine XS.iinc X22.here hx rfl (hb hby d9_83) rfl (l' := #[sR o0, sI 0, sI 2, sR (vA + 2 + 4 * 0 + 1), sR (dA + 2 + 4 * 0 + 1), sI 2]) rfl ?_
    refine XS.goto X22.here hx rfl (pc0 := 86) (pc' := 13) rfl (hb hby d9_86) (by decide) (by decide) ?_
    refine XS.iloadN X22.here hx rfl (hb hby d9_13) rfl ?_
    refine XS.aloadN X22.here hx rfl (hb hby d9_14) rfl rfl ?_
    exact kZ
  refine GF X22 hx hZ hown (wq hw 20 rfl) e22 c23_1 (hb hby d9_15) fun T24 X24 e24 => ?_
  refine Vi (T24.setTop (mkF m 25 #[sR o0, sI 0, sI 2, sR (vA + 2 + 4 * 0 + 1), sR (dA + 2 + 4 * 0 + 1), sI 2] [(.ref o0)])) (fun tZ kZ => ?_) ?_
  · refine XS.iloadN X24.here hx rfl (hb hby d9_18) rfl ?_
    refine AV.aaload c23_3.top rfl X24 hx hZ e24 (j := (0 : Int32)) (by decide) (hb hby d9_19) ?_
    refine AV.len (c23_3.row 0 (by decide)) X24 hx hZ e24 (hb hby d9_20) ?_
    refine XS.icmpNo X24.here hx rfl (hb hby d9_21) rfl (tlt (by decide)).2.1 ?_
    refine XS.aloadN X24.here hx rfl (hb hby d9_24) rfl rfl ?_
    exact kZ
  refine GF X24 hx hZ hown (wq hw 20 rfl) e24 c23_1 (hb hby d9_25) fun T25 X25 e25 => ?_
  refine Vi (T25.setTop (mkF m 34 #[sR o0, sI 0, sI 2, sR (vA + 2 + 4 * 0 + 2), sR (dA + 2 + 4 * 0 + 1), sI 2] [(.ref o0)])) (fun tZ kZ => ?_) ?_
  · refine XS.iloadN X25.here hx rfl (hb hby d9_28) rfl ?_
    refine AV.aaload c23_3.top rfl X25 hx hZ e25 (j := (0 : Int32)) (by decide) (hb hby d9_29) ?_
    refine XS.iloadN X25.here hx rfl (hb hby d9_30) rfl ?_
    refine AV.aaload (c23_3.row 0 (by decide)) rfl X25 hx hZ e25 (j := (2 : Int32)) (by decide) (hb hby d9_31) ?_
    refine XS.astoreN X25.here hx rfl (hb hby d9_32) rfl rfl (l' := #[sR o0, sI 0, sI 2, sR (vA + 2 + 4 * 0 + 2), sR (dA + 2 + 4 * 0 + 1), sI 2]) rfl ?_
    refine XS.aloadN X25.here hx rfl (hb hby d9_33) rfl rfl ?_
    exact kZ
  refine GF X25 hx hZ hown (wq hw 22 rfl) e25 c23_2 (hb hby d9_34) fun T26 X26 e26 => ?_
  refine Vi (T26.setTop (mkF m 70 #[sR o0, sI 0, sI 2, sR (vA + 2 + 4 * 0 + 2), sR (dA + 2 + 4 * 0 + 2), sI 0] [(.double (FP.dadd (FP.dmul (4606732058837280358 : UInt64) (((own_vl f g 4) 0 2) (0 : Int32).toNatClampNeg)) (((own_dp g 4) 0 2) (0 : Int32).toNatClampNeg))), (.int 0), (.ref (vA + 2 + 4 * 0 + 2))])) (fun tZ kZ => ?_) ?_
  · refine XS.iloadN X26.here hx rfl (hb hby d9_37) rfl ?_
    refine AV.aaload Gw22.top rfl X26 hx hZ e26 (j := (0 : Int32)) (by decide) (hb hby d9_38) ?_
    refine XS.iloadN X26.here hx rfl (hb hby d9_39) rfl ?_
    refine AV.aaload (Gw22.row 0 (by decide)) rfl X26 hx hZ e26 (j := (2 : Int32)) (by decide) (hb hby d9_40) ?_
    refine XS.astore X26.here hx rfl (hb hby d9_41) rfl rfl (l' := #[sR o0, sI 0, sI 2, sR (vA + 2 + 4 * 0 + 2), sR (dA + 2 + 4 * 0 + 2), sI 2]) rfl ?_
    refine XS.iconst X26.here hx rfl (hb hby d9_43) ?_
    refine XS.istore X26.here hx rfl (hb hby d9_44) rfl (l' := #[sR o0, sI 0, sI 2, sR (vA + 2 + 4 * 0 + 2), sR (dA + 2 + 4 * 0 + 2), sI 0]) rfl ?_
    refine XS.iload X26.here hx rfl (hb hby d9_46) rfl ?_
    refine XS.aloadN X26.here hx rfl (hb hby d9_48) rfl rfl ?_
    refine AV.len (c23_3.cell 0 2 (by decide) (by decide)) X26 hx hZ e26 (hb hby d9_49) ?_
    refine XS.icmpNo X26.here hx rfl (hb hby d9_50) rfl (tlt (by decide)).2.1 ?_
    refine XS.aloadN X26.here hx rfl (hb hby d9_53) rfl rfl ?_
    refine XS.iload X26.here hx rfl (hb hby d9_54) rfl ?_
    refine X26.ldc2DoubleC hx hown (wz hZ hw 70 rfl) (g := (mkF m 56 #[sR o0, sI 0, sI 2, sR (vA + 2 + 4 * 0 + 2), sR (dA + 2 + 4 * 0 + 2), sI 0] [(.int 0), (.ref (vA + 2 + 4 * 0 + 2))])) rfl (hb hby d9_56) _ ?_
    refine XS.aloadN X26.here hx rfl (hb hby d9_59) rfl rfl ?_
    refine XS.iload X26.here hx rfl (hb hby d9_60) rfl ?_
    refine AV.daload (c23_3.cell 0 2 (by decide) (by decide)) X26 hx hZ e26 (j := (0 : Int32)) (by decide) (hb hby d9_62) ?_
    refine XS.dmulS X26.here hx rfl (hb hby d9_63) rfl (hnn 0 2 0 (by decide) (by decide) (by decide)).1 rfl ?_
    refine XS.aload X26.here hx rfl (hb hby d9_64) rfl rfl ?_
    refine XS.iload X26.here hx rfl (hb hby d9_66) rfl ?_
    refine AV.daload (Gw22.cell 0 2 (by decide) (by decide)) X26 hx hZ e26 (j := (0 : Int32)) (by decide) (hb hby d9_68) ?_
    refine XS.daddS X26.here hx rfl (hb hby d9_69) rfl (hnn 0 2 0 (by decide) (by decide) (by decide)).2 rfl ?_
    exact kZ
  obtain ⟨T27, h27, X27, e27, W27, V27, st27⟩ := AV.dastore (c23_3.cell 0 2 (by decide) (by decide)) X26 hx hZ e26 (j := (0 : Int32)) (by decide) (Ls := #[sR o0, sI 0, sI 2, sR (vA + 2 + 4 * 0 + 2), sR (dA + 2 + 4 * 0 + 2), sI 0]) (rest := []) (hb hby d9_70) (x := (FP.dadd (FP.dmul (4606732058837280358 : UInt64) (((own_vl f g 4) 0 2) (0 : Int32).toNatClampNeg)) (((own_dp g 4) 0 2) (0 : Int32).toNatClampNeg)))
  have N27 := Fr.snoc X27 N22 (Nat.le_trans ha5 (show vA ≤ (vA + 2 + 4 * 0 + 2) by omega))
  have c28_0 := c23_0.wr W27
  have c28_1 := c23_1.other W27 (Or.inl (own_na (by omega)))
  have c28_2 := c23_2.other W27 (Or.inl (own_na (by omega)))
  have c28_3 := c23_3
  have c28_4 := Gw22.other W27 (by omega)
  have K27 : Keep h0 h27 [(vA + 2 + 4 * 0 + 0), (dA + 2 + 4 * 0 + 0), (vA + 2 + 4 * 0 + 1), (dA + 2 + 4 * 0 + 1), (vA + 2 + 4 * 0 + 2), (dA + 2 + 4 * 0 + 2), (vA + 2 + 4 * 1 + 0), (dA + 2 + 4 * 1 + 0), (vA + 2 + 4 * 1 + 1), (dA + 2 + 4 * 1 + 1), (vA + 2 + 4 * 1 + 2), (dA + 2 + 4 * 1 + 2)] := K22.wr W27 (Or.inl (by simp))
  have Z27 := Nat.le_trans Z22 (Keep.of_wr W27).1
  have Gw27 : Gd Z h27 vA (own_vl f g 5) := (Gd.set c23_3 0 2 (by decide) (by decide) W27 V27).congr (own_vl_step rfl (by decide) (by decide) rfl)
  refine Go.via st27 ?_
  refine Vi (T27.setTop (mkF m 76 #[sR o0, sI 0, sI 2, sR (vA + 2 + 4 * 0 + 2), sR (dA + 2 + 4 * 0 + 2), sI 0] [(.double FP.dconst0), (.int 0), (.ref (dA + 2 + 4 * 0 + 2))])) (fun tZ kZ => ?_) ?_
  · refine XS.aload X27.here hx rfl (hb hby d9_71) rfl rfl ?_
    refine XS.iload X27.here hx rfl (hb hby d9_73) rfl ?_
    refine XS.dconst0 X27.here hx rfl (hb hby d9_75) rfl ?_
    exact kZ
  obtain ⟨T29, h29, X29, e29, W29, V29, st29⟩ := AV.dastore (c28_4.cell 0 2 (by decide) (by decide)) X27 hx hZ e27 (j := (0 : Int32)) (by decide) (Ls := #[sR o0, sI 0, sI 2, sR (vA + 2 + 4 * 0 + 2), sR (dA + 2 + 4 * 0 + 2), sI 0]) (rest := []) (hb hby d9_76) (x := FP.dconst0)
  have N29 := Fr.snoc X29 N27 (Nat.le_trans ha6 (show dA ≤ (dA + 2 + 4 * 0 + 2) by omega))
  have c30_0 := c28_0.wr W29
  have c30_1 := c28_1.other W29 (Or.inl (own_na (by omega)))
  have c30_2 := c28_2.other W29 (Or.inl (own_na (by omega)))
  have c30_3 := Gw27.other W29 (by omega)
  have c30_4 := c28_4
  have K29 : Keep h0 h29 [(vA + 2 + 4 * 0 + 0), (dA + 2 + 4 * 0 + 0), (vA + 2 + 4 * 0 + 1), (dA + 2 + 4 * 0 + 1), (vA + 2 + 4 * 0 + 2), (dA + 2 + 4 * 0 + 2), (vA + 2 + 4 * 1 + 0), (dA + 2 + 4 * 1 + 0), (vA + 2 + 4 * 1 + 1), (dA + 2 + 4 * 1 + 1), (vA + 2 + 4 * 1 + 2), (dA + 2 + 4 * 1 + 2)] := K27.wr W29 (Or.inl (by simp))
  have Z29 := Nat.le_trans Z27 (Keep.of_wr W29).1
  have Gw29 : Gd Z h29 dA (own_dp g 5) := (Gd.set c28_4 0 2 (by decide) (by decide) W29 V29).congr (own_dp_step rfl (by decide) (by decide))
  refine Go.via st29 ?_
  refine Vi (T29.setTop (mkF m 70 #[sR o0, sI 0, sI 2, sR (vA + 2 + 4 * 0 + 2), sR (dA + 2 + 4 * 0 + 2), sI 1] [(.double (FP.dadd (FP.dmul (4606732058837280358 : UInt64) (((own_vl f g 5) 0 2) (1 : Int32).toNatClampNeg)) (((own_dp g 5) 0 2) (1 : Int32).toNatClampNeg))), (.int 1), (.ref (vA + 2 + 4 * 0 + 2))])) (fun tZ kZ => ?_) ?_
  · refine XS.iinc X29.here hx rfl (hb hby d9_77) rfl (l' := #[sR o0, sI 0, sI 2, sR (vA + 2 + 4 * 0 + 2), sR (dA + 2 + 4 * 0 + 2), sI 1]) rfl ?_
    refine XS.goto X29.here hx rfl (pc0 := 80) (pc' := 46) rfl (hb hby d9_80) (by decide) (by decide) ?_
    refine XS.iload X29.here hx rfl (hb hby d9_46) rfl ?_
    refine XS.aloadN X29.here hx rfl (hb hby d9_48) rfl rfl ?_
    refine AV.len (c30_3.cell 0 2 (by decide) (by decide)) X29 hx hZ e29 (hb hby d9_49) ?_
    refine XS.icmpNo X29.here hx rfl (hb hby d9_50) rfl (tlt (by decide)).2.1 ?_
    refine XS.aloadN X29.here hx rfl (hb hby d9_53) rfl rfl ?_
    refine XS.iload X29.here hx rfl (hb hby d9_54) rfl ?_
    refine X29.ldc2DoubleC hx hown (wz hZ hw 70 rfl) (g := (mkF m 56 #[sR o0, sI 0, sI 2, sR (vA + 2 + 4 * 0 + 2), sR (dA + 2 + 4 * 0 + 2), sI 1] [(.int 1), (.ref (vA + 2 + 4 * 0 + 2))])) rfl (hb hby d9_56) _ ?_
    refine XS.aloadN X29.here hx rfl (hb hby d9_59) rfl rfl ?_
    refine XS.iload X29.here hx rfl (hb hby d9_60) rfl ?_
    refine AV.daload (c30_3.cell 0 2 (by decide) (by decide)) X29 hx hZ e29 (j := (1 : Int32)) (by decide) (hb hby d9_62) ?_
    refine XS.dmulS X29.here hx rfl (hb hby d9_63) rfl (hnn 0 2 1 (by decide) (by decide) (by decide)).1 rfl ?_
    refine XS.aload X29.here hx rfl (hb hby d9_64) rfl rfl ?_
    refine XS.iload X29.here hx rfl (hb hby d9_66) rfl ?_
    refine AV.daload (Gw29.cell 0 2 (by decide) (by decide)) X29 hx hZ e29 (j := (1 : Int32)) (by decide) (hb hby d9_68) ?_
    refine XS.daddS X29.here hx rfl (hb hby d9_69) rfl (hnn 0 2 1 (by decide) (by decide) (by decide)).2 rfl ?_
    exact kZ
  obtain ⟨T31, h31, X31, e31, W31, V31, st31⟩ := AV.dastore (c30_3.cell 0 2 (by decide) (by decide)) X29 hx hZ e29 (j := (1 : Int32)) (by decide) (Ls := #[sR o0, sI 0, sI 2, sR (vA + 2 + 4 * 0 + 2), sR (dA + 2 + 4 * 0 + 2), sI 1]) (rest := []) (hb hby d9_70) (x := (FP.dadd (FP.dmul (4606732058837280358 : UInt64) (((own_vl f g 5) 0 2) (1 : Int32).toNatClampNeg)) (((own_dp g 5) 0 2) (1 : Int32).toNatClampNeg)))
  have N31 := Fr.snoc X31 N29 (Nat.le_trans ha5 (show vA ≤ (vA + 2 + 4 * 0 + 2) by omega))
  have c32_0 := c30_0.wr W31
  have c32_1 := c30_1.other W31 (Or.inl (own_na (by omega)))
  have c32_2 := c30_2.other W31 (Or.inl (own_na (by omega)))
  have c32_3 := c30_3
  have c32_4 := Gw29.other W31 (by omega)
  have K31 : Keep h0 h31 [(vA + 2 + 4 * 0 + 0), (dA + 2 + 4 * 0 + 0), (vA + 2 + 4 * 0 + 1), (dA + 2 + 4 * 0 + 1), (vA + 2 + 4 * 0 + 2), (dA + 2 + 4 * 0 + 2), (vA + 2 + 4 * 1 + 0), (dA + 2 + 4 * 1 + 0), (vA + 2 + 4 * 1 + 1), (dA + 2 + 4 * 1 + 1), (vA + 2 + 4 * 1 + 2), (dA + 2 + 4 * 1 + 2)] := K29.wr W31 (Or.inl (by simp))
  have Z31 := Nat.le_trans Z29 (Keep.of_wr W31).1
  have Gw31 : Gd Z h31 vA (own_vl f g 6) := (Gd.set c30_3 0 2 (by decide) (by decide) W31 V31).congr (own_vl_step rfl (by decide) (by decide) rfl)
  refine Go.via st31 ?_
  refine Vi (T31.setTop (mkF m 76 #[sR o0, sI 0, sI 2, sR (vA + 2 + 4 * 0 + 2), sR (dA + 2 + 4 * 0 + 2), sI 1] [(.double FP.dconst0), (.int 1), (.ref (dA + 2 + 4 * 0 + 2))])) (fun tZ kZ => ?_) ?_
  · refine XS.aload X31.here hx rfl (hb hby d9_71) rfl rfl ?_
    refine XS.iload X31.here hx rfl (hb hby d9_73) rfl ?_
    refine XS.dconst0 X31.here hx rfl (hb hby d9_75) rfl ?_
    exact kZ
  obtain ⟨T33, h33, X33, e33, W33, V33, st33⟩ := AV.dastore (c32_4.cell 0 2 (by decide) (by decide)) X31 hx hZ e31 (j := (1 : Int32)) (by decide) (Ls := #[sR o0, sI 0, sI 2, sR (vA + 2 + 4 * 0 + 2), sR (dA + 2 + 4 * 0 + 2), sI 1]) (rest := []) (hb hby d9_76) (x := FP.dconst0)
  have N33 := Fr.snoc X33 N31 (Nat.le_trans ha6 (show dA ≤ (dA + 2 + 4 * 0 + 2) by omega))
  have c34_0 := c32_0.wr W33
  have c34_1 := c32_1.other W33 (Or.inl (own_na (by omega)))
  have c34_2 := c32_2.other W33 (Or.inl (own_na (by omega)))
  have c34_3 := Gw31.other W33 (by omega)
  have c34_4 := c32_4
  have K33 : Keep h0 h33 [(vA + 2 + 4 * 0 + 0), (dA + 2 + 4 * 0 + 0), (vA + 2 + 4 * 0 + 1), (dA + 2 + 4 * 0 + 1), (vA + 2 + 4 * 0 + 2), (dA + 2 + 4 * 0 + 2), (vA + 2 + 4 * 1 + 0), (dA + 2 + 4 * 1 + 0), (vA + 2 + 4 * 1 + 1), (dA + 2 + 4 * 1 + 1), (vA + 2 + 4 * 1 + 2), (dA + 2 + 4 * 1 + 2)] := K31.wr W33 (Or.inl (by simp))
  have Z33 := Nat.le_trans Z31 (Keep.of_wr W33).1
  have Gw33 : Gd Z h33 dA (own_dp g 6) := (Gd.set c32_4 0 2 (by decide) (by decide) W33 V33).congr (own_dp_step rfl (by decide) (by decide))
  refine Go.via st33 ?_
  refine Vi (T33.setTop (mkF m 15 #[sR o0, sI 0, sI 3, sR (vA + 2 + 4 * 0 + 2), sR (dA + 2 + 4 * 0 + 2), sI 2] [(.ref o0), (.int 3)])) (fun tZ kZ => ?_) ?_
  · refine XS.iinc X33.here hx rfl (hb hby d9_77) rfl (l' := #[sR o0, sI 0, sI 2, sR (vA + 2 + 4 * 0 + 2), sR (dA + 2 + 4 * 0 + 2), sI 2]) rfl ?_
    refine XS.goto X33.here hx rfl (pc0 := 80) (pc' := 46) rfl (hb hby d9_80) (by decide) (by decide) ?_
    refine XS.iload X33.here hx rfl (hb hby d9_46) rfl ?_
    refine XS.aloadN X33.here hx rfl (hb hby d9_48) rfl rfl ?_
    refine AV.len (c34_3.cell 0 2 (by decide) (by decide)) X33 hx hZ e33 (hb hby d9_49) ?_
    refine XS.icmpYes X33.here hx rfl (pc0 := 50) (pc' := 83) rfl (hb hby d9_50) rfl (flt (by decide)).2.1 (by decide) (by decide) ?_
    refine XS.iinc X33.here hx rfl (hb hby d9_83) rfl (l' := #[sR o0, sI 0, sI 3, sR (vA + 2 + 4 * 0 + 2), sR (dA + 2 + 4 * 0 + 2), sI 2]) rfl ?_
    refine XS.goto X33.here hx rfl (pc0 := 86) (pc' := 13) rfl (hb hby d9_86) (by decide) (by decide) ?_
    refine XS.iloadN X33.here hx rfl (hb hby d9_13) rfl ?_
    refine XS.aloadN X33.here hx rfl (hb hby d9_14) rfl rfl ?_
    exact kZ
  refine GF X33 hx hZ hown (wq hw 20 rfl) e33 c34_1 (hb hby d9_15) fun T35 X35 e35 => ?_
  refine Vi (T35.setTop (mkF m 4 #[sR o0, sI 1, sI 3, sR (vA + 2 + 4 * 0 + 2), sR (dA + 2 + 4 * 0 + 2), sI 2] [(.ref o0), (.int 1)])) (fun tZ kZ => ?_) ?_
  · refine XS.iloadN X35.here hx rfl (hb hby d9_18) rfl ?_
    refine AV.aaload c34_3.top rfl X35 hx hZ e35 (j := (0 : Int32)) (by decide) (hb hby d9_19) ?_
    refine AV.len (c34_3.row 0 (by decide)) X35 hx hZ e35 (hb hby d9_20) ?_
    refine XS.icmpYes X35.here hx rfl (pc0 := 21) (pc' := 89) rfl (hb hby d9_21) rfl (flt (by decide)).2.1 (by decide) (by decide) ?_
    refine XS.iinc X35.here hx rfl (hb hby d9_89) rfl (l' := #[sR o0, sI 1, sI 3, sR (vA + 2 + 4 * 0 + 2), sR (dA + 2 + 4 * 0 + 2), sI 2]) rfl ?_
    refine XS.goto X35.here hx rfl (pc0 := 92) (pc' := 2) rfl (hb hby d9_92) (by decide) (by decide) ?_
    refine XS.iloadN X35.here hx rfl (hb hby d9_2) rfl ?_
    refine XS.aloadN X35.here hx rfl (hb hby d9_3) rfl rfl ?_
    exact kZ
  refine GF X35 hx hZ hown (wq hw 20 rfl) e35 c34_1 (hb hby d9_4) fun T36 X36 e36 => ?_
  refine Vi (T36.setTop (mkF m 15 #[sR o0, sI 1, sI 0, sR (vA + 2 + 4 * 0 + 2), sR (dA + 2 + 4 * 0 + 2), sI 2] [(.ref o0), (.int 0)])) (fun tZ kZ => ?_) ?_
  · refine AV.len c34_3.top X36 hx hZ e36 (hb hby d9_7) ?_
    refine XS.icmpNo X36.here hx rfl (hb hby d9_8) rfl (tlt (by decide)).2.1 ?_
    refine XS.iconst X36.here hx rfl (hb hby d9_11) ?_
    refine XS.istoreN X36.here hx rfl (hb hby d9_12) rfl (l' := #[sR o0, sI 1, sI 0, sR (vA + 2 + 4 * 0 + 2), sR (dA + 2 + 4 * 0 + 2), sI 2]) rfl ?_
    refine XS.iloadN X36.here hx rfl (hb hby d9_13) rfl ?_
    refine XS.aloadN X36.here hx rfl (hb hby d9_14) rfl rfl ?_
    exact kZ
  refine GF X36 hx hZ hown (wq hw 20 rfl) e36 c34_1 (hb hby d9_15) fun T37 X37 e37 => ?_
  refine Vi (T37.setTop (mkF m 25 #[sR o0, sI 1, sI 0, sR (vA + 2 + 4 * 0 + 2), sR (dA + 2 + 4 * 0 + 2), sI 2] [(.ref o0)])) (fun tZ kZ => ?_) ?_
  · refine XS.iloadN X37.here hx rfl (hb hby d9_18) rfl ?_
    refine AV.aaload c34_3.top rfl X37 hx hZ e37 (j := (1 : Int32)) (by decide) (hb hby d9_19) ?_
    refine AV.len (c34_3.row 1 (by decide)) X37 hx hZ e37 (hb hby d9_20) ?_
    refine XS.icmpNo X37.here hx rfl (hb hby d9_21) rfl (tlt (by decide)).2.1 ?_
    refine XS.aloadN X37.here hx rfl (hb hby d9_24) rfl rfl ?_
    exact kZ
  refine GF X37 hx hZ hown (wq hw 20 rfl) e37 c34_1 (hb hby d9_25) fun T38 X38 e38 => ?_
  refine Vi (T38.setTop (mkF m 34 #[sR o0, sI 1, sI 0, sR (vA + 2 + 4 * 1 + 0), sR (dA + 2 + 4 * 0 + 2), sI 2] [(.ref o0)])) (fun tZ kZ => ?_) ?_
  · refine XS.iloadN X38.here hx rfl (hb hby d9_28) rfl ?_
    refine AV.aaload c34_3.top rfl X38 hx hZ e38 (j := (1 : Int32)) (by decide) (hb hby d9_29) ?_
    refine XS.iloadN X38.here hx rfl (hb hby d9_30) rfl ?_
    refine AV.aaload (c34_3.row 1 (by decide)) rfl X38 hx hZ e38 (j := (0 : Int32)) (by decide) (hb hby d9_31) ?_
    refine XS.astoreN X38.here hx rfl (hb hby d9_32) rfl rfl (l' := #[sR o0, sI 1, sI 0, sR (vA + 2 + 4 * 1 + 0), sR (dA + 2 + 4 * 0 + 2), sI 2]) rfl ?_
    refine XS.aloadN X38.here hx rfl (hb hby d9_33) rfl rfl ?_
    exact kZ
  refine GF X38 hx hZ hown (wq hw 22 rfl) e38 c34_2 (hb hby d9_34) fun T39 X39 e39 => ?_
  refine Vi (T39.setTop (mkF m 70 #[sR o0, sI 1, sI 0, sR (vA + 2 + 4 * 1 + 0), sR (dA + 2 + 4 * 1 + 0), sI 0] [(.double (FP.dadd (FP.dmul (4606732058837280358 : UInt64) (((own_vl f g 6) 1 0) (0 : Int32).toNatClampNeg)) (((own_dp g 6) 1 0) (0 : Int32).toNatClampNeg))), (.int 0), (.ref (vA + 2 + 4 * 1 + 0))])) (fun tZ kZ => ?_) ?_
  · refine XS.iloadN X39.here hx rfl (hb hby d9_37) rfl ?_
    refine AV.aaload Gw33.top rfl X39 hx hZ e39 (j := (1 : Int32)) (by decide) (hb hby d9_38) ?_
    refine XS.iloadN X39.here hx rfl (hb hby d9_39) rfl ?_
    refine AV.aaload (Gw33.row 1 (by decide)) rfl X39 hx hZ e39 (j := (0 : Int32)) (by decide) (hb hby d9_40) ?_
    refine XS.astore X39.here hx rfl (hb hby d9_41) rfl rfl (l' := #[sR o0, sI 1, sI 0, sR (vA + 2 + 4 * 1 + 0), sR (dA + 2 + 4 * 1 + 0), sI 2]) rfl ?_
    refine XS.iconst X39.here hx rfl (hb hby d9_43) ?_
    refine XS.istore X39.here hx rfl (hb hby d9_44) rfl (l' := #[sR o0, sI 1, sI 0, sR (vA + 2 + 4 * 1 + 0), sR (dA + 2 + 4 * 1 + 0), sI 0]) rfl ?_
    refine XS.iload X39.here hx rfl (hb hby d9_46) rfl ?_
    refine XS.aloadN X39.here hx rfl (hb hby d9_48) rfl rfl ?_
    refine AV.len (c34_3.cell 1 0 (by decide) (by decide)) X39 hx hZ e39 (hb hby d9_49) ?_
    refine XS.icmpNo X39.here hx rfl (hb hby d9_50) rfl (tlt (by decide)).2.1 ?_
    refine XS.aloadN X39.here hx rfl (hb hby d9_53) rfl rfl ?_
    refine XS.iload X39.here hx rfl (hb hby d9_54) rfl ?_
    refine X39.ldc2DoubleC hx hown (wz hZ hw 70 rfl) (g := (mkF m 56 #[sR o0, sI 1, sI 0, sR (vA + 2 + 4 * 1 + 0), sR (dA + 2 + 4 * 1 + 0), sI 0] [(.int 0), (.ref (vA + 2 + 4 * 1 + 0))])) rfl (hb hby d9_56) _ ?_
    refine XS.aloadN X39.here hx rfl (hb hby d9_59) rfl rfl ?_
    refine XS.iload X39.here hx rfl (hb hby d9_60) rfl ?_
    refine AV.daload (c34_3.cell 1 0 (by decide) (by decide)) X39 hx hZ e39 (j := (0 : Int32)) (by decide) (hb hby d9_62) ?_
    refine XS.dmulS X39.here hx rfl (hb hby d9_63) rfl (hnn 1 0 0 (by decide) (by decide) (by decide)).1 rfl ?_
    refine XS.aload X39.here hx rfl (hb hby d9_64) rfl rfl ?_
    refine XS.iload X39.here hx rfl (hb hby d9_66) rfl ?_
    refine AV.daload (Gw33.cell 1 0 (by decide) (by decide)) X39 hx hZ e39 (j := (0 : Int32)) (by decide) (hb hby d9_68) ?_
    refine XS.daddS X39.here hx rfl (hb hby d9_69) rfl (hnn 1 0 0 (by decide) (by decide) (by decide)).2 rfl ?_
    exact kZ
  obtain ⟨T40, h40, X40, e40, W40, V40, st40⟩ := AV.dastore (c34_3.cell 1 0 (by decide) (by decide)) X39 hx hZ e39 (j := (0 : Int32)) (by decide) (Ls := #[sR o0, sI 1, sI 0, sR (vA + 2 + 4 * 1 + 0), sR (dA + 2 + 4 * 1 + 0), sI 0]) (rest := []) (hb hby d9_70) (x := (FP.dadd (FP.dmul (4606732058837280358 : UInt64) (((own_vl f g 6) 1 0) (0 : Int32).toNatClampNeg)) (((own_dp g 6) 1 0) (0 : Int32).toNatClampNeg)))
  have N40 := Fr.snoc X40 N33 (Nat.le_trans ha5 (show vA ≤ (vA + 2 + 4 * 1 + 0) by omega))
  have c41_0 := c34_0.wr W40
  have c41_1 := c34_1.other W40 (Or.inl (own_na (by omega)))
  have c41_2 := c34_2.other W40 (Or.inl (own_na (by omega)))
  have c41_3 := c34_3
  have c41_4 := Gw33.other W40 (by omega)
  have K40 : Keep h0 h40 [(vA + 2 + 4 * 0 + 0), (dA + 2 + 4 * 0 + 0), (vA + 2 + 4 * 0 + 1), (dA + 2 + 4 * 0 + 1), (vA + 2 + 4 * 0 + 2), (dA + 2 + 4 * 0 + 2), (vA + 2 + 4 * 1 + 0), (dA + 2 + 4 * 1 + 0), (vA + 2 + 4 * 1 + 1), (dA + 2 + 4 * 1 + 1), (vA + 2 + 4 * 1 + 2), (dA + 2 + 4 * 1 + 2)] := K33.wr W40 (Or.inl (by simp))
  have Z40 := Nat.le_trans Z33 (Keep.of_wr W40).1
  have Gw40 : Gd Z h40 vA (own_vl f g 7) := (Gd.set c34_3 1 0 (by decide) (by decide) W40 V40).congr (own_vl_step rfl (by decide) (by decide) rfl)
  refine Go.via st40 ?_
  refine Vi (T40.setTop (mkF m 76 #[sR o0, sI 1, sI 0, sR (vA + 2 + 4 * 1 + 0), sR (dA + 2 + 4 * 1 + 0), sI 0] [(.double FP.dconst0), (.int 0), (.ref (dA + 2 + 4 * 1 + 0))])) (fun tZ kZ => ?_) ?_
  · refine XS.aload X40.here hx rfl (hb hby d9_71) rfl rfl ?_
    refine XS.iload X40.here hx rfl (hb hby d9_73) rfl ?_
    refine XS.dconst0 X40.here hx rfl (hb hby d9_75) rfl ?_
    exact kZ
  obtain ⟨T42, h42, X42, e42, W42, V42, st42⟩ := AV.dastore (c41_4.cell 1 0 (by decide) (by decide)) X40 hx hZ e40 (j := (0 : Int32)) (by decide) (Ls := #[sR o0, sI 1, sI 0, sR (vA + 2 + 4 * 1 + 0), sR (dA + 2 + 4 * 1 + 0), sI 0]) (rest := []) (hb hby d9_76) (x := FP.dconst0)
  have N42 := Fr.snoc X42 N40 (Nat.le_trans ha6 (show dA ≤ (dA + 2 + 4 * 1 + 0) by omega))
  have c43_0 := c41_0.wr W42
  have c43_1 := c41_1.other W42 (Or.inl (own_na (by omega)))
  have c43_2 := c41_2.other W42 (Or.inl (own_na (by omega)))
  have c43_3 := Gw40.other W42 (by omega)
  have c43_4 := c41_4
  have K42 : Keep h0 h42 [(vA + 2 + 4 * 0 + 0), (dA + 2 + 4 * 0 + 0), (vA + 2 + 4 * 0 + 1), (dA + 2 + 4 * 0 + 1), (vA + 2 + 4 * 0 + 2), (dA + 2 + 4 * 0 + 2), (vA + 2 + 4 * 1 + 0), (dA + 2 + 4 * 1 + 0), (vA + 2 + 4 * 1 + 1), (dA + 2 + 4 * 1 + 1), (vA + 2 + 4 * 1 + 2), (dA + 2 + 4 * 1 + 2)] := K40.wr W42 (Or.inl (by simp))
  have Z42 := Nat.le_trans Z40 (Keep.of_wr W42).1
  have Gw42 : Gd Z h42 dA (own_dp g 7) := (Gd.set c41_4 1 0 (by decide) (by decide) W42 V42).congr (own_dp_step rfl (by decide) (by decide))
  refine Go.via st42 ?_
  refine Vi (T42.setTop (mkF m 70 #[sR o0, sI 1, sI 0, sR (vA + 2 + 4 * 1 + 0), sR (dA + 2 + 4 * 1 + 0), sI 1] [(.double (FP.dadd (FP.dmul (4606732058837280358 : UInt64) (((own_vl f g 7) 1 0) (1 : Int32).toNatClampNeg)) (((own_dp g 7) 1 0) (1 : Int32).toNatClampNeg))), (.int 1), (.ref (vA + 2 + 4 * 1 + 0))])) (fun tZ kZ => ?_) ?_
  · refine XS.iinc X42.here hx rfl (hb hby d9_77) rfl (l' := #[sR o0, sI 1, sI 0, sR (vA + 2 + 4 * 1 + 0), sR (dA + 2 + 4 * 1 + 0), sI 1]) rfl ?_
    refine XS.goto X42.here hx rfl (pc0 := 80) (pc' := 46) rfl (hb hby d9_80) (by decide) (by decide) ?_
    refine XS.iload X42.here hx rfl (hb hby d9_46) rfl ?_
    refine XS.aloadN X42.here hx rfl (hb hby d9_48) rfl rfl ?_
    refine AV.len (c43_3.cell 1 0 (by decide) (by decide)) X42 hx hZ e42 (hb hby d9_49) ?_
    refine XS.icmpNo X42.here hx rfl (hb hby d9_50) rfl (tlt (by decide)).2.1 ?_
    refine XS.aloadN X42.here hx rfl (hb hby d9_53) rfl rfl ?_
    refine XS.iload X42.here hx rfl (hb hby d9_54) rfl ?_
    refine X42.ldc2DoubleC hx hown (wz hZ hw 70 rfl) (g := (mkF m 56 #[sR o0, sI 1, sI 0, sR (vA + 2 + 4 * 1 + 0), sR (dA + 2 + 4 * 1 + 0), sI 1] [(.int 1), (.ref (vA + 2 + 4 * 1 + 0))])) rfl (hb hby d9_56) _ ?_
    refine XS.aloadN X42.here hx rfl (hb hby d9_59) rfl rfl ?_
    refine XS.iload X42.here hx rfl (hb hby d9_60) rfl ?_
    refine AV.daload (c43_3.cell 1 0 (by decide) (by decide)) X42 hx hZ e42 (j := (1 : Int32)) (by decide) (hb hby d9_62) ?_
    refine XS.dmulS X42.here hx rfl (hb hby d9_63) rfl (hnn 1 0 1 (by decide) (by decide) (by decide)).1 rfl ?_
    refine XS.aload X42.here hx rfl (hb hby d9_64) rfl rfl ?_
    refine XS.iload X42.here hx rfl (hb hby d9_66) rfl ?_
    refine AV.daload (Gw42.cell 1 0 (by decide) (by decide)) X42 hx hZ e42 (j := (1 : Int32)) (by decide) (hb hby d9_68) ?_
    refine XS.daddS X42.here hx rfl (hb hby d9_69) rfl (hnn 1 0 1 (by decide) (by decide) (by decide)).2 rfl ?_
    exact kZ
  obtain ⟨T44, h44, X44, e44, W44, V44, st44⟩ := AV.dastore (c43_3.cell 1 0 (by decide) (by decide)) X42 hx hZ e42 (j := (1 : Int32)) (by decide) (Ls := #[sR o0, sI 1, sI 0, sR (vA + 2 + 4 * 1 + 0), sR (dA + 2 + 4 * 1 + 0), sI 1]) (rest := []) (hb hby d9_70) (x := (FP.dadd (FP.dmul (4606732058837280358 : UInt64) (((own_vl f g 7) 1 0) (1 : Int32).toNatClampNeg)) (((own_dp g 7) 1 0) (1 : Int32).toNatClampNeg)))
  have N44 := Fr.snoc X44 N42 (Nat.le_trans ha5 (show vA ≤ (vA + 2 + 4 * 1 + 0) by omega))
  have c45_0 := c43_0.wr W44
  have c45_1 := c43_1.other W44 (Or.inl (own_na (by omega)))
  have c45_2 := c43_2.other W44 (Or.inl (own_na (by omega)))
  have c45_3 := c43_3
  have c45_4 := Gw42.other W44 (by omega)
  have K44 : Keep h0 h44 [(vA + 2 + 4 * 0 + 0), (dA + 2 + 4 * 0 + 0), (vA + 2 + 4 * 0 + 1), (dA + 2 + 4 * 0 + 1), (vA + 2 + 4 * 0 + 2), (dA + 2 + 4 * 0 + 2), (vA + 2 + 4 * 1 + 0), (dA + 2 + 4 * 1 + 0), (vA + 2 + 4 * 1 + 1), (dA + 2 + 4 * 1 + 1), (vA + 2 + 4 * 1 + 2), (dA + 2 + 4 * 1 + 2)] := K42.wr W44 (Or.inl (by simp))
  have Z44 := Nat.le_trans Z42 (Keep.of_wr W44).1
  have Gw44 : Gd Z h44 vA (own_vl f g 8) := (Gd.set c43_3 1 0 (by decide) (by decide) W44 V44).congr (own_vl_step rfl (by decide) (by decide) rfl)
  refine Go.via st44 ?_
  refine Vi (T44.setTop (mkF m 76 #[sR o0, sI 1, sI 0, sR (vA + 2 + 4 * 1 + 0), sR (dA + 2 + 4 * 1 + 0), sI 1] [(.double FP.dconst0), (.int 1), (.ref (dA + 2 + 4 * 1 + 0))])) (fun tZ kZ => ?_) ?_
  · refine XS.aload X44.here hx rfl (hb hby d9_71) rfl rfl ?_
    refine XS.iload X44.here hx rfl (hb hby d9_73) rfl ?_
    refine XS.dconst0 X44.here hx rfl (hb hby d9_75) rfl ?_
    exact kZ
  obtain ⟨T46, h46, X46, e46, W46, V46, st46⟩ := AV.dastore (c45_4.cell 1 0 (by decide) (by decide)) X44 hx hZ e44 (j := (1 : Int32)) (by decide) (Ls := #[sR o0, sI 1, sI 0, sR (vA + 2 + 4 * 1 + 0), sR (dA + 2 + 4 * 1 + 0), sI 1]) (rest := []) (hb hby d9_76) (x := FP.dconst0)
  have N46 := Fr.snoc X46 N44 (Nat.le_trans ha6 (show dA ≤ (dA + 2 + 4 * 1 + 0) by omega))
  have c47_0 := c45_0.wr W46
  have c47_1 := c45_1.other W46 (Or.inl (own_na (by omega)))
  have c47_2 := c45_2.other W46 (Or.inl (own_na (by omega)))
  have c47_3 := Gw44.other W46 (by omega)
  have c47_4 := c45_4
  have K46 : Keep h0 h46 [(vA + 2 + 4 * 0 + 0), (dA + 2 + 4 * 0 + 0), (vA + 2 + 4 * 0 + 1), (dA + 2 + 4 * 0 + 1), (vA + 2 + 4 * 0 + 2), (dA + 2 + 4 * 0 + 2), (vA + 2 + 4 * 1 + 0), (dA + 2 + 4 * 1 + 0), (vA + 2 + 4 * 1 + 1), (dA + 2 + 4 * 1 + 1), (vA + 2 + 4 * 1 + 2), (dA + 2 + 4 * 1 + 2)] := K44.wr W46 (Or.inl (by simp))
  have Z46 := Nat.le_trans Z44 (Keep.of_wr W46).1
  have Gw46 : Gd Z h46 dA (own_dp g 8) := (Gd.set c45_4 1 0 (by decide) (by decide) W46 V46).congr (own_dp_step rfl (by decide) (by decide))
  refine Go.via st46 ?_
  refine Vi (T46.setTop (mkF m 15 #[sR o0, sI 1, sI 1, sR (vA + 2 + 4 * 1 + 0), sR (dA + 2 + 4 * 1 + 0), sI 2] [(.ref o0), (.int 1)])) (fun tZ kZ => ?_) ?_
  · refine XS.iinc X46.here hx rfl (hb hby d9_77) rfl (l' := #[sR o0, sI 1, sI 0, sR (vA + 2 + 4 * 1 + 0), sR (dA + 2 + 4 * 1 + 0), sI 2]) rfl ?_
    refine XS.goto X46.here hx rfl (pc0 := 80) (pc' := 46) rfl (hb hby d9_80) (by decide) (by decide) ?_
    refine XS.iload X46.here hx rfl (hb hby d9_46) rfl ?_
    refine XS.aloadN X46.here hx rfl (hb hby d9_48) rfl rfl ?_
    refine AV.len (c47_3.cell 1 0 (by decide) (by decide)) X46 hx hZ e46 (hb hby d9_49) ?_
    refine XS.icmpYes X46.here hx rfl (pc0 := 50) (pc' := 83) rfl (hb hby d9_50) rfl (flt (by decide)).2.1 (by decide) (by decide) ?_
    refine XS.iinc X46.here hx rfl (hb hby d9_83) rfl (l' := #[sR o0, sI 1, sI 1, sR (vA + 2 + 4 * 1 + 0), sR (dA + 2 + 4 * 1 + 0), sI 2]) rfl ?_
    refine XS.goto X46.here hx rfl (pc0 := 86) (pc' := 13) rfl (hb hby d9_86) (by decide) (by decide) ?_
    refine XS.iloadN X46.here hx rfl (hb hby d9_13) rfl ?_
    refine XS.aloadN X46.here hx rfl (hb hby d9_14) rfl rfl ?_
    exact kZ
  refine GF X46 hx hZ hown (wq hw 20 rfl) e46 c47_1 (hb hby d9_15) fun T48 X48 e48 => ?_
  refine Vi (T48.setTop (mkF m 25 #[sR o0, sI 1, sI 1, sR (vA + 2 + 4 * 1 + 0), sR (dA + 2 + 4 * 1 + 0), sI 2] [(.ref o0)])) (fun tZ kZ => ?_) ?_
  · refine XS.iloadN X48.here hx rfl (hb hby d9_18) rfl ?_
    refine AV.aaload c47_3.top rfl X48 hx hZ e48 (j := (1 : Int32)) (by decide) (hb hby d9_19) ?_
    refine AV.len (c47_3.row 1 (by decide)) X48 hx hZ e48 (hb hby d9_20) ?_
    refine XS.icmpNo X48.here hx rfl (hb hby d9_21) rfl (tlt (by decide)).2.1 ?_
    refine XS.aloadN X48.here hx rfl (hb hby d9_24) rfl rfl ?_
    exact kZ
  refine GF X48 hx hZ hown (wq hw 20 rfl) e48 c47_1 (hb hby d9_25) fun T49 X49 e49 => ?_
  refine Vi (T49.setTop (mkF m 34 #[sR o0, sI 1, sI 1, sR (vA + 2 + 4 * 1 + 1), sR (dA + 2 + 4 * 1 + 0), sI 2] [(.ref o0)])) (fun tZ kZ => ?_) ?_
  · refine XS.iloadN X49.here hx rfl (hb hby d9_28) rfl ?_
    refine AV.aaload c47_3.top rfl X49 hx hZ e49 (j := (1 : Int32)) (by decide) (hb hby d9_29) ?_
    refine XS.iloadN X49.here hx rfl (hb hby d9_30) rfl ?_
    refine AV.aaload (c47_3.row 1 (by decide)) rfl X49 hx hZ e49 (j := (1 : Int32)) (by decide) (hb hby d9_31) ?_
    refine XS.astoreN X49.here hx rfl (hb hby d9_32) rfl rfl (l' := #[sR o0, sI 1, sI 1, sR (vA + 2 + 4 * 1 + 1), sR (dA + 2 + 4 * 1 + 0), sI 2]) rfl ?_
    refine XS.aloadN X49.here hx rfl (hb hby d9_33) rfl rfl ?_
    exact kZ
  refine GF X49 hx hZ hown (wq hw 22 rfl) e49 c47_2 (hb hby d9_34) fun T50 X50 e50 => ?_
  refine Vi (T50.setTop (mkF m 70 #[sR o0, sI 1, sI 1, sR (vA + 2 + 4 * 1 + 1), sR (dA + 2 + 4 * 1 + 1), sI 0] [(.double (FP.dadd (FP.dmul (4606732058837280358 : UInt64) (((own_vl f g 8) 1 1) (0 : Int32).toNatClampNeg)) (((own_dp g 8) 1 1) (0 : Int32).toNatClampNeg))), (.int 0), (.ref (vA + 2 + 4 * 1 + 1))])) (fun tZ kZ => ?_) ?_
  · refine XS.iloadN X50.here hx rfl (hb hby d9_37) rfl ?_
    refine AV.aaload Gw46.top rfl X50 hx hZ e50 (j := (1 : Int32)) (by decide) (hb hby d9_38) ?_
    refine XS.iloadN X50.here hx rfl (hb hby d9_39) rfl ?_
    refine AV.aaload (Gw46.row 1 (by decide)) rfl X50 hx hZ e50 (j := (1 : Int32)) (by decide) (hb hby d9_40) ?_
    refine XS.astore X50.here hx rfl (hb hby d9_41) rfl rfl (l' := #[sR o0, sI 1, sI 1, sR (vA + 2 + 4 * 1 + 1), sR (dA + 2 + 4 * 1 + 1), sI 2]) rfl ?_
    refine XS.iconst X50.here hx rfl (hb hby d9_43) ?_
    refine XS.istore X50.here hx rfl (hb hby d9_44) rfl (l' := #[sR o0, sI 1, sI 1, sR (vA + 2 + 4 * 1 + 1), sR (dA + 2 + 4 * 1 + 1), sI 0]) rfl ?_
    refine XS.iload X50.here hx rfl (hb hby d9_46) rfl ?_
    refine XS.aloadN X50.here hx rfl (hb hby d9_48) rfl rfl ?_
    refine AV.len (c47_3.cell 1 1 (by decide) (by decide)) X50 hx hZ e50 (hb hby d9_49) ?_
    refine XS.icmpNo X50.here hx rfl (hb hby d9_50) rfl (tlt (by decide)).2.1 ?_
    refine XS.aloadN X50.here hx rfl (hb hby d9_53) rfl rfl ?_
    refine XS.iload X50.here hx rfl (hb hby d9_54) rfl ?_
    refine X50.ldc2DoubleC hx hown (wz hZ hw 70 rfl) (g := (mkF m 56 #[sR o0, sI 1, sI 1, sR (vA + 2 + 4 * 1 + 1), sR (dA + 2 + 4 * 1 + 1), sI 0] [(.int 0), (.ref (vA + 2 + 4 * 1 + 1))])) rfl (hb hby d9_56) _ ?_
    refine XS.aloadN X50.here hx rfl (hb hby d9_59) rfl rfl ?_
    refine XS.iload X50.here hx rfl (hb hby d9_60) rfl ?_
    refine AV.daload (c47_3.cell 1 1 (by decide) (by decide)) X50 hx hZ e50 (j := (0 : Int32)) (by decide) (hb hby d9_62) ?_
    refine XS.dmulS X50.here hx rfl (hb hby d9_63) rfl (hnn 1 1 0 (by decide) (by decide) (by decide)).1 rfl ?_
    refine XS.aload X50.here hx rfl (hb hby d9_64) rfl rfl ?_
    refine XS.iload X50.here hx rfl (hb hby d9_66) rfl ?_
    refine AV.daload (Gw46.cell 1 1 (by decide) (by decide)) X50 hx hZ e50 (j := (0 : Int32)) (by decide) (hb hby d9_68) ?_
    refine XS.daddS X50.here hx rfl (hb hby d9_69) rfl (hnn 1 1 0 (by decide) (by decide) (by decide)).2 rfl ?_
    exact kZ
  obtain ⟨T51, h51, X51, e51, W51, V51, st51⟩ := AV.dastore (c47_3.cell 1 1 (by decide) (by decide)) X50 hx hZ e50 (j := (0 : Int32)) (by decide) (Ls := #[sR o0, sI 1, sI 1, sR (vA + 2 + 4 * 1 + 1), sR (dA + 2 + 4 * 1 + 1), sI 0]) (rest := []) (hb hby d9_70) (x := (FP.dadd (FP.dmul (4606732058837280358 : UInt64) (((own_vl f g 8) 1 1) (0 : Int32).toNatClampNeg)) (((own_dp g 8) 1 1) (0 : Int32).toNatClampNeg)))
  have N51 := Fr.snoc X51 N46 (Nat.le_trans ha5 (show vA ≤ (vA + 2 + 4 * 1 + 1) by omega))
  have c52_0 := c47_0.wr W51
  have c52_1 := c47_1.other W51 (Or.inl (own_na (by omega)))
  have c52_2 := c47_2.other W51 (Or.inl (own_na (by omega)))
  have c52_3 := c47_3
  have c52_4 := Gw46.other W51 (by omega)
  have K51 : Keep h0 h51 [(vA + 2 + 4 * 0 + 0), (dA + 2 + 4 * 0 + 0), (vA + 2 + 4 * 0 + 1), (dA + 2 + 4 * 0 + 1), (vA + 2 + 4 * 0 + 2), (dA + 2 + 4 * 0 + 2), (vA + 2 + 4 * 1 + 0), (dA + 2 + 4 * 1 + 0), (vA + 2 + 4 * 1 + 1), (dA + 2 + 4 * 1 + 1), (vA + 2 + 4 * 1 + 2), (dA + 2 + 4 * 1 + 2)] := K46.wr W51 (Or.inl (by simp))
  have Z51 := Nat.le_trans Z46 (Keep.of_wr W51).1
  have Gw51 : Gd Z h51 vA (own_vl f g 9) := (Gd.set c47_3 1 1 (by decide) (by decide) W51 V51).congr (own_vl_step rfl (by decide) (by decide) rfl)
  refine Go.via st51 ?_
  refine Vi (T51.setTop (mkF m 76 #[sR o0, sI 1, sI 1, sR (vA + 2 + 4 * 1 + 1), sR (dA + 2 + 4 * 1 + 1), sI 0] [(.double FP.dconst0), (.int 0), (.ref (dA + 2 + 4 * 1 + 1))])) (fun tZ kZ => ?_) ?_
  · refine XS.aload X51.here hx rfl (hb hby d9_71) rfl rfl ?_
    refine XS.iload X51.here hx rfl (hb hby d9_73) rfl ?_
    refine XS.dconst0 X51.here hx rfl (hb hby d9_75) rfl ?_
    exact kZ
  obtain ⟨T53, h53, X53, e53, W53, V53, st53⟩ := AV.dastore (c52_4.cell 1 1 (by decide) (by decide)) X51 hx hZ e51 (j := (0 : Int32)) (by decide) (Ls := #[sR o0, sI 1, sI 1, sR (vA + 2 + 4 * 1 + 1), sR (dA + 2 + 4 * 1 + 1), sI 0]) (rest := []) (hb hby d9_76) (x := FP.dconst0)
  have N53 := Fr.snoc X53 N51 (Nat.le_trans ha6 (show dA ≤ (dA + 2 + 4 * 1 + 1) by omega))
  have c54_0 := c52_0.wr W53
  have c54_1 := c52_1.other W53 (Or.inl (own_na (by omega)))
  have c54_2 := c52_2.other W53 (Or.inl (own_na (by omega)))
  have c54_3 := Gw51.other W53 (by omega)
  have c54_4 := c52_4
  have K53 : Keep h0 h53 [(vA + 2 + 4 * 0 + 0), (dA + 2 + 4 * 0 + 0), (vA + 2 + 4 * 0 + 1), (dA + 2 + 4 * 0 + 1), (vA + 2 + 4 * 0 + 2), (dA + 2 + 4 * 0 + 2), (vA + 2 + 4 * 1 + 0), (dA + 2 + 4 * 1 + 0), (vA + 2 + 4 * 1 + 1), (dA + 2 + 4 * 1 + 1), (vA + 2 + 4 * 1 + 2), (dA + 2 + 4 * 1 + 2)] := K51.wr W53 (Or.inl (by simp))
  have Z53 := Nat.le_trans Z51 (Keep.of_wr W53).1
  have Gw53 : Gd Z h53 dA (own_dp g 9) := (Gd.set c52_4 1 1 (by decide) (by decide) W53 V53).congr (own_dp_step rfl (by decide) (by decide))
  refine Go.via st53 ?_
  refine Vi (T53.setTop (mkF m 70 #[sR o0, sI 1, sI 1, sR (vA + 2 + 4 * 1 + 1), sR (dA + 2 + 4 * 1 + 1), sI 1] [(.double (FP.dadd (FP.dmul (4606732058837280358 : UInt64) (((own_vl f g 9) 1 1) (1 : Int32).toNatClampNeg)) (((own_dp g 9) 1 1) (1 : Int32).toNatClampNeg))), (.int 1), (.ref (vA + 2 + 4 * 1 + 1))])) (fun tZ kZ => ?_) ?_
  · refine XS.iinc X53.here hx rfl (hb hby d9_77) rfl (l' := #[sR o0, sI 1, sI 1, sR (vA + 2 + 4 * 1 + 1), sR (dA + 2 + 4 * 1 + 1), sI 1]) rfl ?_
    refine XS.goto X53.here hx rfl (pc0 := 80) (pc' := 46) rfl (hb hby d9_80) (by decide) (by decide) ?_
    refine XS.iload X53.here hx rfl (hb hby d9_46) rfl ?_
    refine XS.aloadN X53.here hx rfl (hb hby d9_48) rfl rfl ?_
    refine AV.len (c54_3.cell 1 1 (by decide) (by decide)) X53 hx hZ e53 (hb hby d9_49) ?_
    refine XS.icmpNo X53.here hx rfl (hb hby d9_50) rfl (tlt (by decide)).2.1 ?_
    refine XS.aloadN X53.here hx rfl (hb hby d9_53) rfl rfl ?_
    refine XS.iload X53.here hx rfl (hb hby d9_54) rfl ?_
    refine X53.ldc2DoubleC hx hown (wz hZ hw 70 rfl) (g := (mkF m 56 #[sR o0, sI 1, sI 1, sR (vA + 2 + 4 * 1 + 1), sR (dA + 2 + 4 * 1 + 1), sI 1] [(.int 1), (.ref (vA + 2 + 4 * 1 + 1))])) rfl (hb hby d9_56) _ ?_
    refine XS.aloadN X53.here hx rfl (hb hby d9_59) rfl rfl ?_
    refine XS.iload X53.here hx rfl (hb hby d9_60) rfl ?_
    refine AV.daload (c54_3.cell 1 1 (by decide) (by decide)) X53 hx hZ e53 (j := (1 : Int32)) (by decide) (hb hby d9_62) ?_
    refine XS.dmulS X53.here hx rfl (hb hby d9_63) rfl (hnn 1 1 1 (by decide) (by decide) (by decide)).1 rfl ?_
    refine XS.aload X53.here hx rfl (hb hby d9_64) rfl rfl ?_
    refine XS.iload X53.here hx rfl (hb hby d9_66) rfl ?_
    refine AV.daload (Gw53.cell 1 1 (by decide) (by decide)) X53 hx hZ e53 (j := (1 : Int32)) (by decide) (hb hby d9_68) ?_
    refine XS.daddS X53.here hx rfl (hb hby d9_69) rfl (hnn 1 1 1 (by decide) (by decide) (by decide)).2 rfl ?_
    exact kZ
  obtain ⟨T55, h55, X55, e55, W55, V55, st55⟩ := AV.dastore (c54_3.cell 1 1 (by decide) (by decide)) X53 hx hZ e53 (j := (1 : Int32)) (by decide) (Ls := #[sR o0, sI 1, sI 1, sR (vA + 2 + 4 * 1 + 1), sR (dA + 2 + 4 * 1 + 1), sI 1]) (rest := []) (hb hby d9_70) (x := (FP.dadd (FP.dmul (4606732058837280358 : UInt64) (((own_vl f g 9) 1 1) (1 : Int32).toNatClampNeg)) (((own_dp g 9) 1 1) (1 : Int32).toNatClampNeg)))
  have N55 := Fr.snoc X55 N53 (Nat.le_trans ha5 (show vA ≤ (vA + 2 + 4 * 1 + 1) by omega))
  have c56_0 := c54_0.wr W55
  have c56_1 := c54_1.other W55 (Or.inl (own_na (by omega)))
  have c56_2 := c54_2.other W55 (Or.inl (own_na (by omega)))
  have c56_3 := c54_3
  have c56_4 := Gw53.other W55 (by omega)
  have K55 : Keep h0 h55 [(vA + 2 + 4 * 0 + 0), (dA + 2 + 4 * 0 + 0), (vA + 2 + 4 * 0 + 1), (dA + 2 + 4 * 0 + 1), (vA + 2 + 4 * 0 + 2), (dA + 2 + 4 * 0 + 2), (vA + 2 + 4 * 1 + 0), (dA + 2 + 4 * 1 + 0), (vA + 2 + 4 * 1 + 1), (dA + 2 + 4 * 1 + 1), (vA + 2 + 4 * 1 + 2), (dA + 2 + 4 * 1 + 2)] := K53.wr W55 (Or.inl (by simp))
  have Z55 := Nat.le_trans Z53 (Keep.of_wr W55).1
  have Gw55 : Gd Z h55 vA (own_vl f g 10) := (Gd.set c54_3 1 1 (by decide) (by decide) W55 V55).congr (own_vl_step rfl (by decide) (by decide) rfl)
  refine Go.via st55 ?_
  refine Vi (T55.setTop (mkF m 76 #[sR o0, sI 1, sI 1, sR (vA + 2 + 4 * 1 + 1), sR (dA + 2 + 4 * 1 + 1), sI 1] [(.double FP.dconst0), (.int 1), (.ref (dA + 2 + 4 * 1 + 1))])) (fun tZ kZ => ?_) ?_
  · refine XS.aload X55.here hx rfl (hb hby d9_71) rfl rfl ?_
    refine XS.iload X55.here hx rfl (hb hby d9_73) rfl ?_
    refine XS.dconst0 X55.here hx rfl (hb hby d9_75) rfl ?_
    exact kZ
  obtain ⟨T57, h57, X57, e57, W57, V57, st57⟩ := AV.dastore (c56_4.cell 1 1 (by decide) (by decide)) X55 hx hZ e55 (j := (1 : Int32)) (by decide) (Ls := #[sR o0, sI 1, sI 1, sR (vA + 2 + 4 * 1 + 1), sR (dA + 2 + 4 * 1 + 1), sI 1]) (rest := []) (hb hby d9_76) (x := FP.dconst0)
  have N57 := Fr.snoc X57 N55 (Nat.le_trans ha6 (show dA ≤ (dA + 2 + 4 * 1 + 1) by omega))
  have c58_0 := c56_0.wr W57
  have c58_1 := c56_1.other W57 (Or.inl (own_na (by omega)))
  have c58_2 := c56_2.other W57 (Or.inl (own_na (by omega)))
  have c58_3 := Gw55.other W57 (by omega)
  have c58_4 := c56_4
  have K57 : Keep h0 h57 [(vA + 2 + 4 * 0 + 0), (dA + 2 + 4 * 0 + 0), (vA + 2 + 4 * 0 + 1), (dA + 2 + 4 * 0 + 1), (vA + 2 + 4 * 0 + 2), (dA + 2 + 4 * 0 + 2), (vA + 2 + 4 * 1 + 0), (dA + 2 + 4 * 1 + 0), (vA + 2 + 4 * 1 + 1), (dA + 2 + 4 * 1 + 1), (vA + 2 + 4 * 1 + 2), (dA + 2 + 4 * 1 + 2)] := K55.wr W57 (Or.inl (by simp))
  have Z57 := Nat.le_trans Z55 (Keep.of_wr W57).1
  have Gw57 : Gd Z h57 dA (own_dp g 10) := (Gd.set c56_4 1 1 (by decide) (by decide) W57 V57).congr (own_dp_step rfl (by decide) (by decide))
  refine Go.via st57 ?_
  refine Vi (T57.setTop (mkF m 15 #[sR o0, sI 1, sI 2, sR (vA + 2 + 4 * 1 + 1), sR (dA + 2 + 4 * 1 + 1), sI 2] [(.ref o0), (.int 2)])) (fun tZ kZ => ?_) ?_
  · refine XS.iinc X57.here hx rfl (hb hby d9_77) rfl (l' := #[sR o0, sI 1, sI 1, sR (vA + 2 + 4 * 1 + 1), sR (dA + 2 + 4 * 1 + 1), sI 2]) rfl ?_
    refine XS.goto X57.here hx rfl (pc0 := 80) (pc' := 46) rfl (hb hby d9_80) (by decide) (by decide) ?_
    refine XS.iload X57.here hx rfl (hb hby d9_46) rfl ?_
    refine XS.aloadN X57.here hx rfl (hb hby d9_48) rfl rfl ?_
    refine AV.len (c58_3.cell 1 1 (by decide) (by decide)) X57 hx hZ e57 (hb hby d9_49) ?_
    refine XS.icmpYes X57.here hx rfl (pc0 := 50) (pc' := 83) rfl (hb hby d9_50) rfl (flt (by decide)).2.1 (by decide) (by decide) ?_
    refine XS.iinc X57.here hx rfl (hb hby d9_83) rfl (l' := #[sR o0, sI 1, sI 2, sR (vA + 2 + 4 * 1 + 1), sR (dA + 2 + 4 * 1 + 1), sI 2]) rfl ?_
    refine XS.goto X57.here hx rfl (pc0 := 86) (pc' := 13) rfl (hb hby d9_86) (by decide) (by decide) ?_
    refine XS.iloadN X57.here hx rfl (hb hby d9_13) rfl ?_
    refine XS.aloadN X57.here hx rfl (hb hby d9_14) rfl rfl ?_
    exact kZ
  refine GF X57 hx hZ hown (wq hw 20 rfl) e57 c58_1 (hb hby d9_15) fun T59 X59 e59 => ?_
  refine Vi (T59.setTop (mkF m 25 #[sR o0, sI 1, sI 2, sR (vA + 2 + 4 * 1 + 1), sR (dA + 2 + 4 * 1 + 1), sI 2] [(.ref o0)])) (fun tZ kZ => ?_) ?_
  · refine XS.iloadN X59.here hx rfl (hb hby d9_18) rfl ?_
    refine AV.aaload c58_3.top rfl X59 hx hZ e59 (j := (1 : Int32)) (by decide) (hb hby d9_19) ?_
    refine AV.len (c58_3.row 1 (by decide)) X59 hx hZ e59 (hb hby d9_20) ?_
    refine XS.icmpNo X59.here hx rfl (hb hby d9_21) rfl (tlt (by decide)).2.1 ?_
    refine XS.aloadN X59.here hx rfl (hb hby d9_24) rfl rfl ?_
    exact kZ
  refine GF X59 hx hZ hown (wq hw 20 rfl) e59 c58_1 (hb hby d9_25) fun T60 X60 e60 => ?_
  refine Vi (T60.setTop (mkF m 34 #[sR o0, sI 1, sI 2, sR (vA + 2 + 4 * 1 + 2), sR (dA + 2 + 4 * 1 + 1), sI 2] [(.ref o0)])) (fun tZ kZ => ?_) ?_
  · refine XS.iloadN X60.here hx rfl (hb hby d9_28) rfl ?_
    refine AV.aaload c58_3.top rfl X60 hx hZ e60 (j := (1 : Int32)) (by decide) (hb hby d9_29) ?_
    refine XS.iloadN X60.here hx rfl (hb hby d9_30) rfl ?_
    refine AV.aaload (c58_3.row 1 (by decide)) rfl X60 hx hZ e60 (j := (2 : Int32)) (by decide) (hb hby d9_31) ?_
    refine XS.astoreN X60.here hx rfl (hb hby d9_32) rfl rfl (l' := #[sR o0, sI 1, sI 2, sR (vA + 2 + 4 * 1 + 2), sR (dA + 2 + 4 * 1 + 1), sI 2]) rfl ?_
    refine XS.aloadN X60.here hx rfl (hb hby d9_33) rfl rfl ?_
    exact kZ
  refine GF X60 hx hZ hown (wq hw 22 rfl) e60 c58_2 (hb hby d9_34) fun T61 X61 e61 => ?_
  refine Vi (T61.setTop (mkF m 70 #[sR o0, sI 1, sI 2, sR (vA + 2 + 4 * 1 + 2), sR (dA + 2 + 4 * 1 + 2), sI 0] [(.double (FP.dadd (FP.dmul (4606732058837280358 : UInt64) (((own_vl f g 10) 1 2) (0 : Int32).toNatClampNeg)) (((own_dp g 10) 1 2) (0 : Int32).toNatClampNeg))), (.int 0), (.ref (vA + 2 + 4 * 1 + 2))])) (fun tZ kZ => ?_) ?_
  · refine XS.iloadN X61.here hx rfl (hb hby d9_37) rfl ?_
    refine AV.aaload Gw57.top rfl X61 hx hZ e61 (j := (1 : Int32)) (by decide) (hb hby d9_38) ?_
    refine XS.iloadN X61.here hx rfl (hb hby d9_39) rfl ?_
    refine AV.aaload (Gw57.row 1 (by decide)) rfl X61 hx hZ e61 (j := (2 : Int32)) (by decide) (hb hby d9_40) ?_
    refine XS.astore X61.here hx rfl (hb hby d9_41) rfl rfl (l' := #[sR o0, sI 1, sI 2, sR (vA + 2 + 4 * 1 + 2), sR (dA + 2 + 4 * 1 + 2), sI 2]) rfl ?_
    refine XS.iconst X61.here hx rfl (hb hby d9_43) ?_
    refine XS.istore X61.here hx rfl (hb hby d9_44) rfl (l' := #[sR o0, sI 1, sI 2, sR (vA + 2 + 4 * 1 + 2), sR (dA + 2 + 4 * 1 + 2), sI 0]) rfl ?_
    refine XS.iload X61.here hx rfl (hb hby d9_46) rfl ?_
    refine XS.aloadN X61.here hx rfl (hb hby d9_48) rfl rfl ?_
    refine AV.len (c58_3.cell 1 2 (by decide) (by decide)) X61 hx hZ e61 (hb hby d9_49) ?_
    refine XS.icmpNo X61.here hx rfl (hb hby d9_50) rfl (tlt (by decide)).2.1 ?_
    refine XS.aloadN X61.here hx rfl (hb hby d9_53) rfl rfl ?_
    refine XS.iload X61.here hx rfl (hb hby d9_54) rfl ?_
    refine X61.ldc2DoubleC hx hown (wz hZ hw 70 rfl) (g := (mkF m 56 #[sR o0, sI 1, sI 2, sR (vA + 2 + 4 * 1 + 2), sR (dA + 2 + 4 * 1 + 2), sI 0] [(.int 0), (.ref (vA + 2 + 4 * 1 + 2))])) rfl (hb hby d9_56) _ ?_
    refine XS.aloadN X61.here hx rfl (hb hby d9_59) rfl rfl ?_
    refine XS.iload X61.here hx rfl (hb hby d9_60) rfl ?_
    refine AV.daload (c58_3.cell 1 2 (by decide) (by decide)) X61 hx hZ e61 (j := (0 : Int32)) (by decide) (hb hby d9_62) ?_
    refine XS.dmulS X61.here hx rfl (hb hby d9_63) rfl (hnn 1 2 0 (by decide) (by decide) (by decide)).1 rfl ?_
    refine XS.aload X61.here hx rfl (hb hby d9_64) rfl rfl ?_
    refine XS.iload X61.here hx rfl (hb hby d9_66) rfl ?_
    refine AV.daload (Gw57.cell 1 2 (by decide) (by decide)) X61 hx hZ e61 (j := (0 : Int32)) (by decide) (hb hby d9_68) ?_
    refine XS.daddS X61.here hx rfl (hb hby d9_69) rfl (hnn 1 2 0 (by decide) (by decide) (by decide)).2 rfl ?_
    exact kZ
  obtain ⟨T62, h62, X62, e62, W62, V62, st62⟩ := AV.dastore (c58_3.cell 1 2 (by decide) (by decide)) X61 hx hZ e61 (j := (0 : Int32)) (by decide) (Ls := #[sR o0, sI 1, sI 2, sR (vA + 2 + 4 * 1 + 2), sR (dA + 2 + 4 * 1 + 2), sI 0]) (rest := []) (hb hby d9_70) (x := (FP.dadd (FP.dmul (4606732058837280358 : UInt64) (((own_vl f g 10) 1 2) (0 : Int32).toNatClampNeg)) (((own_dp g 10) 1 2) (0 : Int32).toNatClampNeg)))
  have N62 := Fr.snoc X62 N57 (Nat.le_trans ha5 (show vA ≤ (vA + 2 + 4 * 1 + 2) by omega))
  have c63_0 := c58_0.wr W62
  have c63_1 := c58_1.other W62 (Or.inl (own_na (by omega)))
  have c63_2 := c58_2.other W62 (Or.inl (own_na (by omega)))
  have c63_3 := c58_3
  have c63_4 := Gw57.other W62 (by omega)
  have K62 : Keep h0 h62 [(vA + 2 + 4 * 0 + 0), (dA + 2 + 4 * 0 + 0), (vA + 2 + 4 * 0 + 1), (dA + 2 + 4 * 0 + 1), (vA + 2 + 4 * 0 + 2), (dA + 2 + 4 * 0 + 2), (vA + 2 + 4 * 1 + 0), (dA + 2 + 4 * 1 + 0), (vA + 2 + 4 * 1 + 1), (dA + 2 + 4 * 1 + 1), (vA + 2 + 4 * 1 + 2), (dA + 2 + 4 * 1 + 2)] := K57.wr W62 (Or.inl (by simp))
  have Z62 := Nat.le_trans Z57 (Keep.of_wr W62).1
  have Gw62 : Gd Z h62 vA (own_vl f g 11) := (Gd.set c58_3 1 2 (by decide) (by decide) W62 V62).congr (own_vl_step rfl (by decide) (by decide) rfl)
  refine Go.via st62 ?_
  refine Vi (T62.setTop (mkF m 76 #[sR o0, sI 1, sI 2, sR (vA + 2 + 4 * 1 + 2), sR (dA + 2 + 4 * 1 + 2), sI 0] [(.double FP.dconst0), (.int 0), (.ref (dA + 2 + 4 * 1 + 2))])) (fun tZ kZ => ?_) ?_
  · refine XS.aload X62.here hx rfl (hb hby d9_71) rfl rfl ?_
    refine XS.iload X62.here hx rfl (hb hby d9_73) rfl ?_
    refine XS.dconst0 X62.here hx rfl (hb hby d9_75) rfl ?_
    exact kZ
  obtain ⟨T64, h64, X64, e64, W64, V64, st64⟩ := AV.dastore (c63_4.cell 1 2 (by decide) (by decide)) X62 hx hZ e62 (j := (0 : Int32)) (by decide) (Ls := #[sR o0, sI 1, sI 2, sR (vA + 2 + 4 * 1 + 2), sR (dA + 2 + 4 * 1 + 2), sI 0]) (rest := []) (hb hby d9_76) (x := FP.dconst0)
  have N64 := Fr.snoc X64 N62 (Nat.le_trans ha6 (show dA ≤ (dA + 2 + 4 * 1 + 2) by omega))
  have c65_0 := c63_0.wr W64
  have c65_1 := c63_1.other W64 (Or.inl (own_na (by omega)))
  have c65_2 := c63_2.other W64 (Or.inl (own_na (by omega)))
  have c65_3 := Gw62.other W64 (by omega)
  have c65_4 := c63_4
  have K64 : Keep h0 h64 [(vA + 2 + 4 * 0 + 0), (dA + 2 + 4 * 0 + 0), (vA + 2 + 4 * 0 + 1), (dA + 2 + 4 * 0 + 1), (vA + 2 + 4 * 0 + 2), (dA + 2 + 4 * 0 + 2), (vA + 2 + 4 * 1 + 0), (dA + 2 + 4 * 1 + 0), (vA + 2 + 4 * 1 + 1), (dA + 2 + 4 * 1 + 1), (vA + 2 + 4 * 1 + 2), (dA + 2 + 4 * 1 + 2)] := K62.wr W64 (Or.inl (by simp))
  have Z64 := Nat.le_trans Z62 (Keep.of_wr W64).1
  have Gw64 : Gd Z h64 dA (own_dp g 11) := (Gd.set c63_4 1 2 (by decide) (by decide) W64 V64).congr (own_dp_step rfl (by decide) (by decide))
  refine Go.via st64 ?_
  refine Vi (T64.setTop (mkF m 70 #[sR o0, sI 1, sI 2, sR (vA + 2 + 4 * 1 + 2), sR (dA + 2 + 4 * 1 + 2), sI 1] [(.double (FP.dadd (FP.dmul (4606732058837280358 : UInt64) (((own_vl f g 11) 1 2) (1 : Int32).toNatClampNeg)) (((own_dp g 11) 1 2) (1 : Int32).toNatClampNeg))), (.int 1), (.ref (vA + 2 + 4 * 1 + 2))])) (fun tZ kZ => ?_) ?_
  · refine XS.iinc X64.here hx rfl (hb hby d9_77) rfl (l' := #[sR o0, sI 1, sI 2, sR (vA + 2 + 4 * 1 + 2), sR (dA + 2 + 4 * 1 + 2), sI 1]) rfl ?_
    refine XS.goto X64.here hx rfl (pc0 := 80) (pc' := 46) rfl (hb hby d9_80) (by decide) (by decide) ?_
    refine XS.iload X64.here hx rfl (hb hby d9_46) rfl ?_
    refine XS.aloadN X64.here hx rfl (hb hby d9_48) rfl rfl ?_
    refine AV.len (c65_3.cell 1 2 (by decide) (by decide)) X64 hx hZ e64 (hb hby d9_49) ?_
    refine XS.icmpNo X64.here hx rfl (hb hby d9_50) rfl (tlt (by decide)).2.1 ?_
    refine XS.aloadN X64.here hx rfl (hb hby d9_53) rfl rfl ?_
    refine XS.iload X64.here hx rfl (hb hby d9_54) rfl ?_
    refine X64.ldc2DoubleC hx hown (wz hZ hw 70 rfl) (g := (mkF m 56 #[sR o0, sI 1, sI 2, sR (vA + 2 + 4 * 1 + 2), sR (dA + 2 + 4 * 1 + 2), sI 1] [(.int 1), (.ref (vA + 2 + 4 * 1 + 2))])) rfl (hb hby d9_56) _ ?_
    refine XS.aloadN X64.here hx rfl (hb hby d9_59) rfl rfl ?_
    refine XS.iload X64.here hx rfl (hb hby d9_60) rfl ?_
    refine AV.daload (c65_3.cell 1 2 (by decide) (by decide)) X64 hx hZ e64 (j := (1 : Int32)) (by decide) (hb hby d9_62) ?_
    refine XS.dmulS X64.here hx rfl (hb hby d9_63) rfl (hnn 1 2 1 (by decide) (by decide) (by decide)).1 rfl ?_
    refine XS.aload X64.here hx rfl (hb hby d9_64) rfl rfl ?_
    refine XS.iload X64.here hx rfl (hb hby d9_66) rfl ?_
    refine AV.daload (Gw64.cell 1 2 (by decide) (by decide)) X64 hx hZ e64 (j := (1 : Int32)) (by decide) (hb hby d9_68) ?_
    refine XS.daddS X64.here hx rfl (hb hby d9_69) rfl (hnn 1 2 1 (by decide) (by decide) (by decide)).2 rfl ?_
    exact kZ
  obtain ⟨T66, h66, X66, e66, W66, V66, st66⟩ := AV.dastore (c65_3.cell 1 2 (by decide) (by decide)) X64 hx hZ e64 (j := (1 : Int32)) (by decide) (Ls := #[sR o0, sI 1, sI 2, sR (vA + 2 + 4 * 1 + 2), sR (dA + 2 + 4 * 1 + 2), sI 1]) (rest := []) (hb hby d9_70) (x := (FP.dadd (FP.dmul (4606732058837280358 : UInt64) (((own_vl f g 11) 1 2) (1 : Int32).toNatClampNeg)) (((own_dp g 11) 1 2) (1 : Int32).toNatClampNeg)))
  have N66 := Fr.snoc X66 N64 (Nat.le_trans ha5 (show vA ≤ (vA + 2 + 4 * 1 + 2) by omega))
  have c67_0 := c65_0.wr W66
  have c67_1 := c65_1.other W66 (Or.inl (own_na (by omega)))
  have c67_2 := c65_2.other W66 (Or.inl (own_na (by omega)))
  have c67_3 := c65_3
  have c67_4 := Gw64.other W66 (by omega)
  have K66 : Keep h0 h66 [(vA + 2 + 4 * 0 + 0), (dA + 2 + 4 * 0 + 0), (vA + 2 + 4 * 0 + 1), (dA + 2 + 4 * 0 + 1), (vA + 2 + 4 * 0 + 2), (dA + 2 + 4 * 0 + 2), (vA + 2 + 4 * 1 + 0), (dA + 2 + 4 * 1 + 0), (vA + 2 + 4 * 1 + 1), (dA + 2 + 4 * 1 + 1), (vA + 2 + 4 * 1 + 2), (dA + 2 + 4 * 1 + 2)] := K64.wr W66 (Or.inl (by simp))
  have Z66 := Nat.le_trans Z64 (Keep.of_wr W66).1
  have Gw66 : Gd Z h66 vA (own_vl f g 12) := (Gd.set c65_3 1 2 (by decide) (by decide) W66 V66).congr (own_vl_step rfl (by decide) (by decide) rfl)
  refine Go.via st66 ?_
  refine Vi (T66.setTop (mkF m 76 #[sR o0, sI 1, sI 2, sR (vA + 2 + 4 * 1 + 2), sR (dA + 2 + 4 * 1 + 2), sI 1] [(.double FP.dconst0), (.int 1), (.ref (dA + 2 + 4 * 1 + 2))])) (fun tZ kZ => ?_) ?_
  · refine XS.aload X66.here hx rfl (hb hby d9_71) rfl rfl ?_
    refine XS.iload X66.here hx rfl (hb hby d9_73) rfl ?_
    refine XS.dconst0 X66.here hx rfl (hb hby d9_75) rfl ?_
    exact kZ
  obtain ⟨T68, h68, X68, e68, W68, V68, st68⟩ := AV.dastore (c67_4.cell 1 2 (by decide) (by decide)) X66 hx hZ e66 (j := (1 : Int32)) (by decide) (Ls := #[sR o0, sI 1, sI 2, sR (vA + 2 + 4 * 1 + 2), sR (dA + 2 + 4 * 1 + 2), sI 1]) (rest := []) (hb hby d9_76) (x := FP.dconst0)
  have N68 := Fr.snoc X68 N66 (Nat.le_trans ha6 (show dA ≤ (dA + 2 + 4 * 1 + 2) by omega))
  have c69_0 := c67_0.wr W68
  have c69_1 := c67_1.other W68 (Or.inl (own_na (by omega)))
  have c69_2 := c67_2.other W68 (Or.inl (own_na (by omega)))
  have c69_3 := Gw66.other W68 (by omega)
  have c69_4 := c67_4
  have K68 : Keep h0 h68 [(vA + 2 + 4 * 0 + 0), (dA + 2 + 4 * 0 + 0), (vA + 2 + 4 * 0 + 1), (dA + 2 + 4 * 0 + 1), (vA + 2 + 4 * 0 + 2), (dA + 2 + 4 * 0 + 2), (vA + 2 + 4 * 1 + 0), (dA + 2 + 4 * 1 + 0), (vA + 2 + 4 * 1 + 1), (dA + 2 + 4 * 1 + 1), (vA + 2 + 4 * 1 + 2), (dA + 2 + 4 * 1 + 2)] := K66.wr W68 (Or.inl (by simp))
  have Z68 := Nat.le_trans Z66 (Keep.of_wr W68).1
  have Gw68 : Gd Z h68 dA (own_dp g 12) := (Gd.set c67_4 1 2 (by decide) (by decide) W68 V68).congr (own_dp_step rfl (by decide) (by decide))
  refine Go.via st68 ?_
  refine Vi (T68.setTop (mkF m 15 #[sR o0, sI 1, sI 3, sR (vA + 2 + 4 * 1 + 2), sR (dA + 2 + 4 * 1 + 2), sI 2] [(.ref o0), (.int 3)])) (fun tZ kZ => ?_) ?_
  · refine XS.iinc X68.here hx rfl (hb hby d9_77) rfl (l' := #[sR o0, sI 1, sI 2, sR (vA + 2 + 4 * 1 + 2), sR (dA + 2 + 4 * 1 + 2), sI 2]) rfl ?_
    refine XS.goto X68.here hx rfl (pc0 := 80) (pc' := 46) rfl (hb hby d9_80) (by decide) (by decide) ?_
    refine XS.iload X68.here hx rfl (hb hby d9_46) rfl ?_
    refine XS.aloadN X68.here hx rfl (hb hby d9_48) rfl rfl ?_
    refine AV.len (c69_3.cell 1 2 (by decide) (by decide)) X68 hx hZ e68 (hb hby d9_49) ?_
    refine XS.icmpYes X68.here hx rfl (pc0 := 50) (pc' := 83) rfl (hb hby d9_50) rfl (flt (by decide)).2.1 (by decide) (by decide) ?_
    refine XS.iinc X68.here hx rfl (hb hby d9_83) rfl (l' := #[sR o0, sI 1, sI 3, sR (vA + 2 + 4 * 1 + 2), sR (dA + 2 + 4 * 1 + 2), sI 2]) rfl ?_
    refine XS.goto X68.here hx rfl (pc0 := 86) (pc' := 13) rfl (hb hby d9_86) (by decide) (by decide) ?_
    refine XS.iloadN X68.here hx rfl (hb hby d9_13) rfl ?_
    refine XS.aloadN X68.here hx rfl (hb hby d9_14) rfl rfl ?_
    exact kZ
  refine GF X68 hx hZ hown (wq hw 20 rfl) e68 c69_1 (hb hby d9_15) fun T70 X70 e70 => ?_
  refine Vi (T70.setTop (mkF m 4 #[sR o0, sI 2, sI 3, sR (vA + 2 + 4 * 1 + 2), sR (dA + 2 + 4 * 1 + 2), sI 2] [(.ref o0), (.int 2)])) (fun tZ kZ => ?_) ?_
  · refine XS.iloadN X70.here hx rfl (hb hby d9_18) rfl ?_
    refine AV.aaload c69_3.top rfl X70 hx hZ e70 (j := (1 : Int32)) (by decide) (hb hby d9_19) ?_
    refine AV.len (c69_3.row 1 (by decide)) X70 hx hZ e70 (hb hby d9_20) ?_
    refine XS.icmpYes X70.here hx rfl (pc0 := 21) (pc' := 89) rfl (hb hby d9_21) rfl (flt (by decide)).2.1 (by decide) (by decide) ?_
    refine XS.iinc X70.here hx rfl (hb hby d9_89) rfl (l' := #[sR o0, sI 2, sI 3, sR (vA + 2 + 4 * 1 + 2), sR (dA + 2 + 4 * 1 + 2), sI 2]) rfl ?_
    refine XS.goto X70.here hx rfl (pc0 := 92) (pc' := 2) rfl (hb hby d9_92) (by decide) (by decide) ?_
    refine XS.iloadN X70.here hx rfl (hb hby d9_2) rfl ?_
    refine XS.aloadN X70.here hx rfl (hb hby d9_3) rfl rfl ?_
    exact kZ
  refine GF X70 hx hZ hown (wq hw 20 rfl) e70 c69_1 (hb hby d9_4) fun T71 X71 e71 => ?_
  refine Vi (T71.setTop (mkF m 95 #[sR o0, sI 2, sI 3, sR (vA + 2 + 4 * 1 + 2), sR (dA + 2 + 4 * 1 + 2), sI 2] [])) (fun tZ kZ => ?_) ?_
  · refine AV.len c69_3.top X71 hx hZ e71 (hb hby d9_7) ?_
    refine XS.icmpYes X71.here hx rfl (pc0 := 8) (pc' := 95) rfl (hb hby d9_8) rfl (flt (by decide)).2.1 (by decide) (by decide) ?_
    exact kZ
  have Gve : Gd Z h68 vA (fun i j k => FP.dadd (FP.dmul (4606732058837280358 : UInt64) (f i j k)) (g i j k)) := c69_3.congr own_vl_end
  have Gde : Gd Z h68 dA (fun _ _ _ => FP.dconst0) := Gw68.congr own_dp_end
  refine Go.retV X71 hx Bd.notSynchronized Bd.returns (hb hby d9_95) (by decide) (by decide) ?_
  rw [e71]
  exact ⟨rfl, N68, K68, c69_0, c69_1, c69_2, Gve, Gde⟩
theorem d10_0 : DC B10 0 (.aload_n 0) 1 := by decide +kernel
theorem d10_1 : DC B10 1 (.getfield 15) 3 := by decide +kernel
theorem d10_4 : DC B10 4 (.iload_n 1) 1 := by decide +kernel
theorem d10_5 : DC B10 5 (.aaload) 1 := by decide +kernel
theorem d10_6 : DC B10 6 (.iload_n 2) 1 := by decide +kernel
theorem d10_7 : DC B10 7 (.iconst 1) 1 := by decide +kernel
theorem d10_8 : DC B10 8 (.iadd) 1 := by decide +kernel
theorem d10_9 : DC B10 9 (.aaload) 1 := by decide +kernel
theorem d10_10 : DC B10 10 (.iload_n 3) 1 := by decide +kernel
theorem d10_11 : DC B10 11 (.daload) 1 := by decide +kernel
theorem d10_12 : DC B10 12 (.dreturn) 1 := by decide +kernel
def f10 (o0 : Nat) (p1 : Int32) (p2 : Int32) (p3 : Int32) (vA : Nat) (f : Nat → Nat → Nat → UInt64) : UInt64 := ((f p1.toNatClampNeg (p2 + (1 : Int32)).toNatClampNeg) p3.toNatClampNeg)
def Q10 (o0 : Nat) (p1 : Int32) (p2 : Int32) (p3 : Int32) (vA : Nat) (f : Nat → Nat → Nat → UInt64) (h0 : Heap) (n0 : Nat) (v : Option Value) (h : Heap) (L : List Loc) : Prop := v = some (.double (f10 o0 p1 p2 p3 vA f)) ∧ Fr n0 L ∧ h = h0
theorem ef_10_aaaa (m : MethodId) (x0 : Nat) (x1 : Int32) (x2 : Int32) (x3 : Int32) : entryFrame m #[(.ref x0), (.int x1), (.int x2), (.int x3)] 4 = mkF m 0 #[.val (.ref x0), .val (.int x1), .val (.int x2), .val (.int x3)] [] := by first | (simp [entryFrame, mkF, argsToLocals, Value.category]; done) | rfl
theorem rm10 (l : Launch) (Z : State) (a0 : Array Value) (hw : HW a0 Z) (ws : List Jvm.Cond) (o0 : Nat) (p1 : Int32) (p2 : Int32) (p3 : Int32) (vA : Nat) (f : Nat → Nat → Nat → UInt64) (h0 : Heap) (n0 : Nat) (Z0 : n0 ≤ h0.size) (ha0 : Exa Z h0 o0 "com/example/muster/muster/solvers/Pheromone") (ha1 : Fld Z h0 o0 "com/example/muster/muster/solvers/Pheromone" "value" "[[[D" (.ref vA)) (ha2 : Gd Z h0 vA f) (hr1 : ¬ p1 < 0 ∧ p1.toNatClampNeg < 2) (hr2 : ¬ p2 + (1 : Int32) < 0 ∧ (p2 + (1 : Int32)).toNatClampNeg < 3) (hr3 : ¬ p3 < 0 ∧ p3.toNatClampNeg < 2) :
    MetFree l y10 (head1 (Jvm.Cond.code y10 prog_48_method_3_code 4 (some .double) :: ws) RM_0_0_0_0) (fun a U => a = #[(.ref o0), (.int p1), (.int p2), (.int p3)] ∧ Z.Warmed39 U.vm ∧ U.heap = h0) (fun _ _ _ _ _ => True) (fun _ U o U' => ∃ v L, o = .returned v ∧ Q10 o0 p1 p2 p3 vA f h0 n0 v U'.heap L ∧ FrameEnd U o U' L RM_0_0_0_0.cells RM_0_0_0_0.slots) := by
  refine MetFree.of_bodySF (plainFor_of_name pn_1) hisR ?_
  intro p e s m args below meth c s₁ Bd hml0 hP hK
  obtain ⟨rfl, hZ, hh⟩ := hP
  have hx := Bd.exec
  have hby := Bd.bytes
  have hml : c.maxLocals = 4 := hml0
  have hown : s.vm.findClass "com/example/muster/muster/solvers/Pheromone" = some m.cls := findClass_of_methodNamed Bd.named
  have X0 : Stand p l e RM_0_0_0_0 s m _ below meth c s₁ [] 0 0 := Stand.of_body Bd
  have e0 : s₁.heap = h0 := by rw [← hh, Bd.state]; rfl
  have N0 := Fr.nil n0
  refine Go.into (P := fun oo uu => ∃ v L, oo = .returned v ∧ Q10 o0 p1 p2 p3 vA f h0 n0 v uu.heap L ∧ FrameEnd s oo uu L RM_0_0_0_0.cells RM_0_0_0_0.slots) (ef_10_aaaa m o0 p1 p2 p3) ?_
  show Go p e below _ (s₁.setTop (mkF m 0 #[sR o0, sI p1, sI p2, sI p3] []))
  refine Vi (s₁.setTop (mkF m 1 #[sR o0, sI p1, sI p2, sI p3] [(.ref o0)])) (fun tZ kZ => ?_) ?_
  · refine XS.aloadN X0.here hx rfl (hb hby d10_0) rfl rfl ?_
    exact kZ
  refine GF X0 hx hZ hown (wq hw 20 rfl) e0 ha1 (hb hby d10_1) fun T1 X1 e1 => ?_
  refine Vi (T1.setTop (mkF m 12 #[sR o0, sI p1, sI p2, sI p3] [(.double ((f p1.toNatClampNeg (p2 + (1 : Int32)).toNatClampNeg) p3.toNatClampNeg))])) (fun tZ kZ => ?_) ?_
  · refine XS.iloadN X1.here hx rfl (hb hby d10_4) rfl ?_
    refine AV.aaload ha2.top rfl X1 hx hZ e1 (j := p1) hr1 (hb hby d10_5) ?_
    refine XS.iloadN X1.here hx rfl (hb hby d10_6) rfl ?_
    refine XS.iconst X1.here hx rfl (hb hby d10_7) ?_
    refine XS.iadd X1.here hx rfl (hb hby d10_8) rfl ?_
    refine AV.aaload (ha2.row p1.toNatClampNeg hr1.2) rfl X1 hx hZ e1 (j := (p2 + (1 : Int32))) hr2 (hb hby d10_9) ?_
    refine XS.iloadN X1.here hx rfl (hb hby d10_10) rfl ?_
    refine AV.daload (ha2.cell p1.toNatClampNeg (p2 + (1 : Int32)).toNatClampNeg hr1.2 hr2.2) X1 hx hZ e1 (j := p3) hr3 (hb hby d10_11) ?_
    exact kZ
  refine Go.retD X1 hx Bd.notSynchronized Bd.returns (hb hby d10_12) (by decide) (by decide) ?_
  refine ⟨?_, N0, e1⟩
  show some ((.double ((f p1.toNatClampNeg (p2 + (1 : Int32)).toNatClampNeg) p3.toNatClampNeg)) : Value) = some (.double (f10 o0 p1 p2 p3 vA f))
  rfl
theorem own_andn (p m : Int32) (hm : m.toBitVec.toNat < 2 ^ 31) : (p &&& m).toInt = (p &&& m).toBitVec.toNat ∧ (p &&& m).toBitVec.toNat ≤ m.toBitVec.toNat := by
  have h : (p &&& m).toBitVec.toNat ≤ m.toBitVec.toNat := by
    rw [Int32.toBitVec_and, BitVec.toNat_and]; exact Nat.and_le_right
  refine ⟨?_, h⟩
  show (p &&& m).toBitVec.toInt = _
  rw [BitVec.toInt_eq_toNat_cond, if_pos (by omega)]
theorem own_bit1 (s : Int32) : s &&& 1 = 0 ∨ s &&& 1 = 1 := by
  obtain ⟨a, b⟩ := own_andn s 1 (by decide)
  have e : (1 : Int32).toBitVec.toNat = 1 := rfl
  rcases (show (s &&& 1).toBitVec.toNat = 0 ∨ (s &&& 1).toBitVec.toNat = 1 by omega) with h | h
  · left; rw [← Int32.toInt_inj, a, h]; rfl
  · right; rw [← Int32.toInt_inj, a, h]; rfl
theorem own_sh2 (x : Int32) : 0 ≤ ((x.toUInt32 >>> ((2 : Int32) &&& 31).toUInt32).toInt32).toInt := by
  have e : ((x.toUInt32 >>> ((2 : Int32) &&& 31).toUInt32).toInt32).toInt = ((x.toUInt32 >>> ((2 : Int32) &&& 31).toUInt32).toBitVec).toInt := rfl
  have e2 : (x.toUInt32 >>> ((2 : Int32) &&& 31).toUInt32).toBitVec.toNat = x.toBitVec.toNat / 4 := by
    rw [UInt32.toBitVec_shiftRight]
    have : x.toUInt32.toBitVec = x.toBitVec := rfl
    rw [this, BitVec.ushiftRight_eq', BitVec.toNat_ushiftRight, Nat.shiftRight_eq_div_pow]
    rfl
  have := x.toBitVec.isLt
  rw [e, BitVec.toInt_eq_toNat_cond, e2, if_pos (by omega)]
  omega
theorem own_mod3 {x : Int32} (h : 0 ≤ x.toInt) : x % 3 = 0 ∨ x % 3 = 1 ∨ x % 3 = 2 := by
  have e : (x % 3).toInt = x.toInt.tmod 3 := Int32.toInt_mod _ _
  have e3 : x.toInt.tmod 3 = x.toInt % 3 := Int.tmod_eq_emod_of_nonneg h
  rcases (show x.toInt % 3 = 0 ∨ x.toInt % 3 = 1 ∨ x.toInt % 3 = 2 by omega) with q | q | q
  · left; rw [← Int32.toInt_inj, e, e3, q]; rfl
  · right; left; rw [← Int32.toInt_inj, e, e3, q]; rfl
  · right; right; rw [← Int32.toInt_inj, e, e3, q]; rfl
theorem own_p3 {x : Int32} (h : x = 0 ∨ x = 1 ∨ x = 2) : ¬ x - 1 + 1 < 0 ∧ (x - 1 + 1).toNatClampNeg < 3 := by rcases h with rfl | rfl | rfl <;> decide
open Jvm.Free.Fl in
theorem own_gb0 : GB 1060 (fun _ _ _ => 0) := fun _ _ _ => by show Mag64 1060 0; unfold Mag64; decide
open Jvm.Free.Fl in
theorem own_m0 : Mag64 1060 FP.dconst0 := by unfold Mag64; decide +kernel
open Jvm.Free.Fl in
theorem own_mP : Mag64 1023 4606732058837280358 := by unfold Mag64; decide
open Jvm.Free.Fl in
theorem own_mm {K : Nat} {x : UInt64} (h : Mag64 K x) (hK : 2 ≤ K ∧ K ≤ 2000) : Mag64 (K + 1) (FP.dmul 4606732058837280358 x) := (dmul_mag own_mP h (by decide) (by omega)).mono (by omega)
open Jvm.Free.Fl in
theorem own_nnG {K : Nat} {f g : Nat → Nat → Nat → UInt64} (hf : GB K f) (hg : GB K g) (hK : 2 ≤ K ∧ K ≤ 2000) : ∀ i j k : Nat, i < 2 → j < 3 → k < 2 → NoNaN64 (FP.dmul 4606732058837280358 (f i j k)) ∧ NoNaN64 (FP.dadd (FP.dmul 4606732058837280358 (f i j k)) (g i j k)) := fun i j k _ _ _ =>
  ⟨((own_mm (hf i j k) hK).fin (by omega)).noNaN, own_add (own_mm (hf i j k) hK) ((hg i j k).mono (by omega)) (by omega)⟩
open Jvm.Free.Fl in
theorem own_gbU {K : Nat} {f g : Nat → Nat → Nat → UInt64} (hf : GB K f) (hg : GB K g) (hK : 2 ≤ K ∧ K ≤ 2000) : GB (K + 3) (fun i j k => FP.dadd (FP.dmul 4606732058837280358 (f i j k)) (g i j k)) := fun i j k => dadd_mag (own_mm (hf i j k) hK) ((hg i j k).mono (by omega)) (by omega)
theorem GB.mono {K K' : Nat} {f : Nat → Nat → Nat → UInt64} (h : GB K f) (hK : K ≤ K') : GB K' f := fun i j k => (h i j k).mono hK
/-- what was deposited at (r, p, t) -/
theorem own_dgv {xa xb xc xd rr tt pp : Int32} {d : UInt64} (ha : xa = 0 ∨ xa = 1) (hb : xb = 0 ∨ xb = 1) (hc : xc = 0 ∨ xc = 1) (hd : xd = 0 ∨ xd = 1) (hr : rr = 0 ∨ rr = 1) (ht : tt = 0 ∨ tt = 1) (hp : pp = 0 ∨ pp = 1 ∨ pp = 2) {ar br : Int32} {g1 g2 : UInt64} (e1 : ar = if rr = 0 then xa else xc) (e2 : br = if rr = 0 then xb else xd)
    (e3 : g1 = if pp = 0 then (if tt = ar then FP.dadd FP.dconst0 d else FP.dconst0) else FP.dconst0) (e4 : g2 = if pp = ar + 1 then (if tt = br then FP.dadd g1 d else g1) else g1) :
    own_d1 (own_d1 (own_d1 (own_d1 (fun _ _ _ => (0 : UInt64)) 0 0 xa.toNatClampNeg d) 0 (xa + (1 : Int32)).toNatClampNeg xb.toNatClampNeg d) 1 0 xc.toNatClampNeg d) 1 (xc + (1 : Int32)).toNatClampNeg xd.toNatClampNeg d rr.toNatClampNeg (pp - 1 + 1).toNatClampNeg tt.toNatClampNeg = g2 := by
  subst e1 e2 e3 e4
  rcases ha with rfl | rfl <;> rcases hb with rfl | rfl <;> rcases hc with rfl | rfl <;> rcases hd with rfl | rfl <;> rcases hr with rfl | rfl <;> rcases ht with rfl | rfl <;> rcases hp with rfl | rfl | rfl <;> rfl
def Q0 (n0 : Nat) (v : Option Value) (h : Heap) (L : List Loc) : Prop := v = some (.int 1) ∧ Fr n0 L
theorem pd_0 : parseMethodDescriptor "(IID)V" = some ⟨[.int, .int, .double], none⟩ := by decide +kernel
theorem pd_3 : parseMethodDescriptor "([[I)V" = some ⟨[(.array (.array .int))], none⟩ := by decide +kernel
theorem pd_5 : parseMethodDescriptor "(Lcom/example/muster/muster/core/MpdaPlan;D)V" = some ⟨[(.object "com/example/muster/muster/core/MpdaPlan"), .double], none⟩ := by decide +kernel
theorem pd_8 : parseMethodDescriptor "(III)D" = some ⟨[.int, .int, .int], some .double⟩ := by decide +kernel
theorem pn_3 : plainName "com/example/muster/muster/solvers/PheromoneUpdatePinLaw" = true := by first | (simp [plainName, overriddenIn]; done) | decide +kernel
theorem ef_0_aaaa (m : MethodId) (x0 : Int32) (x1 : Int32) (x2 : Int32) (x3 : Int32) : entryFrame m #[(.int x0), (.int x1), (.int x2), (.int x3)] maxLocals = mkF m 0 #[.val (.int x0), .val (.int x1), .val (.int x2), .val (.int x3), .unset, .unset, .unset, .unset, .unset, .unset, .unset, .unset, .unset, .unset, .unset, .unset, .unset, .unset, .unset, .unset, .unset, .unset, .unset, .unset, .unset, .unset, .unset, .unset, .unset, .unset] [] := by first | (simp [entryFrame, mkF, argsToLocals, Value.category, maxLocals]; done) | rfl
theorem rm0 (l : Launch) (Z : State) (a0 : Array Value) (hw : HW a0 Z) (ws : List Jvm.Cond) (p0 : Int32) (p1 : Int32) (p2 : Int32) (p3 : Int32) (h0 : Heap) (n0 : Nat) (Z0 : n0 ≤ h0.size) :
    MetFree l x (head1 (Jvm.Cond.code x code maxLocals ret :: ws) room_1) (fun a U => a = #[(.int p0), (.int p1), (.int p2), (.int p3)] ∧ Z.Warmed39 U.vm ∧ U.heap = h0) (fun _ _ _ _ _ => True) (fun _ U o U' => ∃ v L, o = .returned v ∧ Q0 n0 v U'.heap L ∧ FrameEnd U o U' L 64 192) := by
  refine MetFree.of_bodySF (plainFor_of_name pn_3) hisR ?_
  intro p e s m args below meth c s₁ Bd hml0 hP hK
  obtain ⟨rfl, hZ, hh⟩ := hP
  have hx := Bd.exec
  have hby := Bd.bytes
  have hml : c.maxLocals = 30 := hml0
  have hown : s.vm.findClass "com/example/muster/muster/solvers/PheromoneUpdatePinLaw" = some m.cls := findClass_of_methodNamed Bd.named
  have X0 : Stand p l e room_1 s m #[(.int p0), (.int p1), (.int p2), (.int p3)] below meth c s₁ [] 0 0 := Stand.of_body Bd
  have e0 : s₁.heap = h0 := by rw [← hh, Bd.state]; rfl
  have N0 := Fr.nil n0
  refine Go.into (P := fun oo uu => ∃ v L, oo = .returned v ∧ Q0 n0 v uu.heap L ∧ FrameEnd s oo uu L 64 192) (ef_0_aaaa m p0 p1 p2 p3) ?_
  show Go p e below _ (s₁.setTop (mkF m 0 #[sI p0, sI p1, sI p2, sI p3, .unset, .unset, .unset, .unset, .unset, .unset, .unset, .unset, .unset, .unset, .unset, .unset, .unset, .unset, .unset, .unset, .unset, .unset, .unset, .unset, .unset, .unset, .unset, .unset, .unset, .unset] []))
  refine Vi (s₁.setTop (mkF m 45 #[sI p0, sI p1, sI p2, sI p3, sI (p0 &&& (1 : Int32)), sI ((p0 >>> ((1 : Int32) &&& 31)) &&& (1 : Int32)), sI ((p0 >>> ((2 : Int32) &&& 31)) &&& (1 : Int32)), sI ((p0 >>> ((3 : Int32) &&& 31)) &&& (1 : Int32)), sI (p1 &&& (1 : Int32)), sI ((p1 >>> ((1 : Int32) &&& 31)) &&& (1 : Int32)), sI (((p1.toUInt32 >>> ((2 : Int32) &&& 31).toUInt32).toInt32) % (3 : Int32)), .unset, .unset, .unset, .unset, .unset, .unset, .unset, .unset, .unset, .unset, .unset, .unset, .unset, .unset, .unset, .unset, .unset, .unset, .unset] [])) (fun tZ kZ => ?_) ?_
  · refine XS.iloadN X0.here hx rfl (hb hby at_0) rfl ?_
    refine XS.iconst X0.here hx rfl (hb hby at_1) ?_
    refine XS.iand X0.here hx rfl (hb hby at_2) rfl ?_
    refine XS.istore X0.here hx rfl (hb hby at_3) rfl (l' := #[sI p0, sI p1, sI p2, sI p3, sI (p0 &&& (1 : Int32)), .unset, .unset, .unset, .unset, .unset, .unset, .unset, .unset, .unset, .unset, .unset, .unset, .unset, .unset, .unset, .unset, .unset, .unset, .unset, .unset, .unset, .unset, .unset, .unset, .unset]) rfl ?_
    refine XS.iloadN X0.here hx rfl (hb hby at_5) rfl ?_
    refine XS.iconst X0.here hx rfl (hb hby at_6) ?_
    refine XS.ishr X0.here hx rfl (hb hby at_7) rfl ?_
    refine XS.iconst X0.here hx rfl (hb hby at_8) ?_
    refine XS.iand X0.here hx rfl (hb hby at_9) rfl ?_
    refine XS.istore X0.here hx rfl (hb hby at_10) rfl (l' := #[sI p0, sI p1, sI p2, sI p3, sI (p0 &&& (1 : Int32)), sI ((p0 >>> ((1 : Int32) &&& 31)) &&& (1 : Int32)), .unset, .unset, .unset, .unset, .unset, .unset, .unset, .unset, .unset, .unset, .unset, .unset, .unset, .unset, .unset, .unset, .unset, .unset, .unset, .unset, .unset, .unset, .unset, .unset]) rfl ?_
    refine XS.iloadN X0.here hx rfl (hb hby at_12) rfl ?_
    refine XS.iconst X0.here hx rfl (hb hby at_13) ?_
    refine XS.ishr X0.here hx rfl (hb hby at_14) rfl ?_
    refine XS.iconst X0.here hx rfl (hb hby at_15) ?_
    refine XS.iand X0.here hx rfl (hb hby at_16) rfl ?_
    refine XS.istore X0.here hx rfl (hb hby at_17) rfl (l' := #[sI p0, sI p1, sI p2, sI p3, sI (p0 &&& (1 : Int32)), sI ((p0 >>> ((1 : Int32) &&& 31)) &&& (1 : Int32)), sI ((p0 >>> ((2 : Int32) &&& 31)) &&& (1 : Int32)), .unset, .unset, .unset, .unset, .unset, .unset, .unset, .unset, .unset, .unset, .unset, .unset, .unset, .unset, .unset, .unset, .unset, .unset, .unset, .unset, .unset, .unset, .unset]) rfl ?_
    refine XS.iloadN X0.here hx rfl (hb hby at_19) rfl ?_
    refine XS.iconst X0.here hx rfl (hb hby at_20) ?_
    refine XS.ishr X0.here hx rfl (hb hby at_21) rfl ?_
    refine XS.iconst X0.here hx rfl (hb hby at_22) ?_
    refine XS.iand X0.here hx rfl (hb hby at_23) rfl ?_
    refine XS.istore X0.here hx rfl (hb hby at_24) rfl (l' := #[sI p0, sI p1, sI p2, sI p3, sI (p0 &&& (1 : Int32)), sI ((p0 >>> ((1 : Int32) &&& 31)) &&& (1 : Int32)), sI ((p0 >>> ((2 : Int32) &&& 31)) &&& (1 : Int32)), sI ((p0 >>> ((3 : Int32) &&& 31)) &&& (1 : Int32)), .unset, .unset, .unset, .unset, .unset, .unset, .unset, .unset, .unset, .unset, .unset, .unset, .unset, .unset, .unset, .unset, .unset, .unset, .unset, .unset, .unset, .unset]) rfl ?_
    refine XS.iloadN X0.here hx rfl (hb hby at_26) rfl ?_
    refine XS.iconst X0.here hx rfl (hb hby at_27) ?_
    refine XS.iand X0.here hx rfl (hb hby at_28) rfl ?_
    refine XS.istore X0.here hx rfl (hb hby at_29) rfl (l' := #[sI p0, sI p1, sI p2, sI p3, sI (p0 &&& (1 : Int32)), sI ((p0 >>> ((1 : Int32) &&& 31)) &&& (1 : Int32)), sI ((p0 >>> ((2 : Int32) &&& 31)) &&& (1 : Int32)), sI ((p0 >>> ((3 : Int32) &&& 31)) &&& (1 : Int32)), sI (p1 &&& (1 : Int32)), .unset, .unset, .unset, .unset, .unset, .unset, .unset, .unset, .unset, .unset, .unset, .unset, .unset, .unset, .unset, .unset, .unset, .unset, .unset, .unset, .unset]) rfl ?_
    refine XS.iloadN X0.here hx rfl (hb hby at_31) rfl ?_
    refine XS.iconst X0.here hx rfl (hb hby at_32) ?_
    refine XS.ishr X0.here hx rfl (hb hby at_33) rfl ?_
    refine XS.iconst X0.here hx rfl (hb hby at_34) ?_
    refine XS.iand X0.here hx rfl (hb hby at_35) rfl ?_
    refine XS.istore X0.here hx rfl (hb hby at_36) rfl (l' := #[sI p0, sI p1, sI p2, sI p3, sI (p0 &&& (1 : Int32)), sI ((p0 >>> ((1 : Int32) &&& 31)) &&& (1 : Int32)), sI ((p0 >>> ((2 : Int32) &&& 31)) &&& (1 : Int32)), sI ((p0 >>> ((3 : Int32) &&& 31)) &&& (1 : Int32)), sI (p1 &&& (1 : Int32)), sI ((p1 >>> ((1 : Int32) &&& 31)) &&& (1 : Int32)), .unset, .unset, .unset, .unset, .unset, .unset, .unset, .unset, .unset, .unset, .unset, .unset, .unset, .unset, .unset, .unset, .unset, .unset, .unset, .unset]) rfl ?_
    refine XS.iloadN X0.here hx rfl (hb hby at_38) rfl ?_
    refine XS.iconst X0.here hx rfl (hb hby at_39) ?_
    refine XS.iushr X0.here hx rfl (hb hby at_40) rfl ?_
    refine XS.iconst X0.here hx rfl (hb hby at_41) ?_
    refine iremM X0 hx rfl (hb hby at_42) rfl (by decide) ?_
    refine XS.istore X0.here hx rfl (hb hby at_43) rfl (l' := #[sI p0, sI p1, sI p2, sI p3, sI (p0 &&& (1 : Int32)), sI ((p0 >>> ((1 : Int32) &&& 31)) &&& (1 : Int32)), sI ((p0 >>> ((2 : Int32) &&& 31)) &&& (1 : Int32)), sI ((p0 >>> ((3 : Int32) &&& 31)) &&& (1 : Int32)), sI (p1 &&& (1 : Int32)), sI ((p1 >>> ((1 : Int32) &&& 31)) &&& (1 : Int32)), sI (((p1.toUInt32 >>> ((2 : Int32) &&& 31).toUInt32).toInt32) % (3 : Int32)), .unset, .unset, .unset, .unset, .unset, .unset, .unset, .unset, .unset, .unset, .unset, .unset, .unset, .unset, .unset, .unset, .unset, .unset, .unset]) rfl ?_
    exact kZ
  obtain ⟨xa, e_xa⟩ : ∃ z, z = (p0 &&& (1 : Int32)) := ⟨_, rfl⟩
  rw [← e_xa]
  obtain ⟨xb, e_xb⟩ : ∃ z, z = ((p0 >>> ((1 : Int32) &&& 31)) &&& (1 : Int32)) := ⟨_, rfl⟩
  rw [← e_xb]
  obtain ⟨xc, e_xc⟩ : ∃ z, z = ((p0 >>> ((2 : Int32) &&& 31)) &&& (1 : Int32)) := ⟨_, rfl⟩
  rw [← e_xc]
  obtain ⟨xd, e_xd⟩ : ∃ z, z = ((p0 >>> ((3 : Int32) &&& 31)) &&& (1 : Int32)) := ⟨_, rfl⟩
  rw [← e_xd]
  obtain ⟨rr, e_rr⟩ : ∃ z, z = (p1 &&& (1 : Int32)) := ⟨_, rfl⟩
  rw [← e_rr]
  obtain ⟨tt, e_tt⟩ : ∃ z, z = ((p1 >>> ((1 : Int32) &&& 31)) &&& (1 : Int32)) := ⟨_, rfl⟩
  rw [← e_tt]
  obtain ⟨pp, e_pp⟩ : ∃ z, z = (((p1.toUInt32 >>> ((2 : Int32) &&& 31).toUInt32).toInt32) % (3 : Int32)) := ⟨_, rfl⟩
  rw [← e_pp]
  show Go p e below _ (s₁.setTop (mkF m 45 #[sI p0, sI p1, sI p2, sI p3, sI xa, sI xb, sI xc, sI xd, sI rr, sI tt, sI pp, .unset, .unset, .unset, .unset, .unset, .unset, .unset, .unset, .unset, .unset, .unset, .unset, .unset, .unset, .unset, .unset, .unset, .unset, .unset] []))
  have ha : xa = 0 ∨ xa = 1 := by rw [e_xa]; exact own_bit1 _
  have hb_ : xb = 0 ∨ xb = 1 := by rw [e_xb]; exact own_bit1 _
  have hc_ : xc = 0 ∨ xc = 1 := by rw [e_xc]; exact own_bit1 _
  have hd_ : xd = 0 ∨ xd = 1 := by rw [e_xd]; exact own_bit1 _
  have hr : rr = 0 ∨ rr = 1 := by rw [e_rr]; exact own_bit1 _
  have ht : tt = 0 ∨ tt = 1 := by rw [e_tt]; exact own_bit1 _
  have hp : pp = 0 ∨ pp = 1 ∨ pp = 2 := by rw [e_pp]; exact own_mod3 (own_sh2 _)
  refine Vi (s₁.setTop (mkF m 59 #[sI p0, sI p1, sI p2, sI p3, sI xa, sI xb, sI xc, sI xd, sI rr, sI tt, sI pp, .val (.double (FP.i2d (p2 &&& (65535 : Int32)))), .second, .val (.double (FP.i2d (p3 &&& (65535 : Int32)))), .second, .unset, .unset, .unset, .unset, .unset, .unset, .unset, .unset, .unset, .unset, .unset, .unset, .unset, .unset, .unset] [])) (fun tZ kZ => ?_) ?_
  · refine XS.iloadN X0.here hx rfl (hb hby at_45) rfl ?_
    refine X0.ldcInt hx hown (wz hZ hw 0 rfl) (g := (mkF m 46 #[sI p0, sI p1, sI p2, sI p3, sI xa, sI xb, sI xc, sI xd, sI rr, sI tt, sI pp, .unset, .unset, .unset, .unset, .unset, .unset, .unset, .unset, .unset, .unset, .unset, .unset, .unset, .unset, .unset, .unset, .unset, .unset, .unset] [(.int p2)])) rfl (hb hby at_46) _ ?_
    refine XS.iand X0.here hx rfl (hb hby at_48) rfl ?_
    refine XS.i2dS X0.here hx rfl (hb hby at_49) rfl rfl ?_
    refine XS.dstore X0.here hx rfl (hb hby at_50) rfl (l' := #[sI p0, sI p1, sI p2, sI p3, sI xa, sI xb, sI xc, sI xd, sI rr, sI tt, sI pp, .val (.double (FP.i2d (p2 &&& (65535 : Int32)))), .second, .unset, .unset, .unset, .unset, .unset, .unset, .unset, .unset, .unset, .unset, .unset, .unset, .unset, .unset, .unset, .unset, .unset]) rfl ?_
    refine XS.iloadN X0.here hx rfl (hb hby at_52) rfl ?_
    refine X0.ldcInt hx hown (wz hZ hw 0 rfl) (g := (mkF m 53 #[sI p0, sI p1, sI p2, sI p3, sI xa, sI xb, sI xc, sI xd, sI rr, sI tt, sI pp, .val (.double (FP.i2d (p2 &&& (65535 : Int32)))), .second, .unset, .unset, .unset, .unset, .unset, .unset, .unset, .unset, .unset, .unset, .unset, .unset, .unset, .unset, .unset, .unset, .unset] [(.int p3)])) rfl (hb hby at_53) _ ?_
    refine XS.iand X0.here hx rfl (hb hby at_55) rfl ?_
    refine XS.i2dS X0.here hx rfl (hb hby at_56) rfl rfl ?_
    refine XS.dstore X0.here hx rfl (hb hby at_57) rfl (l' := #[sI p0, sI p1, sI p2, sI p3, sI xa, sI xb, sI xc, sI xd, sI rr, sI tt, sI pp, .val (.double (FP.i2d (p2 &&& (65535 : Int32)))), .second, .val (.double (FP.i2d (p3 &&& (65535 : Int32)))), .second, .unset, .unset, .unset, .unset, .unset, .unset, .unset, .unset, .unset, .unset, .unset, .unset, .unset, .unset, .unset]) rfl ?_
    exact kZ
  obtain ⟨dS, e_dS⟩ : ∃ z, z = (FP.i2d (p2 &&& (65535 : Int32))) := ⟨_, rfl⟩
  rw [← e_dS]
  obtain ⟨dM, e_dM⟩ : ∃ z, z = (FP.i2d (p3 &&& (65535 : Int32))) := ⟨_, rfl⟩
  rw [← e_dM]
  show Go p e below _ (s₁.setTop (mkF m 59 #[sI p0, sI p1, sI p2, sI p3, sI xa, sI xb, sI xc, sI xd, sI rr, sI tt, sI pp, .val (.double dS), .second, .val (.double dM), .second, .unset, .unset, .unset, .unset, .unset, .unset, .unset, .unset, .unset, .unset, .unset, .unset, .unset, .unset, .unset] []))
  have hS : Jvm.Free.Fl.Mag64 1060 dS := by rw [e_dS]; exact (Jvm.Free.Fl.i2d_mag _).mono (by decide)
  have hM : Jvm.Free.Fl.Mag64 1060 dM := by rw [e_dM]; exact (Jvm.Free.Fl.i2d_mag _).mono (by decide)
  refine Vi (s₁.setTop (mkF m 60 #[sI p0, sI p1, sI p2, sI p3, sI xa, sI xb, sI xc, sI xd, sI rr, sI tt, sI pp, .val (.double dS), .second, .val (.double dM), .second, .unset, .unset, .unset, .unset, .unset, .unset, .unset, .unset, .unset, .unset, .unset, .unset, .unset, .unset, .unset] [(.int 2)])) (fun tZ kZ => ?_) ?_
  · refine XS.iconst X0.here hx rfl (hb hby at_59) ?_
    exact kZ
  obtain ⟨T1, h1, k1, X1, e1, E1, A1, B1, O1, st1⟩ := newRA X0 hx hZ hown (C := "[I") (ty := .int) rfl (wq hw 1 rfl) (wq hw 2 rfl) e0 (g := (mkF m 60 #[sI p0, sI p1, sI p2, sI p3, sI xa, sI xb, sI xc, sI xd, sI rr, sI tt, sI pp, .val (.double dS), .second, .val (.double dM), .second, .unset, .unset, .unset, .unset, .unset, .unset, .unset, .unset, .unset, .unset, .unset, .unset, .unset, .unset, .unset] [(.int 2)])) rfl (hb hby at_60) rfl (by decide) (cap := 2) (by decide) (by decide) (by decide) (by decide) (ad := "[[I") rfl
  obtain ⟨b1, g1⟩ : ∃ z, z = h0.size := ⟨_, rfl⟩
  rw [← g1] at A1 B1 st1
  have g_b1 : n0 ≤ b1 := Nat.le_trans Z0 (Nat.le_of_eq g1.symm)
  have sz_b1 : h0.size ≤ b1 := Nat.le_trans ((Keep.refl h0 [])).1 (Nat.le_of_eq g1.symm)
  have K1 : Keep h0 h1 [] := (Keep.refl h0 []).ext E1
  have Z1 := Nat.le_trans Z0 E1.1
  have V1 : AV Z h1 b1 (.array .int) 2 (fun _ => Value.null) := by have q := AV.new A1; exact q
  have OV1 : OV Z h1 b1 .int "[I" := ⟨_, A1.1, O1⟩
  refine Go.via st1 ?_
  refine Vi (T1.setTop (mkF m 69 #[sI p0, sI p1, sI p2, sI p3, sI xa, sI xb, sI xc, sI xd, sI rr, sI tt, sI pp, .val (.double dS), .second, .val (.double dM), .second, sR b1, .unset, .unset, .unset, .unset, .unset, .unset, .unset, .unset, .unset, .unset, .unset, .unset, .unset, .unset] [(.int 2), (.int 0), (.ref b1)])) (fun tZ kZ => ?_) ?_
  · refine XS.astore X1.here hx rfl (hb hby at_63) rfl rfl (l' := #[sI p0, sI p1, sI p2, sI p3, sI xa, sI xb, sI xc, sI xd, sI rr, sI tt, sI pp, .val (.double dS), .second, .val (.double dM), .second, sR b1, .unset, .unset, .unset, .unset, .unset, .unset, .unset, .unset, .unset, .unset, .unset, .unset, .unset, .unset]) rfl ?_
    refine XS.aload X1.here hx rfl (hb hby at_65) rfl rfl ?_
    refine XS.iconst X1.here hx rfl (hb hby at_67) ?_
    refine XS.iconst X1.here hx rfl (hb hby at_68) ?_
    exact kZ
  obtain ⟨T3, h3, k3, X3, e3, E3, A3, B3, st3⟩ := newPE X1 hx hZ (wq hw 3 rfl) e1 (g := (mkF m 69 #[sI p0, sI p1, sI p2, sI p3, sI xa, sI xb, sI xc, sI xd, sI rr, sI tt, sI pp, .val (.double dS), .second, .val (.double dM), .second, sR b1, .unset, .unset, .unset, .unset, .unset, .unset, .unset, .unset, .unset, .unset, .unset, .unset, .unset, .unset] [(.int 2), (.int 0), (.ref b1)])) rfl (hb hby at_69) rfl (by decide) (cap := 2) (by decide) (by decide) (by decide) (by decide) (ad := "[I") rfl
  obtain ⟨b3, g3⟩ : ∃ z, z = h1.size := ⟨_, rfl⟩
  rw [← g3] at A3 B3 st3
  have g_b3 : n0 ≤ b3 := Nat.le_trans Z1 (Nat.le_of_eq g3.symm)
  have sz_b3 : h0.size ≤ b3 := Nat.le_trans (K1).1 (Nat.le_of_eq g3.symm)
  have ne_b1_b3 : b1 ≠ b3 := Nat.ne_of_lt (Nat.lt_of_lt_of_le V1.lt (Nat.le_of_eq g3.symm))
  have lt_b1_b3 : (b1 : Nat) < b3 := Nat.lt_of_lt_of_le V1.lt (Nat.le_of_eq g3.symm)
  have c4_1 := V1.ext E3
  have c4_2 := B1.ext E3
  have c4_3 := OV1.ext E3
  have K3 : Keep h0 h3 [] := K1.ext E3
  have Z3 := Nat.le_trans Z1 E3.1
  have V3 : AV Z h3 b3 .int 2 (fun k => .int ((fun _ => (0 : Int32)) k)) := by have q := AV.new A3; exact q
  refine Go.via st3 ?_
  refine Vi (T3.setTop (mkF m 75 #[sI p0, sI p1, sI p2, sI p3, sI xa, sI xb, sI xc, sI xd, sI rr, sI tt, sI pp, .val (.double dS), .second, .val (.double dM), .second, sR b1, .unset, .unset, .unset, .unset, .unset, .unset, .unset, .unset, .unset, .unset, .unset, .unset, .unset, .unset] [(.int xa), (.int 0), (.ref b3), (.ref b3), (.int 0), (.ref b1)])) (fun tZ kZ => ?_) ?_
  · refine XS.dup X3.here hx rfl (hb hby at_71) rfl rfl ?_
    refine XS.iconst X3.here hx rfl (hb hby at_72) ?_
    refine XS.iload X3.here hx rfl (hb hby at_73) rfl ?_
    exact kZ
  obtain ⟨T5, h5, X5, e5, W5, V5, st5⟩ := AV.iastore V3 X3 hx hZ e3 (j := (0 : Int32)) (by decide) (Ls := #[sI p0, sI p1, sI p2, sI p3, sI xa, sI xb, sI xc, sI xd, sI rr, sI tt, sI pp, .val (.double dS), .second, .val (.double dM), .second, sR b1, .unset, .unset, .unset, .unset, .unset, .unset, .unset, .unset, .unset, .unset, .unset, .unset, .unset, .unset]) (rest := [(.ref b3), (.int 0), (.ref b1)]) (hb hby at_75) (x := xa)
  have N5 := Fr.snoc X5 N0 g_b3
  have c6_1 := c4_1.other W5 ne_b1_b3
  have c6_2 := c4_2.wr W5
  have c6_3 := c4_3.wr W5
  have c6_5 := B3.wr W5
  have K5 : Keep h0 h5 [] := K3.wr W5 (Or.inr sz_b3)
  have Z5 := Nat.le_trans Z3 (Keep.of_wr W5).1
  refine Go.via st5 ?_
  refine Vi (T5.setTop (mkF m 80 #[sI p0, sI p1, sI p2, sI p3, sI xa, sI xb, sI xc, sI xd, sI rr, sI tt, sI pp, .val (.double dS), .second, .val (.double dM), .second, sR b1, .unset, .unset, .unset, .unset, .unset, .unset, .unset, .unset, .unset, .unset, .unset, .unset, .unset, .unset] [(.int xb), (.int 1), (.ref b3), (.ref b3), (.int 0), (.ref b1)])) (fun tZ kZ => ?_) ?_
  · refine XS.dup X5.here hx rfl (hb hby at_76) rfl rfl ?_
    refine XS.iconst X5.here hx rfl (hb hby at_77) ?_
    refine XS.iload X5.here hx rfl (hb hby at_78) rfl ?_
    exact kZ
  obtain ⟨T7, h7, X7, e7, W7, V7, st7⟩ := AV.iastore V5 X5 hx hZ e5 (j := (1 : Int32)) (by decide) (Ls := #[sI p0, sI p1, sI p2, sI p3, sI xa, sI xb, sI xc, sI xd, sI rr, sI tt, sI pp, .val (.double dS), .second, .val (.double dM), .second, sR b1, .unset, .unset, .unset, .unset, .unset, .unset, .unset, .unset, .unset, .unset, .unset, .unset, .unset, .unset]) (rest := [(.ref b3), (.int 0), (.ref b1)]) (hb hby at_80) (x := xb)
  have N7 := Fr.snoc X7 N5 g_b3
  have c8_1 := c6_1.other W7 ne_b1_b3
  have c8_2 := c6_2.wr W7
  have c8_3 := c6_3.wr W7
  have c8_5 := c6_5.wr W7
  have K7 : Keep h0 h7 [] := K5.wr W7 (Or.inr sz_b3)
  have Z7 := Nat.le_trans Z5 (Keep.of_wr W7).1
  refine Go.via st7 ?_
  obtain ⟨T9, h9, X9, e9, W9, V9, st9⟩ := AV.aastore c8_1 rfl (OV.sto c8_3 c8_1 (Ins.self c8_5)) X7 hx hZ e7 (j := (0 : Int32)) (by decide) (Ls := #[sI p0, sI p1, sI p2, sI p3, sI xa, sI xb, sI xc, sI xd, sI rr, sI tt, sI pp, .val (.double dS), .second, .val (.double dM), .second, sR b1, .unset, .unset, .unset, .unset, .unset, .unset, .unset, .unset, .unset, .unset, .unset, .unset, .unset, .unset]) (rest := []) (hb hby at_81) (v := (.ref b3))
  have N9 := Fr.snoc X9 N7 g_b1
  have c10_2 := c8_2.wr W9
  have c10_3 := c8_3.wr W9
  have c10_5 := c8_5.wr W9
  have c10_6 := V7.other W9 (Ne.symm ne_b1_b3)
  have K9 : Keep h0 h9 [] := K7.wr W9 (Or.inr sz_b1)
  have Z9 := Nat.le_trans Z7 (Keep.of_wr W9).1
  refine Go.via st9 ?_
  refine Vi (T9.setTop (mkF m 86 #[sI p0, sI p1, sI p2, sI p3, sI xa, sI xb, sI xc, sI xd, sI rr, sI tt, sI pp, .val (.double dS), .second, .val (.double dM), .second, sR b1, .unset, .unset, .unset, .unset, .unset, .unset, .unset, .unset, .unset, .unset, .unset, .unset, .unset, .unset] [(.int 2), (.int 1), (.ref b1)])) (fun tZ kZ => ?_) ?_
  · refine XS.aload X9.here hx rfl (hb hby at_82) rfl rfl ?_
    refine XS.iconst X9.here hx rfl (hb hby at_84) ?_
    refine XS.iconst X9.here hx rfl (hb hby at_85) ?_
    exact kZ
  obtain ⟨T11, h11, k11, X11, e11, E11, A11, B11, st11⟩ := newPE X9 hx hZ (wq hw 3 rfl) e9 (g := (mkF m 86 #[sI p0, sI p1, sI p2, sI p3, sI xa, sI xb, sI xc, sI xd, sI rr, sI tt, sI pp, .val (.double dS), .second, .val (.double dM), .second, sR b1, .unset, .unset, .unset, .unset, .unset, .unset, .unset, .unset, .unset, .unset, .unset, .unset, .unset, .unset] [(.int 2), (.int 1), (.ref b1)])) rfl (hb hby at_86) rfl (by decide) (cap := 2) (by decide) (by decide) (by decide) (by decide) (ad := "[I") rfl
  obtain ⟨b11, g11⟩ : ∃ z, z = h9.size := ⟨_, rfl⟩
  rw [← g11] at A11 B11 st11
  have g_b11 : n0 ≤ b11 := Nat.le_trans Z9 (Nat.le_of_eq g11.symm)
  have sz_b11 : h0.size ≤ b11 := Nat.le_trans (K9).1 (Nat.le_of_eq g11.symm)
  have ne_b1_b11 : b1 ≠ b11 := Nat.ne_of_lt (Nat.lt_of_lt_of_le V9.lt (Nat.le_of_eq g11.symm))
  have ne_b3_b11 : b3 ≠ b11 := Nat.ne_of_lt (Nat.lt_of_lt_of_le c10_5.lt (Nat.le_of_eq g11.symm))
  have lt_b3_b11 : (b3 : Nat) < b11 := Nat.lt_of_lt_of_le c10_5.lt (Nat.le_of_eq g11.symm)
  have lt_b1_b11 : (b1 : Nat) < b11 := Nat.lt_of_lt_of_le V9.lt (Nat.le_of_eq g11.symm)
  have c12_1 := V9.ext E11
  have c12_2 := c10_2.ext E11
  have c12_3 := c10_3.ext E11
  have c12_5 := c10_5.ext E11
  have c12_6 := c10_6.ext E11
  have K11 : Keep h0 h11 [] := K9.ext E11
  have Z11 := Nat.le_trans Z9 E11.1
  have V11 : AV Z h11 b11 .int 2 (fun k => .int ((fun _ => (0 : Int32)) k)) := by have q := AV.new A11; exact q
  refine Go.via st11 ?_
  refine Vi (T11.setTop (mkF m 92 #[sI p0, sI p1, sI p2, sI p3, sI xa, sI xb, sI xc, sI xd, sI rr, sI tt, sI pp, .val (.double dS), .second, .val (.double dM), .second, sR b1, .unset, .unset, .unset, .unset, .unset, .unset, .unset, .unset, .unset, .unset, .unset, .unset, .unset, .unset] [(.int xc), (.int 0), (.ref b11), (.ref b11), (.int 1), (.ref b1)])) (fun tZ kZ => ?_) ?_
  · refine XS.dup X11.here hx rfl (hb hby at_88) rfl rfl ?_
    refine XS.iconst X11.here hx rfl (hb hby at_89) ?_
    refine XS.iload X11.here hx rfl (hb hby at_90) rfl ?_
    exact kZ
  obtain ⟨T13, h13, X13, e13, W13, V13, st13⟩ := AV.iastore V11 X11 hx hZ e11 (j := (0 : Int32)) (by decide) (Ls := #[sI p0, sI p1, sI p2, sI p3, sI xa, sI xb, sI xc, sI xd, sI rr, sI tt, sI pp, .val (.double dS), .second, .val (.double dM), .second, sR b1, .unset, .unset, .unset, .unset, .unset, .unset, .unset, .unset, .unset, .unset, .unset, .unset, .unset, .unset]) (rest := [(.ref b11), (.int 1), (.ref b1)]) (hb hby at_92) (x := xc)
  have N13 := Fr.snoc X13 N9 g_b11
  have c14_1 := c12_1.other W13 ne_b1_b11
  have c14_2 := c12_2.wr W13
  have c14_3 := c12_3.wr W13
  have c14_5 := c12_5.wr W13
  have c14_6 := c12_6.other W13 ne_b3_b11
  have c14_8 := B11.wr W13
  have K13 : Keep h0 h13 [] := K11.wr W13 (Or.inr sz_b11)
  have Z13 := Nat.le_trans Z11 (Keep.of_wr W13).1
  refine Go.via st13 ?_
  refine Vi (T13.setTop (mkF m 97 #[sI p0, sI p1, sI p2, sI p3, sI xa, sI xb, sI xc, sI xd, sI rr, sI tt, sI pp, .val (.double dS), .second, .val (.double dM), .second, sR b1, .unset, .unset, .unset, .unset, .unset, .unset, .unset, .unset, .unset, .unset, .unset, .unset, .unset, .unset] [(.int xd), (.int 1), (.ref b11), (.ref b11), (.int 1), (.ref b1)])) (fun tZ kZ => ?_) ?_
  · refine XS.dup X13.here hx rfl (hb hby at_93) rfl rfl ?_
    refine XS.iconst X13.here hx rfl (hb hby at_94) ?_
    refine XS.iload X13.here hx rfl (hb hby at_95) rfl ?_
    exact kZ
  obtain ⟨T15, h15, X15, e15, W15, V15, st15⟩ := AV.iastore V13 X13 hx hZ e13 (j := (1 : Int32)) (by decide) (Ls := #[sI p0, sI p1, sI p2, sI p3, sI xa, sI xb, sI xc, sI xd, sI rr, sI tt, sI pp, .val (.double dS), .second, .val (.double dM), .second, sR b1, .unset, .unset, .unset, .unset, .unset, .unset, .unset, .unset, .unset, .unset, .unset, .unset, .unset, .unset]) (rest := [(.ref b11), (.int 1), (.ref b1)]) (hb hby at_97) (x := xd)
  have N15 := Fr.snoc X15 N13 g_b11
  have c16_1 := c14_1.other W15 ne_b1_b11
  have c16_2 := c14_2.wr W15
  have c16_3 := c14_3.wr W15
  have c16_5 := c14_5.wr W15
  have c16_6 := c14_6.other W15 ne_b3_b11
  have c16_8 := c14_8.wr W15
  have K15 : Keep h0 h15 [] := K13.wr W15 (Or.inr sz_b11)
  have Z15 := Nat.le_trans Z13 (Keep.of_wr W15).1
  refine Go.via st15 ?_
  obtain ⟨T17, h17, X17, e17, W17, V17, st17⟩ := AV.aastore c16_1 rfl (OV.sto c16_3 c16_1 (Ins.self c16_8)) X15 hx hZ e15 (j := (1 : Int32)) (by decide) (Ls := #[sI p0, sI p1, sI p2, sI p3, sI xa, sI xb, sI xc, sI xd, sI rr, sI tt, sI pp, .val (.double dS), .second, .val (.double dM), .second, sR b1, .unset, .unset, .unset, .unset, .unset, .unset, .unset, .unset, .unset, .unset, .unset, .unset, .unset, .unset]) (rest := []) (hb hby at_98) (v := (.ref b11))
  have N17 := Fr.snoc X17 N15 g_b1
  have c18_2 := c16_2.wr W17
  have c18_3 := c16_3.wr W17
  have c18_5 := c16_5.wr W17
  have c18_6 := c16_6.other W17 (Ne.symm ne_b1_b3)
  have c18_8 := c16_8.wr W17
  have c18_9 := V15.other W17 (Ne.symm ne_b1_b11)
  have K17 : Keep h0 h17 [] := K15.wr W17 (Or.inr sz_b1)
  have Z17 := Nat.le_trans Z15 (Keep.of_wr W17).1
  refine Go.via st17 ?_
  obtain ⟨T19, h19, X19, e19, E19, A19, D19, -, st19⟩ := newO X17 hx hZ hown (wq hw 5 rfl) (wq hw 6 rfl) (wq hw 7 rfl) e17 (g := (mkF m 99 #[sI p0, sI p1, sI p2, sI p3, sI xa, sI xb, sI xc, sI xd, sI rr, sI tt, sI pp, .val (.double dS), .second, .val (.double dM), .second, sR b1, .unset, .unset, .unset, .unset, .unset, .unset, .unset, .unset, .unset, .unset, .unset, .unset, .unset, .unset] [])) rfl (hb hby at_99) (by decide) (by decide)
  obtain ⟨b19, g19⟩ : ∃ z, z = h17.size := ⟨_, rfl⟩
  rw [← g19] at A19 D19 st19
  have g_b19 : n0 ≤ b19 := Nat.le_trans Z17 (Nat.le_of_eq g19.symm)
  have sz_b19 : h0.size ≤ b19 := Nat.le_trans (K17).1 (Nat.le_of_eq g19.symm)
  have ne_b1_b19 : b1 ≠ b19 := Nat.ne_of_lt (Nat.lt_of_lt_of_le V17.lt (Nat.le_of_eq g19.symm))
  have ne_b3_b19 : b3 ≠ b19 := Nat.ne_of_lt (Nat.lt_of_lt_of_le c18_5.lt (Nat.le_of_eq g19.symm))
  have ne_b11_b19 : b11 ≠ b19 := Nat.ne_of_lt (Nat.lt_of_lt_of_le c18_8.lt (Nat.le_of_eq g19.symm))
  have lt_b3_b19 : (b3 : Nat) < b19 := Nat.lt_of_lt_of_le c18_5.lt (Nat.le_of_eq g19.symm)
  have lt_b1_b19 : (b1 : Nat) < b19 := Nat.lt_of_lt_of_le V17.lt (Nat.le_of_eq g19.symm)
  have lt_b11_b19 : (b11 : Nat) < b19 := Nat.lt_of_lt_of_le c18_8.lt (Nat.le_of_eq g19.symm)
  have c20_1 := V17.ext E19
  have c20_2 := c18_2.ext E19
  have c20_3 := c18_3.ext E19
  have c20_5 := c18_5.ext E19
  have c20_6 := c18_6.ext E19
  have c20_8 := c18_8.ext E19
  have c20_9 := c18_9.ext E19
  have K19 : Keep h0 h19 [] := K17.ext E19
  have Z19 := Nat.le_trans Z17 E19.1
  have F19_initial : Fld Z h19 b19 "com/example/muster/muster/solvers/Pheromone" "initial" "D" (.double 0) := D19 (Or.inr (wq hw 15 rfl)) (ty := .double) (by decide)
  have F19_value : Fld Z h19 b19 "com/example/muster/muster/solvers/Pheromone" "value" "[[[D" .null := D19 (Or.inr (wq hw 21 rfl)) (ty := (.array (.array (.array .double)))) (by decide)
  have F19_deposited : Fld Z h19 b19 "com/example/muster/muster/solvers/Pheromone" "deposited" "[[[D" .null := D19 (Or.inr (wq hw 23 rfl)) (ty := (.array (.array (.array .double)))) (by decide)
  refine Go.via st19 ?_
  refine Vi (T19.setTop (mkF m 107 #[sI p0, sI p1, sI p2, sI p3, sI xa, sI xb, sI xc, sI xd, sI rr, sI tt, sI pp, .val (.double dS), .second, .val (.double dM), .second, sR b1, .unset, .unset, .unset, .unset, .unset, .unset, .unset, .unset, .unset, .unset, .unset, .unset, .unset, .unset] [(.double dS), (.int 2), (.int 2), (.ref b19), (.ref b19)])) (fun tZ kZ => ?_) ?_
  · refine XS.dup X19.here hx rfl (hb hby at_102) rfl rfl ?_
    refine XS.iconst X19.here hx rfl (hb hby at_103) ?_
    refine XS.iconst X19.here hx rfl (hb hby at_104) ?_
    refine XS.dload X19.here hx rfl (hb hby at_105) rfl ?_
    exact kZ
  obtain ⟨_, _, ⟨T21, L21, k21, n21⟩, -, X21, ⟨Lc21, hQ21, l21, y21, z21⟩, st21⟩ := X19.specialBack hx (y := y1) rfl hown (wz hZ hw 8 rfl) (wz hZ hw 9 rfl) (wz hZ hw 10 rfl) (by decide) (backOf (W := 1) (rm1 l Z a0 hw [] b19 dS h19 n0 Z19 A19 F19_initial F19_value F19_deposited g_b19) hZ (wq hw 10 rfl) (wq hw 7 rfl) (by decide) (by decide)) (g := (mkF m 107 #[sI p0, sI p1, sI p2, sI p3, sI xa, sI xb, sI xc, sI xd, sI rr, sI tt, sI pp, .val (.double dS), .second, .val (.double dM), .second, sR b1, .unset, .unset, .unset, .unset, .unset, .unset, .unset, .unset, .unset, .unset, .unset, .unset, .unset, .unset] [(.double dS), (.int 2), (.int 2), (.ref b19), (.ref b19)])) rfl (by rw [hml]; rfl) (Steps.refl _) (a := b19) (argsL := [(.int 2), (.int 2), (.double dS)]) (rest := [(.ref b19)]) (lenOf pd_0 rfl) rfl (leW rfl) (hb hby at_107) (fun _ _ => ⟨rfl, e19, (by decide : 0 + 1 + 1 + 1 + 1 + 18 ≤ _), (by decide : 0 + 2 + 2 + 2 + 3 + 40 ≤ _)⟩)
  dsimp only [Pt.U, Pt.locs, Pt.cells, Pt.slots] at X21 l21 y21 z21 st21 hQ21
  subst l21 y21 z21
  obtain ⟨rfl, N21q, b21_0, b21_1, hz_b21_0, hz_b21_1, ne_b21_0_b21_1, Kq21, f21_0, f21_1, f21_2, f21_3, f21_4, f21_5, f21_6⟩ := hQ21
  have g_b21_0 : n0 ≤ b21_0 := Nat.le_trans Z19 hz_b21_0
  have sz_b21_0 : h0.size ≤ b21_0 := Nat.le_trans (K19).1 hz_b21_0
  have ne_b1_b21_0 : b1 ≠ b21_0 := Nat.ne_of_lt (Nat.lt_of_lt_of_le c20_1.lt hz_b21_0)
  have ne_b3_b21_0 : b3 ≠ b21_0 := Nat.ne_of_lt (Nat.lt_of_lt_of_le c20_5.lt hz_b21_0)
  have ne_b11_b21_0 : b11 ≠ b21_0 := Nat.ne_of_lt (Nat.lt_of_lt_of_le c20_8.lt hz_b21_0)
  have ne_b19_b21_0 : b19 ≠ b21_0 := Nat.ne_of_lt (Nat.lt_of_lt_of_le A19.lt hz_b21_0)
  have lt_b1_b21_0 : (b1 : Nat) < b21_0 := Nat.lt_of_lt_of_le c20_1.lt hz_b21_0
  have lt_b3_b21_0 : (b3 : Nat) < b21_0 := Nat.lt_of_lt_of_le c20_5.lt hz_b21_0
  have lt_b11_b21_0 : (b11 : Nat) < b21_0 := Nat.lt_of_lt_of_le c20_8.lt hz_b21_0
  have lt_b19_b21_0 : (b19 : Nat) < b21_0 := Nat.lt_of_lt_of_le A19.lt hz_b21_0
  have g_b21_1 : n0 ≤ b21_1 := Nat.le_trans Z19 hz_b21_1
  have sz_b21_1 : h0.size ≤ b21_1 := Nat.le_trans (K19).1 hz_b21_1
  have ne_b1_b21_1 : b1 ≠ b21_1 := Nat.ne_of_lt (Nat.lt_of_lt_of_le c20_1.lt hz_b21_1)
  have ne_b3_b21_1 : b3 ≠ b21_1 := Nat.ne_of_lt (Nat.lt_of_lt_of_le c20_5.lt hz_b21_1)
  have ne_b11_b21_1 : b11 ≠ b21_1 := Nat.ne_of_lt (Nat.lt_of_lt_of_le c20_8.lt hz_b21_1)
  have ne_b19_b21_1 : b19 ≠ b21_1 := Nat.ne_of_lt (Nat.lt_of_lt_of_le A19.lt hz_b21_1)
  have lt_b1_b21_1 : (b1 : Nat) < b21_1 := Nat.lt_of_lt_of_le c20_1.lt hz_b21_1
  have lt_b3_b21_1 : (b3 : Nat) < b21_1 := Nat.lt_of_lt_of_le c20_5.lt hz_b21_1
  have lt_b11_b21_1 : (b11 : Nat) < b21_1 := Nat.lt_of_lt_of_le c20_8.lt hz_b21_1
  have lt_b19_b21_1 : (b19 : Nat) < b21_1 := Nat.lt_of_lt_of_le A19.lt hz_b21_1
  have c22_1 := c20_1.keep Kq21 (ninS ne_b1_b19 nin0)
  have c22_2 := c20_2.keep Kq21
  have c22_3 := c20_3.keep Kq21
  have c22_5 := c20_5.keep Kq21
  have c22_6 := c20_6.keep Kq21 (ninS ne_b3_b19 nin0)
  have c22_8 := c20_8.keep Kq21
  have c22_9 := c20_9.keep Kq21 (ninS ne_b11_b19 nin0)
  have K21 : Keep h0 T21.heap [] := K19.trans Kq21 (allS (Or.inr sz_b19) all0)
  have Z21 := Nat.le_trans Z19 Kq21.1
  have N21 := Fr.app N17 N21q
  refine Go.via (fun t k => st21.trans k) ?_
  refine Vi (T21.setTop (mkF m 112 #[sI p0, sI p1, sI p2, sI p3, sI xa, sI xb, sI xc, sI xd, sI rr, sI tt, sI pp, .val (.double dS), .second, .val (.double dM), .second, sR b1, sR b19, .unset, .unset, .unset, .unset, .unset, .unset, .unset, .unset, .unset, .unset, .unset, .unset, .unset] [])) (fun tZ kZ => ?_) ?_
  · refine XS.astore X21.here hx rfl (hb hby at_110) rfl rfl (l' := #[sI p0, sI p1, sI p2, sI p3, sI xa, sI xb, sI xc, sI xd, sI rr, sI tt, sI pp, .val (.double dS), .second, .val (.double dM), .second, sR b1, sR b19, .unset, .unset, .unset, .unset, .unset, .unset, .unset, .unset, .unset, .unset, .unset, .unset, .unset]) rfl ?_
    exact kZ
  obtain ⟨T23, h23, X23, e23, E23, A23, D23, -, st23⟩ := newO X21 hx hZ hown (wq hw 33 rfl) (wq hw 34 rfl) (wq hw 35 rfl) rfl (g := (mkF m 112 #[sI p0, sI p1, sI p2, sI p3, sI xa, sI xb, sI xc, sI xd, sI rr, sI tt, sI pp, .val (.double dS), .second, .val (.double dM), .second, sR b1, sR b19, .unset, .unset, .unset, .unset, .unset, .unset, .unset, .unset, .unset, .unset, .unset, .unset, .unset] [])) rfl (hb hby at_112) (by decide) (by decide)
  obtain ⟨b23, g23⟩ : ∃ z, z = T21.heap.size := ⟨_, rfl⟩
  rw [← g23] at A23 D23 st23
  have g_b23 : n0 ≤ b23 := Nat.le_trans Z21 (Nat.le_of_eq g23.symm)
  have sz_b23 : h0.size ≤ b23 := Nat.le_trans (K21).1 (Nat.le_of_eq g23.symm)
  have ne_b1_b23 : b1 ≠ b23 := Nat.ne_of_lt (Nat.lt_of_lt_of_le c22_1.lt (Nat.le_of_eq g23.symm))
  have ne_b3_b23 : b3 ≠ b23 := Nat.ne_of_lt (Nat.lt_of_lt_of_le c22_5.lt (Nat.le_of_eq g23.symm))
  have ne_b11_b23 : b11 ≠ b23 := Nat.ne_of_lt (Nat.lt_of_lt_of_le c22_8.lt (Nat.le_of_eq g23.symm))
  have ne_b19_b23 : b19 ≠ b23 := Nat.ne_of_lt (Nat.lt_of_lt_of_le f21_0.lt (Nat.le_of_eq g23.symm))
  have lt_b3_b23 : (b3 : Nat) < b23 := Nat.lt_of_lt_of_le c22_5.lt (Nat.le_of_eq g23.symm)
  have lt_b1_b23 : (b1 : Nat) < b23 := Nat.lt_of_lt_of_le c22_1.lt (Nat.le_of_eq g23.symm)
  have lt_b19_b23 : (b19 : Nat) < b23 := Nat.lt_of_lt_of_le f21_0.lt (Nat.le_of_eq g23.symm)
  have lt_b11_b23 : (b11 : Nat) < b23 := Nat.lt_of_lt_of_le c22_8.lt (Nat.le_of_eq g23.symm)
  have lt_b21_0_b23 : (b21_0 : Nat) + 9 ≤ b23 := Nat.le_trans f21_4.lt (Nat.le_of_eq g23.symm)
  have lt_b21_1_b23 : (b21_1 : Nat) + 9 ≤ b23 := Nat.le_trans f21_5.lt (Nat.le_of_eq g23.symm)
  have c24_1 := c22_1.ext E23
  have c24_2 := c22_2.ext E23
  have c24_3 := c22_3.ext E23
  have c24_5 := c22_5.ext E23
  have c24_6 := c22_6.ext E23
  have c24_8 := c22_8.ext E23
  have c24_9 := c22_9.ext E23
  have c24_11 := f21_0.ext E23
  have c24_12 := f21_1.ext E23
  have c24_13 := f21_2.ext E23
  have c24_14 := f21_3.ext E23
  have c24_15 := f21_4.ext E23
  have c24_16 := f21_5.ext E23
  have c24_17 := f21_6
  have K23 : Keep h0 h23 [] := K21.ext E23
  have Z23 := Nat.le_trans Z21 E23.1
  have F23_routes : Fld Z h23 b23 "com/example/muster/muster/core/MpdaPlan" "routes" "[[I" .null := D23 (Or.inr (wq hw 42 rfl)) (ty := (.array (.array .int))) (by decide)
  refine Go.via st23 ?_
  refine Vi (T23.setTop (mkF m 118 #[sI p0, sI p1, sI p2, sI p3, sI xa, sI xb, sI xc, sI xd, sI rr, sI tt, sI pp, .val (.double dS), .second, .val (.double dM), .second, sR b1, sR b19, .unset, .unset, .unset, .unset, .unset, .unset, .unset, .unset, .unset, .unset, .unset, .unset, .unset] [(.ref b1), (.ref b23), (.ref b23)])) (fun tZ kZ => ?_) ?_
  · refine XS.dup X23.here hx rfl (hb hby at_115) rfl rfl ?_
    refine XS.aload X23.here hx rfl (hb hby at_116) rfl rfl ?_
    exact kZ
  have VR : AV Z h23 b1 (.array .int) 2 (own_b2 b3 b11) := c24_1.congr (fun j hj => by rcases (show j = 0 ∨ j = 1 by omega) with rfl | rfl <;> rfl)
  have VR0 : AV Z h23 b3 .int 2 (fun k => .int ((own_2 xa xb) k)) := c24_6.congr (fun j hj => by rcases (show j = 0 ∨ j = 1 by omega) with rfl | rfl <;> rfl)
  have VR1 : AV Z h23 b11 .int 2 (fun k => .int ((own_2 xc xd) k)) := c24_9.congr (fun j hj => by rcases (show j = 0 ∨ j = 1 by omega) with rfl | rfl <;> rfl)
  obtain ⟨_, _, ⟨T25, L25, k25, n25⟩, -, X25, ⟨Lc25, hQ25, l25, y25, z25⟩, st25⟩ := X23.specialBack hx (y := y5) rfl hown (wz hZ hw 36 rfl) (wz hZ hw 37 rfl) (wz hZ hw 38 rfl) (by decide) (backOf (W := 1) (rm5 l Z a0 hw [] b23 b1 b3 b11 xa xb xc xd h23 n0 Z23 A23 F23_routes g_b23 c24_5 c24_8 VR VR0 VR1 (Ne.symm ne_b1_b23) (Ne.symm ne_b3_b23) (Ne.symm ne_b11_b23) ne_b1_b3 ne_b1_b11 ne_b3_b11) hZ (wq hw 38 rfl) (wq hw 35 rfl) (by decide) (by decide)) (g := (mkF m 118 #[sI p0, sI p1, sI p2, sI p3, sI xa, sI xb, sI xc, sI xd, sI rr, sI tt, sI pp, .val (.double dS), .second, .val (.double dM), .second, sR b1, sR b19, .unset, .unset, .unset, .unset, .unset, .unset, .unset, .unset, .unset, .unset, .unset, .unset, .unset] [(.ref b1), (.ref b23), (.ref b23)])) rfl (by rw [hml]; rfl) (Steps.refl _) (a := b23) (argsL := [(.ref b1)]) (rest := [(.ref b23)]) (lenOf pd_3 rfl) rfl (leW rfl) (hb hby at_118) (fun _ _ => ⟨rfl, e23, (by decide : 0 + 1 + 1 + 1 + 1 + 18 + 1 + 3 ≤ _), (by decide : 0 + 2 + 2 + 2 + 3 + 40 + 1 + 6 ≤ _)⟩)
  dsimp only [Pt.U, Pt.locs, Pt.cells, Pt.slots] at X25 l25 y25 z25 st25 hQ25
  subst l25 y25 z25
  obtain ⟨rfl, N25q, b25_0, b25_1, b25_2, hz_b25_0, hz_b25_1, hz_b25_2, ne_b25_0_b25_1, ne_b25_0_b25_2, ne_b25_1_b25_2, Kq25, f25_0, f25_1, f25_2, f25_3, f25_4, f25_5, f25_6, f25_7, f25_8, f25_9, f25_10, f25_11, f25_12, f25_13⟩ := hQ25
  have g_b25_0 : n0 ≤ b25_0 := Nat.le_trans Z23 hz_b25_0
  have sz_b25_0 : h0.size ≤ b25_0 := Nat.le_trans (K23).1 hz_b25_0
  have ne_b1_b25_0 : b1 ≠ b25_0 := Nat.ne_of_lt (Nat.lt_of_lt_of_le VR.lt hz_b25_0)
  have ne_b3_b25_0 : b3 ≠ b25_0 := Nat.ne_of_lt (Nat.lt_of_lt_of_le c24_5.lt hz_b25_0)
  have ne_b11_b25_0 : b11 ≠ b25_0 := Nat.ne_of_lt (Nat.lt_of_lt_of_le c24_8.lt hz_b25_0)
  have ne_b19_b25_0 : b19 ≠ b25_0 := Nat.ne_of_lt (Nat.lt_of_lt_of_le c24_11.lt hz_b25_0)
  have ne_b23_b25_0 : b23 ≠ b25_0 := Nat.ne_of_lt (Nat.lt_of_lt_of_le A23.lt hz_b25_0)
  have lt_b1_b25_0 : (b1 : Nat) < b25_0 := Nat.lt_of_lt_of_le VR.lt hz_b25_0
  have lt_b3_b25_0 : (b3 : Nat) < b25_0 := Nat.lt_of_lt_of_le c24_5.lt hz_b25_0
  have lt_b11_b25_0 : (b11 : Nat) < b25_0 := Nat.lt_of_lt_of_le c24_8.lt hz_b25_0
  have lt_b19_b25_0 : (b19 : Nat) < b25_0 := Nat.lt_of_lt_of_le c24_11.lt hz_b25_0
  have lt_b21_0_b25_0 : (b21_0 : Nat) + 9 ≤ b25_0 := Nat.le_trans c24_15.lt hz_b25_0
  have lt_b21_1_b25_0 : (b21_1 : Nat) + 9 ≤ b25_0 := Nat.le_trans c24_16.lt hz_b25_0
  have lt_b23_b25_0 : (b23 : Nat) < b25_0 := Nat.lt_of_lt_of_le A23.lt hz_b25_0
  have g_b25_1 : n0 ≤ b25_1 := Nat.le_trans Z23 hz_b25_1
  have sz_b25_1 : h0.size ≤ b25_1 := Nat.le_trans (K23).1 hz_b25_1
  have ne_b1_b25_1 : b1 ≠ b25_1 := Nat.ne_of_lt (Nat.lt_of_lt_of_le VR.lt hz_b25_1)
  have ne_b3_b25_1 : b3 ≠ b25_1 := Nat.ne_of_lt (Nat.lt_of_lt_of_le c24_5.lt hz_b25_1)
  have ne_b11_b25_1 : b11 ≠ b25_1 := Nat.ne_of_lt (Nat.lt_of_lt_of_le c24_8.lt hz_b25_1)
  have ne_b19_b25_1 : b19 ≠ b25_1 := Nat.ne_of_lt (Nat.lt_of_lt_of_le c24_11.lt hz_b25_1)
  have ne_b23_b25_1 : b23 ≠ b25_1 := Nat.ne_of_lt (Nat.lt_of_lt_of_le A23.lt hz_b25_1)
  have lt_b1_b25_1 : (b1 : Nat) < b25_1 := Nat.lt_of_lt_of_le VR.lt hz_b25_1
  have lt_b3_b25_1 : (b3 : Nat) < b25_1 := Nat.lt_of_lt_of_le c24_5.lt hz_b25_1
  have lt_b11_b25_1 : (b11 : Nat) < b25_1 := Nat.lt_of_lt_of_le c24_8.lt hz_b25_1
  have lt_b19_b25_1 : (b19 : Nat) < b25_1 := Nat.lt_of_lt_of_le c24_11.lt hz_b25_1
  have lt_b21_0_b25_1 : (b21_0 : Nat) + 9 ≤ b25_1 := Nat.le_trans c24_15.lt hz_b25_1
  have lt_b21_1_b25_1 : (b21_1 : Nat) + 9 ≤ b25_1 := Nat.le_trans c24_16.lt hz_b25_1
  have lt_b23_b25_1 : (b23 : Nat) < b25_1 := Nat.lt_of_lt_of_le A23.lt hz_b25_1
  have g_b25_2 : n0 ≤ b25_2 := Nat.le_trans Z23 hz_b25_2
  have sz_b25_2 : h0.size ≤ b25_2 := Nat.le_trans (K23).1 hz_b25_2
  have ne_b1_b25_2 : b1 ≠ b25_2 := Nat.ne_of_lt (Nat.lt_of_lt_of_le VR.lt hz_b25_2)
  have ne_b3_b25_2 : b3 ≠ b25_2 := Nat.ne_of_lt (Nat.lt_of_lt_of_le c24_5.lt hz_b25_2)
  have ne_b11_b25_2 : b11 ≠ b25_2 := Nat.ne_of_lt (Nat.lt_of_lt_of_le c24_8.lt hz_b25_2)
  have ne_b19_b25_2 : b19 ≠ b25_2 := Nat.ne_of_lt (Nat.lt_of_lt_of_le c24_11.lt hz_b25_2)
  have ne_b23_b25_2 : b23 ≠ b25_2 := Nat.ne_of_lt (Nat.lt_of_lt_of_le A23.lt hz_b25_2)
  have lt_b1_b25_2 : (b1 : Nat) < b25_2 := Nat.lt_of_lt_of_le VR.lt hz_b25_2
  have lt_b3_b25_2 : (b3 : Nat) < b25_2 := Nat.lt_of_lt_of_le c24_5.lt hz_b25_2
  have lt_b11_b25_2 : (b11 : Nat) < b25_2 := Nat.lt_of_lt_of_le c24_8.lt hz_b25_2
  have lt_b19_b25_2 : (b19 : Nat) < b25_2 := Nat.lt_of_lt_of_le c24_11.lt hz_b25_2
  have lt_b21_0_b25_2 : (b21_0 : Nat) + 9 ≤ b25_2 := Nat.le_trans c24_15.lt hz_b25_2
  have lt_b21_1_b25_2 : (b21_1 : Nat) + 9 ≤ b25_2 := Nat.le_trans c24_16.lt hz_b25_2
  have lt_b23_b25_2 : (b23 : Nat) < b25_2 := Nat.lt_of_lt_of_le A23.lt hz_b25_2
  have c26_2 := c24_2.keep Kq25
  have c26_3 := c24_3.keep Kq25
  have c26_11 := c24_11.keep Kq25
  have c26_12 := c24_12.keep Kq25 (ninS ne_b19_b23 nin0)
  have c26_13 := c24_13.keep Kq25 (ninS ne_b19_b23 nin0)
  have c26_14 := c24_14.keep Kq25 (ninS ne_b19_b23 nin0)
  have c26_15 := c24_15.keep Kq25 (allS (by omega) all0)
  have c26_16 := c24_16.keep Kq25 (allS (by omega) all0)
  have c26_17 := c24_17
  have K25 : Keep h0 T25.heap [] := K23.trans Kq25 (allS (Or.inr sz_b23) all0)
  have Z25 := Nat.le_trans Z23 Kq25.1
  have N25 := Fr.app N21 N25q
  refine Go.via (fun t k => st25.trans k) ?_
  refine Vi (T25.setTop (mkF m 129 #[sI p0, sI p1, sI p2, sI p3, sI xa, sI xb, sI xc, sI xd, sI rr, sI tt, sI pp, .val (.double dS), .second, .val (.double dM), .second, sR b1, sR b19, sR b23, .unset, .unset, .unset, .unset, .unset, .unset, .unset, .unset, .unset, .unset, .unset, .unset] [(.double dM), (.ref b23), (.ref b19)])) (fun tZ kZ => ?_) ?_
  · refine XS.astore X25.here hx rfl (hb hby at_121) rfl rfl (l' := #[sI p0, sI p1, sI p2, sI p3, sI xa, sI xb, sI xc, sI xd, sI rr, sI tt, sI pp, .val (.double dS), .second, .val (.double dM), .second, sR b1, sR b19, sR b23, .unset, .unset, .unset, .unset, .unset, .unset, .unset, .unset, .unset, .unset, .unset, .unset]) rfl ?_
    refine XS.aload X25.here hx rfl (hb hby at_123) rfl rfl ?_
    refine XS.aload X25.here hx rfl (hb hby at_125) rfl rfl ?_
    refine XS.dload X25.here hx rfl (hb hby at_127) rfl ?_
    exact kZ
  have VQ : AV Z T25.heap b25_0 (.array .int) 2 (own_b2 b25_1 b25_2) := f25_7.congr (fun j hj => by rcases (show j = 0 ∨ j = 1 by omega) with rfl | rfl <;> rfl)
  obtain ⟨cq27, kq27, q27a, q27b, q27c⟩ := isOf hZ rfl c26_11
  obtain ⟨_, _, ⟨T27, L27, k27, n27⟩, -, X27, ⟨Lc27, hQ27, l27, y27, z27⟩, st27⟩ := X25.virtualBack hx (y := y6) (z := y6) hown (wz hZ hw 50 rfl) (wz hZ hw 51 rfl) (notFace_of_selects (args := #[]) (wz hZ hw 53 rfl)) (wz hZ hw 53 rfl) (wz hZ hw 52 rfl) (by decide) (backOf (W := 0) (rm6 l Z a0 hw [] b19 b23 dM b21_1 (fun _ _ _ => (0 : UInt64)) b25_0 b25_1 b25_2 xa xb xc xd T25.heap n0 Z25 c26_11 c26_14 c26_16 g_b21_1 f25_0 f25_1 VQ f25_11 f25_10 f25_13 f25_12 ha hb_ hc_ hd_ (by omega) (by omega) (by omega) (by omega) (by omega) own_gb0 hM) hZ (wq hw 54 rfl) (wq hw 7 rfl) (by decide) (by decide)) q27a q27c (g := (mkF m 129 #[sI p0, sI p1, sI p2, sI p3, sI xa, sI xb, sI xc, sI xd, sI rr, sI tt, sI pp, .val (.double dS), .second, .val (.double dM), .second, sR b1, sR b19, sR b23, .unset, .unset, .unset, .unset, .unset, .unset, .unset, .unset, .unset, .unset, .unset, .unset] [(.double dM), (.ref b23), (.ref b19)])) rfl (by rw [hml]; rfl) (Steps.refl _) (argsL := [(.ref b23), (.double dM)]) (rest := []) (lenOf pd_5 rfl) rfl (leW rfl) (hb hby at_129) (fun _ _ => ⟨rfl, rfl, (by decide : 0 + 1 + 1 + 1 + 1 + 18 + 1 + 3 + 2 ≤ _), (by decide : 0 + 2 + 2 + 2 + 3 + 40 + 1 + 6 + 4 ≤ _)⟩)
  dsimp only [Pt.U, Pt.locs, Pt.cells, Pt.slots] at X27 l27 y27 z27 st27 hQ27
  subst l27 y27 z27
  obtain ⟨rfl, N27q, Kq27, f27_0, f27_1, f27_2, f27_3, f27_4, f27_5, f27_6, f27_7, f27_8, f27_9⟩ := hQ27
  have c28_1 := f25_4.keep Kq27 (ninS (own_na (by omega)) (ninS (own_na (by omega)) (ninS (own_na (by omega)) (ninS (own_na (by omega)) nin0))))
  have c28_2 := c26_2.keep Kq27
  have c28_3 := c26_3.keep Kq27
  have c28_5 := f25_2.keep Kq27
  have c28_6 := f25_5.keep Kq27 (ninS (own_na (by omega)) (ninS (own_na (by omega)) (ninS (own_na (by omega)) (ninS (own_na (by omega)) nin0))))
  have c28_8 := f25_3.keep Kq27
  have c28_9 := f25_6.keep Kq27 (ninS (own_na (by omega)) (ninS (own_na (by omega)) (ninS (own_na (by omega)) (ninS (own_na (by omega)) nin0))))
  have c28_12 := c26_12.keep Kq27 (ninS (own_na (by omega)) (ninS (own_na (by omega)) (ninS (own_na (by omega)) (ninS (own_na (by omega)) nin0))))
  have c28_13 := c26_13.keep Kq27 (ninS (own_na (by omega)) (ninS (own_na (by omega)) (ninS (own_na (by omega)) (ninS (own_na (by omega)) nin0))))
  have c28_15 := c26_15.keep Kq27 (allS (by omega) (allS (by omega) (allS (by omega) (allS (by omega) all0))))
  have c28_17 := c26_17
  have c28_24 := f25_8.keep Kq27
  have c28_25 := f25_9.keep Kq27
  have K27 : Keep h0 T27.heap [] := K25.trans Kq27 (allS (Or.inr (Nat.le_trans sz_b21_1 (show b21_1 ≤ (b21_1 + 2 + 4 * 0 + 0) by omega))) (allS (Or.inr (Nat.le_trans sz_b21_1 (show b21_1 ≤ (b21_1 + 2 + 4 * 0 + (xa + (1 : Int32)).toNatClampNeg) by omega))) (allS (Or.inr (Nat.le_trans sz_b21_1 (show b21_1 ≤ (b21_1 + 2 + 4 * 1 + 0) by omega))) (allS (Or.inr (Nat.le_trans sz_b21_1 (show b21_1 ≤ (b21_1 + 2 + 4 * 1 + (xc + (1 : Int32)).toNatClampNeg) by omega))) all0))))
  have Z27 := Nat.le_trans Z25 Kq27.1
  have N27 := Fr.app N25 N27q
  refine Go.via (fun t k => st27.trans k) ?_
  refine Vi (T27.setTop (mkF m 134 #[sI p0, sI p1, sI p2, sI p3, sI xa, sI xb, sI xc, sI xd, sI rr, sI tt, sI pp, .val (.double dS), .second, .val (.double dM), .second, sR b1, sR b19, sR b23, .unset, .unset, .unset, .unset, .unset, .unset, .unset, .unset, .unset, .unset, .unset, .unset] [(.ref b19)])) (fun tZ kZ => ?_) ?_
  · refine XS.aload X27.here hx rfl (hb hby at_132) rfl rfl ?_
    exact kZ
  obtain ⟨f0, e_f0⟩ : ∃ z, z = (fun _ _ _ => dS) := ⟨_, rfl⟩
  have G_f0 : Gd Z T27.heap b21_0 f0 := by rw [e_f0]; exact c28_15
  obtain ⟨g0, e_g0⟩ : ∃ z, z = (own_d1 (own_d1 (own_d1 (own_d1 (fun _ _ _ => (0 : UInt64)) 0 0 xa.toNatClampNeg dM) 0 (xa + (1 : Int32)).toNatClampNeg xb.toNatClampNeg dM) 1 0 xc.toNatClampNeg dM) 1 (xc + (1 : Int32)).toNatClampNeg xd.toNatClampNeg dM) := ⟨_, rfl⟩
  have G_g0 : Gd Z T27.heap b21_1 g0 := by rw [e_g0]; exact f27_2
  have b_f0 : GB 1070 f0 := by rw [e_f0]; exact fun _ _ _ => hS.mono (by decide)
  have b_g0 : GB 1070 g0 := by rw [e_g0]; exact ((((own_gb0.d1 _ _ _ hM (by decide)).d1 _ _ _ (hM.mono (by decide)) (by decide)).d1 _ _ _ (hM.mono (by decide)) (by decide)).d1 _ _ _ (hM.mono (by decide)) (by decide)).mono (by decide)
  obtain ⟨cq29, kq29, q29a, q29b, q29c⟩ := isOf hZ rfl f27_0
  obtain ⟨_, _, ⟨T29, L29, k29, n29⟩, -, X29, ⟨Lc29, hQ29, l29, y29, z29⟩, st29⟩ := X27.virtualBack hx (y := y9) (z := y9) hown (wz hZ hw 65 rfl) (wz hZ hw 66 rfl) (notFace_of_selects (args := #[]) (wz hZ hw 68 rfl)) (wz hZ hw 68 rfl) (wz hZ hw 67 rfl) (by decide) (backOf (W := 0) (rm9 l Z a0 hw [] b19 b21_0 b21_1 f0 g0 T27.heap n0 Z27 f27_0 c28_13 f27_1 G_f0 G_g0 g_b21_0 g_b21_1 (by omega) (by omega) (by omega) (own_nnG b_f0 b_g0 (by decide))) hZ (wq hw 69 rfl) (wq hw 7 rfl) (by decide) (by decide)) q29a q29c (g := (mkF m 134 #[sI p0, sI p1, sI p2, sI p3, sI xa, sI xb, sI xc, sI xd, sI rr, sI tt, sI pp, .val (.double dS), .second, .val (.double dM), .second, sR b1, sR b19, sR b23, .unset, .unset, .unset, .unset, .unset, .unset, .unset, .unset, .unset, .unset, .unset, .unset] [(.ref b19)])) rfl (by rw [hml]; rfl) (Steps.refl _) (argsL := []) (rest := []) (lenOf pd_1 rfl) rfl (leW rfl) (hb hby at_134) (fun _ _ => ⟨rfl, rfl, (by decide : 0 + 1 + 1 + 1 + 1 + 18 + 1 + 3 + 2 + 0 ≤ _), (by decide : 0 + 2 + 2 + 2 + 3 + 40 + 1 + 6 + 4 + 0 ≤ _)⟩)
  dsimp only [Pt.U, Pt.locs, Pt.cells, Pt.slots] at X29 l29 y29 z29 st29 hQ29
  subst l29 y29 z29
  obtain ⟨rfl, N29q, Kq29, f29_0, f29_1, f29_2, f29_3, f29_4⟩ := hQ29
  have c30_1 := c28_1.keep Kq29 (ninS (own_na (by omega)) (ninS (own_na (by omega)) (ninS (own_na (by omega)) (ninS (own_na (by omega)) (ninS (own_na (by omega)) (ninS (own_na (by omega)) (ninS (own_na (by omega)) (ninS (own_na (by omega)) (ninS (own_na (by omega)) (ninS (own_na (by omega)) (ninS (own_na (by omega)) (ninS (own_na (by omega)) nin0))))))))))))
  have c30_2 := c28_2.keep Kq29
  have c30_3 := c28_3.keep Kq29
  have c30_5 := c28_5.keep Kq29
  have c30_6 := c28_6.keep Kq29 (ninS (own_na (by omega)) (ninS (own_na (by omega)) (ninS (own_na (by omega)) (ninS (own_na (by omega)) (ninS (own_na (by omega)) (ninS (own_na (by omega)) (ninS (own_na (by omega)) (ninS (own_na (by omega)) (ninS (own_na (by omega)) (ninS (own_na (by omega)) (ninS (own_na (by omega)) (ninS (own_na (by omega)) nin0))))))))))))
  have c30_8 := c28_8.keep Kq29
  have c30_9 := c28_9.keep Kq29 (ninS (own_na (by omega)) (ninS (own_na (by omega)) (ninS (own_na (by omega)) (ninS (own_na (by omega)) (ninS (own_na (by omega)) (ninS (own_na (by omega)) (ninS (own_na (by omega)) (ninS (own_na (by omega)) (ninS (own_na (by omega)) (ninS (own_na (by omega)) (ninS (own_na (by omega)) (ninS (own_na (by omega)) nin0))))))))))))
  have c30_12 := c28_12.keep Kq29 (ninS (own_na (by omega)) (ninS (own_na (by omega)) (ninS (own_na (by omega)) (ninS (own_na (by omega)) (ninS (own_na (by omega)) (ninS (own_na (by omega)) (ninS (own_na (by omega)) (ninS (own_na (by omega)) (ninS (own_na (by omega)) (ninS (own_na (by omega)) (ninS (own_na (by omega)) (ninS (own_na (by omega)) nin0))))))))))))
  have c30_17 := c28_17
  have c30_21 := f27_3.keep Kq29
  have c30_22 := f27_4.keep Kq29 (ninS (own_na (by omega)) (ninS (own_na (by omega)) (ninS (own_na (by omega)) (ninS (own_na (by omega)) (ninS (own_na (by omega)) (ninS (own_na (by omega)) (ninS (own_na (by omega)) (ninS (own_na (by omega)) (ninS (own_na (by omega)) (ninS (own_na (by omega)) (ninS (own_na (by omega)) (ninS (own_na (by omega)) nin0))))))))))))
  have c30_23 := f27_5.keep Kq29 (ninS (own_na (by omega)) (ninS (own_na (by omega)) (ninS (own_na (by omega)) (ninS (own_na (by omega)) (ninS (own_na (by omega)) (ninS (own_na (by omega)) (ninS (own_na (by omega)) (ninS (own_na (by omega)) (ninS (own_na (by omega)) (ninS (own_na (by omega)) (ninS (own_na (by omega)) (ninS (own_na (by omega)) nin0))))))))))))
  have c30_24 := c28_24.keep Kq29
  have c30_25 := c28_25.keep Kq29
  have c30_26 := f27_7.keep Kq29 (ninS (own_na (by omega)) (ninS (own_na (by omega)) (ninS (own_na (by omega)) (ninS (own_na (by omega)) (ninS (own_na (by omega)) (ninS (own_na (by omega)) (ninS (own_na (by omega)) (ninS (own_na (by omega)) (ninS (own_na (by omega)) (ninS (own_na (by omega)) (ninS (own_na (by omega)) (ninS (own_na (by omega)) nin0))))))))))))
  have c30_27 := f27_6.keep Kq29
  have c30_28 := f27_9.keep Kq29 (ninS (own_na (by omega)) (ninS (own_na (by omega)) (ninS (own_na (by omega)) (ninS (own_na (by omega)) (ninS (own_na (by omega)) (ninS (own_na (by omega)) (ninS (own_na (by omega)) (ninS (own_na (by omega)) (ninS (own_na (by omega)) (ninS (own_na (by omega)) (ninS (own_na (by omega)) (ninS (own_na (by omega)) nin0))))))))))))
  have c30_29 := f27_8.keep Kq29
  have K29 : Keep h0 T29.heap [] := K27.trans Kq29 (allS (Or.inr (Nat.le_trans sz_b21_0 (show b21_0 ≤ (b21_0 + 2 + 4 * 0 + 0) by omega))) (allS (Or.inr (Nat.le_trans sz_b21_1 (show b21_1 ≤ (b21_1 + 2 + 4 * 0 + 0) by omega))) (allS (Or.inr (Nat.le_trans sz_b21_0 (show b21_0 ≤ (b21_0 + 2 + 4 * 0 + 1) by omega))) (allS (Or.inr (Nat.le_trans sz_b21_1 (show b21_1 ≤ (b21_1 + 2 + 4 * 0 + 1) by omega))) (allS (Or.inr (Nat.le_trans sz_b21_0 (show b21_0 ≤ (b21_0 + 2 + 4 * 0 + 2) by omega))) (allS (Or.inr (Nat.le_trans sz_b21_1 (show b21_1 ≤ (b21_1 + 2 + 4 * 0 + 2) by omega))) (allS (Or.inr (Nat.le_trans sz_b21_0 (show b21_0 ≤ (b21_0 + 2 + 4 * 1 + 0) by omega))) (allS (Or.inr (Nat.le_trans sz_b21_1 (show b21_1 ≤ (b21_1 + 2 + 4 * 1 + 0) by omega))) (allS (Or.inr (Nat.le_trans sz_b21_0 (show b21_0 ≤ (b21_0 + 2 + 4 * 1 + 1) by omega))) (allS (Or.inr (Nat.le_trans sz_b21_1 (show b21_1 ≤ (b21_1 + 2 + 4 * 1 + 1) by omega))) (allS (Or.inr (Nat.le_trans sz_b21_0 (show b21_0 ≤ (b21_0 + 2 + 4 * 1 + 2) by omega))) (allS (Or.inr (Nat.le_trans sz_b21_1 (show b21_1 ≤ (b21_1 + 2 + 4 * 1 + 2) by omega))) all0))))))))))))
  have Z29 := Nat.le_trans Z27 Kq29.1
  have N29 := Fr.app N27 N29q
  refine Go.via (fun t k => st29.trans k) ?_
  obtain ⟨f1, e_f1⟩ : ∃ z, z = (fun i j k => FP.dadd (FP.dmul (4606732058837280358 : UInt64) (f0 i j k)) (g0 i j k)) := ⟨_, rfl⟩
  have G_f1 : Gd Z T29.heap b21_0 f1 := by rw [e_f1]; exact f29_3
  obtain ⟨g1_, e_g1_⟩ : ∃ z, z = (fun _ _ _ => FP.dconst0) := ⟨_, rfl⟩
  have G_g1_ : Gd Z T29.heap b21_1 g1_ := by rw [e_g1_]; exact f29_4
  have b_f1 : GB 1073 f1 := by rw [e_f1]; exact own_gbU b_f0 b_g0 (by decide)
  have b_g1 : GB 1073 g1_ := by rw [e_g1_]; exact fun _ _ _ => own_m0.mono (by decide)
  refine Vi (T29.setTop (mkF m 147 #[sI p0, sI p1, sI p2, sI p3, sI xa, sI xb, sI xc, sI xd, sI rr, sI tt, sI pp, .val (.double dS), .second, .val (.double dM), .second, sR b1, sR b19, sR b23, .unset, .unset, .unset, .unset, .unset, .unset, .unset, .unset, .unset, .unset, .unset, .unset] [(.int tt), (.int (pp - (1 : Int32))), (.int rr), (.ref b19)])) (fun tZ kZ => ?_) ?_
  · refine XS.aload X29.here hx rfl (hb hby at_137) rfl rfl ?_
    refine XS.iload X29.here hx rfl (hb hby at_139) rfl ?_
    refine XS.iload X29.here hx rfl (hb hby at_141) rfl ?_
    refine XS.iconst X29.here hx rfl (hb hby at_143) ?_
    refine XS.isub X29.here hx rfl (hb hby at_144) rfl ?_
    refine XS.iload X29.here hx rfl (hb hby at_145) rfl ?_
    exact kZ
  obtain ⟨cq31, kq31, q31a, q31b, q31c⟩ := isOf hZ rfl f29_0
  obtain ⟨_, _, ⟨T31, L31, k31, n31⟩, -, X31, ⟨Lc31, hQ31, l31, y31, z31⟩, st31⟩ := X29.virtualBack hx (y := y10) (z := y10) hown (wz hZ hw 71 rfl) (wz hZ hw 72 rfl) (notFace_of_selects (args := #[]) (wz hZ hw 74 rfl)) (wz hZ hw 74 rfl) (wz hZ hw 73 rfl) (by decide) (backOf (W := 0) (rm10 l Z a0 hw [] b19 rr (pp - (1 : Int32)) tt b21_0 f1 T29.heap n0 Z29 f29_0 f29_1 G_f1 (own_xb hr) (own_p3 hp) (own_xb ht)) hZ (wq hw 75 rfl) (wq hw 7 rfl) (by decide) (by decide)) q31a q31c (g := (mkF m 147 #[sI p0, sI p1, sI p2, sI p3, sI xa, sI xb, sI xc, sI xd, sI rr, sI tt, sI pp, .val (.double dS), .second, .val (.double dM), .second, sR b1, sR b19, sR b23, .unset, .unset, .unset, .unset, .unset, .unset, .unset, .unset, .unset, .unset, .unset, .unset] [(.int tt), (.int (pp - (1 : Int32))), (.int rr), (.ref b19)])) rfl (by rw [hml]; rfl) (Steps.refl _) (argsL := [(.int rr), (.int (pp - (1 : Int32))), (.int tt)]) (rest := []) (lenOf pd_8 rfl) rfl (leW rfl) (hb hby at_147) (fun _ _ => ⟨rfl, rfl, (by decide : 0 + 1 + 1 + 1 + 1 + 18 + 1 + 3 + 2 + 0 + 0 ≤ _), (by decide : 0 + 2 + 2 + 2 + 3 + 40 + 1 + 6 + 4 + 0 + 0 ≤ _)⟩)
  dsimp only [Pt.U, Pt.locs, Pt.cells, Pt.slots] at X31 l31 y31 z31 st31 hQ31
  subst l31 y31 z31
  obtain ⟨rfl, N31q, e31⟩ := hQ31
  have N31 := Fr.app N29 N31q
  refine Go.via (fun t k => st31.trans k) ?_
  refine Vi (T31.setTop (mkF m 152 #[sI p0, sI p1, sI p2, sI p3, sI xa, sI xb, sI xc, sI xd, sI rr, sI tt, sI pp, .val (.double dS), .second, .val (.double dM), .second, sR b1, sR b19, sR b23, .val (.double (f10 b19 rr (pp - (1 : Int32)) tt b21_0 f1)), .second, .unset, .unset, .unset, .unset, .unset, .unset, .unset, .unset, .unset, .unset] [])) (fun tZ kZ => ?_) ?_
  · refine XS.dstore X31.here hx rfl (hb hby at_150) rfl (l' := #[sI p0, sI p1, sI p2, sI p3, sI xa, sI xb, sI xc, sI xd, sI rr, sI tt, sI pp, .val (.double dS), .second, .val (.double dM), .second, sR b1, sR b19, sR b23, .val (.double (f10 b19 rr (pp - (1 : Int32)) tt b21_0 f1)), .second, .unset, .unset, .unset, .unset, .unset, .unset, .unset, .unset, .unset, .unset]) rfl ?_
    exact kZ
  obtain ⟨v1, e_v1⟩ : ∃ z, z = (f10 b19 rr (pp - (1 : Int32)) tt b21_0 f1) := ⟨_, rfl⟩
  rw [← e_v1]
  show Go p e below _ (T31.setTop (mkF m 152 #[sI p0, sI p1, sI p2, sI p3, sI xa, sI xb, sI xc, sI xd, sI rr, sI tt, sI pp, .val (.double dS), .second, .val (.double dM), .second, sR b1, sR b19, sR b23, .val (.double v1), .second, .unset, .unset, .unset, .unset, .unset, .unset, .unset, .unset, .unset, .unset] []))
  refine Vi (T31.setTop (mkF m 154 #[sI p0, sI p1, sI p2, sI p3, sI xa, sI xb, sI xc, sI xd, sI rr, sI tt, sI pp, .val (.double dS), .second, .val (.double dM), .second, sR b1, sR b19, sR b23, .val (.double v1), .second, .unset, .unset, .unset, .unset, .unset, .unset, .unset, .unset, .unset, .unset] [(.ref b19)])) (fun tZ kZ => ?_) ?_
  · refine XS.aload X31.here hx rfl (hb hby at_152) rfl rfl ?_
    exact kZ
  obtain ⟨cq32, kq32, q32a, q32b, q32c⟩ := isOf hZ e31 f29_0
  obtain ⟨_, _, ⟨T32, L32, k32, n32⟩, -, X32, ⟨Lc32, hQ32, l32, y32, z32⟩, st32⟩ := X31.virtualBack hx (y := y9) (z := y9) hown (wz hZ hw 65 rfl) (wz hZ hw 66 rfl) (notFace_of_selects (args := #[]) (wz hZ hw 68 rfl)) (wz hZ hw 68 rfl) (wz hZ hw 67 rfl) (by decide) (backOf (W := 0) (rm9 l Z a0 hw [] b19 b21_0 b21_1 f1 g1_ T29.heap n0 Z29 f29_0 f29_1 f29_2 G_f1 G_g1_ g_b21_0 g_b21_1 (by omega) (by omega) (by omega) (own_nnG b_f1 b_g1 (by decide))) hZ (wq hw 69 rfl) (wq hw 7 rfl) (by decide) (by decide)) q32a q32c (g := (mkF m 154 #[sI p0, sI p1, sI p2, sI p3, sI xa, sI xb, sI xc, sI xd, sI rr, sI tt, sI pp, .val (.double dS), .second, .val (.double dM), .second, sR b1, sR b19, sR b23, .val (.double v1), .second, .unset, .unset, .unset, .unset, .unset, .unset, .unset, .unset, .unset, .unset] [(.ref b19)])) rfl (by rw [hml]; rfl) (Steps.refl _) (argsL := []) (rest := []) (lenOf pd_1 rfl) rfl (leW rfl) (hb hby at_154) (fun _ _ => ⟨rfl, e31, (by decide : 0 + 1 + 1 + 1 + 1 + 18 + 1 + 3 + 2 + 0 + 0 + 0 ≤ _), (by decide : 0 + 2 + 2 + 2 + 3 + 40 + 1 + 6 + 4 + 0 + 0 + 0 ≤ _)⟩)
  dsimp only [Pt.U, Pt.locs, Pt.cells, Pt.slots] at X32 l32 y32 z32 st32 hQ32
  subst l32 y32 z32
  obtain ⟨rfl, N32q, Kq32, f32_0, f32_1, f32_2, f32_3, f32_4⟩ := hQ32
  have c33_1 := c30_1.keep Kq32 (ninS (own_na (by omega)) (ninS (own_na (by omega)) (ninS (own_na (by omega)) (ninS (own_na (by omega)) (ninS (own_na (by omega)) (ninS (own_na (by omega)) (ninS (own_na (by omega)) (ninS (own_na (by omega)) (ninS (own_na (by omega)) (ninS (own_na (by omega)) (ninS (own_na (by omega)) (ninS (own_na (by omega)) nin0))))))))))))
  have c33_2 := c30_2.keep Kq32
  have c33_3 := c30_3.keep Kq32
  have c33_5 := c30_5.keep Kq32
  have c33_6 := c30_6.keep Kq32 (ninS (own_na (by omega)) (ninS (own_na (by omega)) (ninS (own_na (by omega)) (ninS (own_na (by omega)) (ninS (own_na (by omega)) (ninS (own_na (by omega)) (ninS (own_na (by omega)) (ninS (own_na (by omega)) (ninS (own_na (by omega)) (ninS (own_na (by omega)) (ninS (own_na (by omega)) (ninS (own_na (by omega)) nin0))))))))))))
  have c33_8 := c30_8.keep Kq32
  have c33_9 := c30_9.keep Kq32 (ninS (own_na (by omega)) (ninS (own_na (by omega)) (ninS (own_na (by omega)) (ninS (own_na (by omega)) (ninS (own_na (by omega)) (ninS (own_na (by omega)) (ninS (own_na (by omega)) (ninS (own_na (by omega)) (ninS (own_na (by omega)) (ninS (own_na (by omega)) (ninS (own_na (by omega)) (ninS (own_na (by omega)) nin0))))))))))))
  have c33_12 := c30_12.keep Kq32 (ninS (own_na (by omega)) (ninS (own_na (by omega)) (ninS (own_na (by omega)) (ninS (own_na (by omega)) (ninS (own_na (by omega)) (ninS (own_na (by omega)) (ninS (own_na (by omega)) (ninS (own_na (by omega)) (ninS (own_na (by omega)) (ninS (own_na (by omega)) (ninS (own_na (by omega)) (ninS (own_na (by omega)) nin0))))))))))))
  have c33_17 := c30_17
  have c33_21 := c30_21.keep Kq32
  have c33_22 := c30_22.keep Kq32 (ninS (own_na (by omega)) (ninS (own_na (by omega)) (ninS (own_na (by omega)) (ninS (own_na (by omega)) (ninS (own_na (by omega)) (ninS (own_na (by omega)) (ninS (own_na (by omega)) (ninS (own_na (by omega)) (ninS (own_na (by omega)) (ninS (own_na (by omega)) (ninS (own_na (by omega)) (ninS (own_na (by omega)) nin0))))))))))))
  have c33_23 := c30_23.keep Kq32 (ninS (own_na (by omega)) (ninS (own_na (by omega)) (ninS (own_na (by omega)) (ninS (own_na (by omega)) (ninS (own_na (by omega)) (ninS (own_na (by omega)) (ninS (own_na (by omega)) (ninS (own_na (by omega)) (ninS (own_na (by omega)) (ninS (own_na (by omega)) (ninS (own_na (by omega)) (ninS (own_na (by omega)) nin0))))))))))))
  have c33_24 := c30_24.keep Kq32
  have c33_25 := c30_25.keep Kq32
  have c33_26 := c30_26.keep Kq32 (ninS (own_na (by omega)) (ninS (own_na (by omega)) (ninS (own_na (by omega)) (ninS (own_na (by omega)) (ninS (own_na (by omega)) (ninS (own_na (by omega)) (ninS (own_na (by omega)) (ninS (own_na (by omega)) (ninS (own_na (by omega)) (ninS (own_na (by omega)) (ninS (own_na (by omega)) (ninS (own_na (by omega)) nin0))))))))))))
  have c33_27 := c30_27.keep Kq32
  have c33_28 := c30_28.keep Kq32 (ninS (own_na (by omega)) (ninS (own_na (by omega)) (ninS (own_na (by omega)) (ninS (own_na (by omega)) (ninS (own_na (by omega)) (ninS (own_na (by omega)) (ninS (own_na (by omega)) (ninS (own_na (by omega)) (ninS (own_na (by omega)) (ninS (own_na (by omega)) (ninS (own_na (by omega)) (ninS (own_na (by omega)) nin0))))))))))))
  have c33_29 := c30_29.keep Kq32
  have K32 : Keep h0 T32.heap [] := K29.trans Kq32 (allS (Or.inr (Nat.le_trans sz_b21_0 (show b21_0 ≤ (b21_0 + 2 + 4 * 0 + 0) by omega))) (allS (Or.inr (Nat.le_trans sz_b21_1 (show b21_1 ≤ (b21_1 + 2 + 4 * 0 + 0) by omega))) (allS (Or.inr (Nat.le_trans sz_b21_0 (show b21_0 ≤ (b21_0 + 2 + 4 * 0 + 1) by omega))) (allS (Or.inr (Nat.le_trans sz_b21_1 (show b21_1 ≤ (b21_1 + 2 + 4 * 0 + 1) by omega))) (allS (Or.inr (Nat.le_trans sz_b21_0 (show b21_0 ≤ (b21_0 + 2 + 4 * 0 + 2) by omega))) (allS (Or.inr (Nat.le_trans sz_b21_1 (show b21_1 ≤ (b21_1 + 2 + 4 * 0 + 2) by omega))) (allS (Or.inr (Nat.le_trans sz_b21_0 (show b21_0 ≤ (b21_0 + 2 + 4 * 1 + 0) by omega))) (allS (Or.inr (Nat.le_trans sz_b21_1 (show b21_1 ≤ (b21_1 + 2 + 4 * 1 + 0) by omega))) (allS (Or.inr (Nat.le_trans sz_b21_0 (show b21_0 ≤ (b21_0 + 2 + 4 * 1 + 1) by omega))) (allS (Or.inr (Nat.le_trans sz_b21_1 (show b21_1 ≤ (b21_1 + 2 + 4 * 1 + 1) by omega))) (allS (Or.inr (Nat.le_trans sz_b21_0 (show b21_0 ≤ (b21_0 + 2 + 4 * 1 + 2) by omega))) (allS (Or.inr (Nat.le_trans sz_b21_1 (show b21_1 ≤ (b21_1 + 2 + 4 * 1 + 2) by omega))) all0))))))))))))
  have Z32 := Nat.le_trans Z29 Kq32.1
  have N32 := Fr.app N31 N32q
  refine Go.via (fun t k => st32.trans k) ?_
  obtain ⟨f2, e_f2⟩ : ∃ z, z = (fun i j k => FP.dadd (FP.dmul (4606732058837280358 : UInt64) (f1 i j k)) (g1_ i j k)) := ⟨_, rfl⟩
  have G_f2 : Gd Z T32.heap b21_0 f2 := by rw [e_f2]; exact f32_3
  refine Vi (T32.setTop (mkF m 167 #[sI p0, sI p1, sI p2, sI p3, sI xa, sI xb, sI xc, sI xd, sI rr, sI tt, sI pp, .val (.double dS), .second, .val (.double dM), .second, sR b1, sR b19, sR b23, .val (.double v1), .second, .unset, .unset, .unset, .unset, .unset, .unset, .unset, .unset, .unset, .unset] [(.int tt), (.int (pp - (1 : Int32))), (.int rr), (.ref b19)])) (fun tZ kZ => ?_) ?_
  · refine XS.aload X32.here hx rfl (hb hby at_157) rfl rfl ?_
    refine XS.iload X32.here hx rfl (hb hby at_159) rfl ?_
    refine XS.iload X32.here hx rfl (hb hby at_161) rfl ?_
    refine XS.iconst X32.here hx rfl (hb hby at_163) ?_
    refine XS.isub X32.here hx rfl (hb hby at_164) rfl ?_
    refine XS.iload X32.here hx rfl (hb hby at_165) rfl ?_
    exact kZ
  obtain ⟨cq34, kq34, q34a, q34b, q34c⟩ := isOf hZ rfl f32_0
  obtain ⟨_, _, ⟨T34, L34, k34, n34⟩, -, X34, ⟨Lc34, hQ34, l34, y34, z34⟩, st34⟩ := X32.virtualBack hx (y := y10) (z := y10) hown (wz hZ hw 71 rfl) (wz hZ hw 72 rfl) (notFace_of_selects (args := #[]) (wz hZ hw 74 rfl)) (wz hZ hw 74 rfl) (wz hZ hw 73 rfl) (by decide) (backOf (W := 0) (rm10 l Z a0 hw [] b19 rr (pp - (1 : Int32)) tt b21_0 f2 T32.heap n0 Z32 f32_0 f32_1 G_f2 (own_xb hr) (own_p3 hp) (own_xb ht)) hZ (wq hw 75 rfl) (wq hw 7 rfl) (by decide) (by decide)) q34a q34c (g := (mkF m 167 #[sI p0, sI p1, sI p2, sI p3, sI xa, sI xb, sI xc, sI xd, sI rr, sI tt, sI pp, .val (.double dS), .second, .val (.double dM), .second, sR b1, sR b19, sR b23, .val (.double v1), .second, .unset, .unset, .unset, .unset, .unset, .unset, .unset, .unset, .unset, .unset] [(.int tt), (.int (pp - (1 : Int32))), (.int rr), (.ref b19)])) rfl (by rw [hml]; rfl) (Steps.refl _) (argsL := [(.int rr), (.int (pp - (1 : Int32))), (.int tt)]) (rest := []) (lenOf pd_8 rfl) rfl (leW rfl) (hb hby at_167) (fun _ _ => ⟨rfl, rfl, (by decide : 0 + 1 + 1 + 1 + 1 + 18 + 1 + 3 + 2 + 0 + 0 + 0 + 0 ≤ _), (by decide : 0 + 2 + 2 + 2 + 3 + 40 + 1 + 6 + 4 + 0 + 0 + 0 + 0 ≤ _)⟩)
  dsimp only [Pt.U, Pt.locs, Pt.cells, Pt.slots] at X34 l34 y34 z34 st34 hQ34
  subst l34 y34 z34
  obtain ⟨rfl, N34q, e34⟩ := hQ34
  have N34 := Fr.app N32 N34q
  refine Go.via (fun t k => st34.trans k) ?_
  refine Vi (T34.setTop (mkF m 172 #[sI p0, sI p1, sI p2, sI p3, sI xa, sI xb, sI xc, sI xd, sI rr, sI tt, sI pp, .val (.double dS), .second, .val (.double dM), .second, sR b1, sR b19, sR b23, .val (.double v1), .second, .val (.double (f10 b19 rr (pp - (1 : Int32)) tt b21_0 f2)), .second, .unset, .unset, .unset, .unset, .unset, .unset, .unset, .unset] [])) (fun tZ kZ => ?_) ?_
  · refine XS.dstore X34.here hx rfl (hb hby at_170) rfl (l' := #[sI p0, sI p1, sI p2, sI p3, sI xa, sI xb, sI xc, sI xd, sI rr, sI tt, sI pp, .val (.double dS), .second, .val (.double dM), .second, sR b1, sR b19, sR b23, .val (.double v1), .second, .val (.double (f10 b19 rr (pp - (1 : Int32)) tt b21_0 f2)), .second, .unset, .unset, .unset, .unset, .unset, .unset, .unset, .unset]) rfl ?_
    exact kZ
  obtain ⟨v2, e_v2⟩ : ∃ z, z = (f10 b19 rr (pp - (1 : Int32)) tt b21_0 f2) := ⟨_, rfl⟩
  rw [← e_v2]
  show Go p e below _ (T34.setTop (mkF m 172 #[sI p0, sI p1, sI p2, sI p3, sI xa, sI xb, sI xc, sI xd, sI rr, sI tt, sI pp, .val (.double dS), .second, .val (.double dM), .second, sR b1, sR b19, sR b23, .val (.double v1), .second, .val (.double v2), .second, .unset, .unset, .unset, .unset, .unset, .unset, .unset, .unset] []))
  refine Vi (T34.setTop (mkF m 186 #[sI p0, sI p1, sI p2, sI p3, sI xa, sI xb, sI xc, sI xd, sI rr, sI tt, sI pp, .val (.double dS), .second, .val (.double dM), .second, sR b1, sR b19, sR b23, .val (.double v1), .second, .val (.double v2), .second, sI (if rr = (0 : Int32) then xa else xc), .unset, .unset, .unset, .unset, .unset, .unset, .unset] [])) (fun tZ kZ => ?_) ?_
  · refine XS.iload X34.here hx rfl (hb hby at_172) rfl ?_
    have sg174 : Steps p.tables e below (T34.setTop (mkF m 184 #[sI p0, sI p1, sI p2, sI p3, sI xa, sI xb, sI xc, sI xd, sI rr, sI tt, sI pp, .val (.double dS), .second, .val (.double dM), .second, sR b1, sR b19, sR b23, .val (.double v1), .second, .val (.double v2), .second, .unset, .unset, .unset, .unset, .unset, .unset, .unset, .unset] [(.int (if rr = (0 : Int32) then xa else xc))])) tZ → Steps p.tables e below (T34.setTop (mkF m 174 #[sI p0, sI p1, sI p2, sI p3, sI xa, sI xb, sI xc, sI xd, sI rr, sI tt, sI pp, .val (.double dS), .second, .val (.double dM), .second, sR b1, sR b19, sR b23, .val (.double v1), .second, .val (.double v2), .second, .unset, .unset, .unset, .unset, .unset, .unset, .unset, .unset] [(.int rr)])) tZ := by
      intro kj
      by_cases hc174 : rr = (0 : Int32)
      · try simp only [if_pos hc174] at kj
        refine XS.ifNo X34.here hx rfl (hb hby at_174) rfl ((if0 _ _).trans (teq hc174).2) ?_
        refine XS.iload X34.here hx rfl (hb hby at_177) rfl ?_
        refine XS.goto X34.here hx rfl (pc0 := 179) (pc' := 184) rfl (hb hby at_179) (by decide) (by decide) ?_
        exact kj
      · try simp only [if_neg hc174] at kj
        refine XS.ifYes X34.here hx rfl (pc0 := 174) (pc' := 182) rfl (hb hby at_174) rfl ((if0 _ _).trans (feq hc174).2) (by decide) (by decide) ?_
        refine XS.iload X34.here hx rfl (hb hby at_182) rfl ?_
        exact kj
    refine sg174 ?_
    show Steps p.tables e below (T34.setTop (mkF m 184 #[sI p0, sI p1, sI p2, sI p3, sI xa, sI xb, sI xc, sI xd, sI rr, sI tt, sI pp, .val (.double dS), .second, .val (.double dM), .second, sR b1, sR b19, sR b23, .val (.double v1), .second, .val (.double v2), .second, .unset, .unset, .unset, .unset, .unset, .unset, .unset, .unset] [(.int (if rr = (0 : Int32) then xa else xc))])) _
    refine XS.istore X34.here hx rfl (hb hby at_184) rfl (l' := #[sI p0, sI p1, sI p2, sI p3, sI xa, sI xb, sI xc, sI xd, sI rr, sI tt, sI pp, .val (.double dS), .second, .val (.double dM), .second, sR b1, sR b19, sR b23, .val (.double v1), .second, .val (.double v2), .second, sI (if rr = (0 : Int32) then xa else xc), .unset, .unset, .unset, .unset, .unset, .unset, .unset]) rfl ?_
    exact kZ
  obtain ⟨ar, e_ar⟩ : ∃ z, z = (if rr = (0 : Int32) then xa else xc) := ⟨_, rfl⟩
  rw [← e_ar]
  show Go p e below _ (T34.setTop (mkF m 186 #[sI p0, sI p1, sI p2, sI p3, sI xa, sI xb, sI xc, sI xd, sI rr, sI tt, sI pp, .val (.double dS), .second, .val (.double dM), .second, sR b1, sR b19, sR b23, .val (.double v1), .second, .val (.double v2), .second, sI ar, .unset, .unset, .unset, .unset, .unset, .unset, .unset] []))
  refine Vi (T34.setTop (mkF m 200 #[sI p0, sI p1, sI p2, sI p3, sI xa, sI xb, sI xc, sI xd, sI rr, sI tt, sI pp, .val (.double dS), .second, .val (.double dM), .second, sR b1, sR b19, sR b23, .val (.double v1), .second, .val (.double v2), .second, sI ar, sI (if rr = (0 : Int32) then xb else xd), .unset, .unset, .unset, .unset, .unset, .unset] [])) (fun tZ kZ => ?_) ?_
  · refine XS.iload X34.here hx rfl (hb hby at_186) rfl ?_
    have sg188 : Steps p.tables e below (T34.setTop (mkF m 198 #[sI p0, sI p1, sI p2, sI p3, sI xa, sI xb, sI xc, sI xd, sI rr, sI tt, sI pp, .val (.double dS), .second, .val (.double dM), .second, sR b1, sR b19, sR b23, .val (.double v1), .second, .val (.double v2), .second, sI ar, .unset, .unset, .unset, .unset, .unset, .unset, .unset] [(.int (if rr = (0 : Int32) then xb else xd))])) tZ → Steps p.tables e below (T34.setTop (mkF m 188 #[sI p0, sI p1, sI p2, sI p3, sI xa, sI xb, sI xc, sI xd, sI rr, sI tt, sI pp, .val (.double dS), .second, .val (.double dM), .second, sR b1, sR b19, sR b23, .val (.double v1), .second, .val (.double v2), .second, sI ar, .unset, .unset, .unset, .unset, .unset, .unset, .unset] [(.int rr)])) tZ := by
      intro kj
      by_cases hc188 : rr = (0 : Int32)
      · try simp only [if_pos hc188] at kj
        refine XS.ifNo X34.here hx rfl (hb hby at_188) rfl ((if0 _ _).trans (teq hc188).2) ?_
        refine XS.iload X34.here hx rfl (hb hby at_191) rfl ?_
        refine XS.goto X34.here hx rfl (pc0 := 193) (pc' := 198) rfl (hb hby at_193) (by decide) (by decide) ?_
        exact kj
      · try simp only [if_neg hc188] at kj
        refine XS.ifYes X34.here hx rfl (pc0 := 188) (pc' := 196) rfl (hb hby at_188) rfl ((if0 _ _).trans (feq hc188).2) (by decide) (by decide) ?_
        refine XS.iload X34.here hx rfl (hb hby at_196) rfl ?_
        exact kj
    refine sg188 ?_
    show Steps p.tables e below (T34.setTop (mkF m 198 #[sI p0, sI p1, sI p2, sI p3, sI xa, sI xb, sI xc, sI xd, sI rr, sI tt, sI pp, .val (.double dS), .second, .val (.double dM), .second, sR b1, sR b19, sR b23, .val (.double v1), .second, .val (.double v2), .second, sI ar, .unset, .unset, .unset, .unset, .unset, .unset, .unset] [(.int (if rr = (0 : Int32) then xb else xd))])) _
    refine XS.istore X34.here hx rfl (hb hby at_198) rfl (l' := #[sI p0, sI p1, sI p2, sI p3, sI xa, sI xb, sI xc, sI xd, sI rr, sI tt, sI pp, .val (.double dS), .second, .val (.double dM), .second, sR b1, sR b19, sR b23, .val (.double v1), .second, .val (.double v2), .second, sI ar, sI (if rr = (0 : Int32) then xb else xd), .unset, .unset, .unset, .unset, .unset, .unset]) rfl ?_
    exact kZ
  obtain ⟨br, e_br⟩ : ∃ z, z = (if rr = (0 : Int32) then xb else xd) := ⟨_, rfl⟩
  rw [← e_br]
  show Go p e below _ (T34.setTop (mkF m 200 #[sI p0, sI p1, sI p2, sI p3, sI xa, sI xb, sI xc, sI xd, sI rr, sI tt, sI pp, .val (.double dS), .second, .val (.double dM), .second, sR b1, sR b19, sR b23, .val (.double v1), .second, .val (.double v2), .second, sI ar, sI br, .unset, .unset, .unset, .unset, .unset, .unset] []))
  refine Vi (T34.setTop (mkF m 222 #[sI p0, sI p1, sI p2, sI p3, sI xa, sI xb, sI xc, sI xd, sI rr, sI tt, sI pp, .val (.double dS), .second, .val (.double dM), .second, sR b1, sR b19, sR b23, .val (.double v1), .second, .val (.double v2), .second, sI ar, sI br, .val (.double (if pp = (0 : Int32) then (if tt = ar then (FP.dadd FP.dconst0 dM) else FP.dconst0) else FP.dconst0)), .second, .unset, .unset, .unset, .unset] [])) (fun tZ kZ => ?_) ?_
  · refine XS.dconst0 X34.here hx rfl (hb hby at_200) rfl ?_
    refine XS.dstore X34.here hx rfl (hb hby at_201) rfl (l' := #[sI p0, sI p1, sI p2, sI p3, sI xa, sI xb, sI xc, sI xd, sI rr, sI tt, sI pp, .val (.double dS), .second, .val (.double dM), .second, sR b1, sR b19, sR b23, .val (.double v1), .second, .val (.double v2), .second, sI ar, sI br, .val (.double FP.dconst0), .second, .unset, .unset, .unset, .unset]) rfl ?_
    refine XS.iload X34.here hx rfl (hb hby at_203) rfl ?_
    have sg205 : Steps p.tables e below (T34.setTop (mkF m 222 #[sI p0, sI p1, sI p2, sI p3, sI xa, sI xb, sI xc, sI xd, sI rr, sI tt, sI pp, .val (.double dS), .second, .val (.double dM), .second, sR b1, sR b19, sR b23, .val (.double v1), .second, .val (.double v2), .second, sI ar, sI br, .val (.double (if pp = (0 : Int32) then (if tt = ar then (FP.dadd FP.dconst0 dM) else FP.dconst0) else FP.dconst0)), .second, .unset, .unset, .unset, .unset] [])) tZ → Steps p.tables e below (T34.setTop (mkF m 205 #[sI p0, sI p1, sI p2, sI p3, sI xa, sI xb, sI xc, sI xd, sI rr, sI tt, sI pp, .val (.double dS), .second, .val (.double dM), .second, sR b1, sR b19, sR b23, .val (.double v1), .second, .val (.double v2), .second, sI ar, sI br, .val (.double FP.dconst0), .second, .unset, .unset, .unset, .unset] [(.int pp)])) tZ := by
      intro kj
      by_cases hc205 : pp = (0 : Int32)
      · try simp only [if_pos hc205] at kj
        refine XS.ifNo X34.here hx rfl (hb hby at_205) rfl ((if0 _ _).trans (teq hc205).2) ?_
        refine XS.iload X34.here hx rfl (hb hby at_208) rfl ?_
        refine XS.iload X34.here hx rfl (hb hby at_210) rfl ?_
        have sg212 : Steps p.tables e below (T34.setTop (mkF m 222 #[sI p0, sI p1, sI p2, sI p3, sI xa, sI xb, sI xc, sI xd, sI rr, sI tt, sI pp, .val (.double dS), .second, .val (.double dM), .second, sR b1, sR b19, sR b23, .val (.double v1), .second, .val (.double v2), .second, sI ar, sI br, .val (.double (if tt = ar then (FP.dadd FP.dconst0 dM) else FP.dconst0)), .second, .unset, .unset, .unset, .unset] [])) tZ → Steps p.tables e below (T34.setTop (mkF m 212 #[sI p0, sI p1, sI p2, sI p3, sI xa, sI xb, sI xc, sI xd, sI rr, sI tt, sI pp, .val (.double dS), .second, .val (.double dM), .second, sR b1, sR b19, sR b23, .val (.double v1), .second, .val (.double v2), .second, sI ar, sI br, .val (.double FP.dconst0), .second, .unset, .unset, .unset, .unset] [(.int ar), (.int tt)])) tZ := by
          intro kj
          by_cases hc212 : tt = ar
          · try simp only [if_pos hc212] at kj
            refine XS.icmpNo X34.here hx rfl (hb hby at_212) rfl (teq hc212).2 ?_
            refine XS.dload X34.here hx rfl (hb hby at_215) rfl ?_
            refine XS.dload X34.here hx rfl (hb hby at_217) rfl ?_
            refine XS.daddS X34.here hx rfl (hb hby at_219) rfl (own_add own_m0 hM (by decide)) rfl ?_
            refine XS.dstore X34.here hx rfl (hb hby at_220) rfl (l' := #[sI p0, sI p1, sI p2, sI p3, sI xa, sI xb, sI xc, sI xd, sI rr, sI tt, sI pp, .val (.double dS), .second, .val (.double dM), .second, sR b1, sR b19, sR b23, .val (.double v1), .second, .val (.double v2), .second, sI ar, sI br, .val (.double (FP.dadd FP.dconst0 dM)), .second, .unset, .unset, .unset, .unset]) rfl ?_
            exact kj
          · try simp only [if_neg hc212] at kj
            refine XS.icmpYes X34.here hx rfl (pc0 := 212) (pc' := 222) rfl (hb hby at_212) rfl (feq hc212).2 (by decide) (by decide) ?_
            exact kj
        refine sg212 ?_
        show Steps p.tables e below (T34.setTop (mkF m 222 #[sI p0, sI p1, sI p2, sI p3, sI xa, sI xb, sI xc, sI xd, sI rr, sI tt, sI pp, .val (.double dS), .second, .val (.double dM), .second, sR b1, sR b19, sR b23, .val (.double v1), .second, .val (.double v2), .second, sI ar, sI br, .val (.double (if tt = ar then (FP.dadd FP.dconst0 dM) else FP.dconst0)), .second, .unset, .unset, .unset, .unset] [])) _
        exact kj
      · try simp only [if_neg hc205] at kj
        refine XS.ifYes X34.here hx rfl (pc0 := 205) (pc' := 222) rfl (hb hby at_205) rfl ((if0 _ _).trans (feq hc205).2) (by decide) (by decide) ?_
        exact kj
    refine sg205 ?_
    show Steps p.tables e below (T34.setTop (mkF m 222 #[sI p0, sI p1, sI p2, sI p3, sI xa, sI xb, sI xc, sI xd, sI rr, sI tt, sI pp, .val (.double dS), .second, .val (.double dM), .second, sR b1, sR b19, sR b23, .val (.double v1), .second, .val (.double v2), .second, sI ar, sI br, .val (.double (if pp = (0 : Int32) then (if tt = ar then (FP.dadd FP.dconst0 dM) else FP.dconst0) else FP.dconst0)), .second, .unset, .unset, .unset, .unset] [])) _
    exact kZ
  obtain ⟨ga, e_ga⟩ : ∃ z, z = (if pp = (0 : Int32) then (if tt = ar then (FP.dadd FP.dconst0 dM) else FP.dconst0) else FP.dconst0) := ⟨_, rfl⟩
  rw [← e_ga]
  show Go p e below _ (T34.setTop (mkF m 222 #[sI p0, sI p1, sI p2, sI p3, sI xa, sI xb, sI xc, sI xd, sI rr, sI tt, sI pp, .val (.double dS), .second, .val (.double dM), .second, sR b1, sR b19, sR b23, .val (.double v1), .second, .val (.double v2), .second, sI ar, sI br, .val (.double ga), .second, .unset, .unset, .unset, .unset] []))
  have m_ga : Jvm.Free.Fl.Mag64 1062 ga := by rw [e_ga]; split <;> first | exact own_m0.mono (by decide) | (split <;> first | exact own_m0.mono (by decide) | exact (Jvm.Free.Fl.dadd_mag own_m0 hM (by decide)))
  refine Vi (T34.setTop (mkF m 245 #[sI p0, sI p1, sI p2, sI p3, sI xa, sI xb, sI xc, sI xd, sI rr, sI tt, sI pp, .val (.double dS), .second, .val (.double dM), .second, sR b1, sR b19, sR b23, .val (.double v1), .second, .val (.double v2), .second, sI ar, sI br, .val (.double (if pp = (ar + (1 : Int32)) then (if tt = br then (FP.dadd ga dM) else ga) else ga)), .second, .unset, .unset, .unset, .unset] [])) (fun tZ kZ => ?_) ?_
  · refine XS.iload X34.here hx rfl (hb hby at_222) rfl ?_
    refine XS.iload X34.here hx rfl (hb hby at_224) rfl ?_
    refine XS.iconst X34.here hx rfl (hb hby at_226) ?_
    refine XS.iadd X34.here hx rfl (hb hby at_227) rfl ?_
    have sg228 : Steps p.tables e below (T34.setTop (mkF m 245 #[sI p0, sI p1, sI p2, sI p3, sI xa, sI xb, sI xc, sI xd, sI rr, sI tt, sI pp, .val (.double dS), .second, .val (.double dM), .second, sR b1, sR b19, sR b23, .val (.double v1), .second, .val (.double v2), .second, sI ar, sI br, .val (.double (if pp = (ar + (1 : Int32)) then (if tt = br then (FP.dadd ga dM) else ga) else ga)), .second, .unset, .unset, .unset, .unset] [])) tZ → Steps p.tables e below (T34.setTop (mkF m 228 #[sI p0, sI p1, sI p2, sI p3, sI xa, sI xb, sI xc, sI xd, sI rr, sI tt, sI pp, .val (.double dS), .second, .val (.double dM), .second, sR b1, sR b19, sR b23, .val (.double v1), .second, .val (.double v2), .second, sI ar, sI br, .val (.double ga), .second, .unset, .unset, .unset, .unset] [(.int (ar + (1 : Int32))), (.int pp)])) tZ := by
      intro kj
      by_cases hc228 : pp = (ar + (1 : Int32))
      · try simp only [if_pos hc228] at kj
        refine XS.icmpNo X34.here hx rfl (hb hby at_228) rfl (teq hc228).2 ?_
        refine XS.iload X34.here hx rfl (hb hby at_231) rfl ?_
        refine XS.iload X34.here hx rfl (hb hby at_233) rfl ?_
        have sg235 : Steps p.tables e below (T34.setTop (mkF m 245 #[sI p0, sI p1, sI p2, sI p3, sI xa, sI xb, sI xc, sI xd, sI rr, sI tt, sI pp, .val (.double dS), .second, .val (.double dM), .second, sR b1, sR b19, sR b23, .val (.double v1), .second, .val (.double v2), .second, sI ar, sI br, .val (.double (if tt = br then (FP.dadd ga dM) else ga)), .second, .unset, .unset, .unset, .unset] [])) tZ → Steps p.tables e below (T34.setTop (mkF m 235 #[sI p0, sI p1, sI p2, sI p3, sI xa, sI xb, sI xc, sI xd, sI rr, sI tt, sI pp, .val (.double dS), .second, .val (.double dM), .second, sR b1, sR b19, sR b23, .val (.double v1), .second, .val (.double v2), .second, sI ar, sI br, .val (.double ga), .second, .unset, .unset, .unset, .unset] [(.int br), (.int tt)])) tZ := by
          intro kj
          by_cases hc235 : tt = br
          · try simp only [if_pos hc235] at kj
            refine XS.icmpNo X34.here hx rfl (hb hby at_235) rfl (teq hc235).2 ?_
            refine XS.dload X34.here hx rfl (hb hby at_238) rfl ?_
            refine XS.dload X34.here hx rfl (hb hby at_240) rfl ?_
            refine XS.daddS X34.here hx rfl (hb hby at_242) rfl (own_add m_ga (hM.mono (by decide)) (by decide)) rfl ?_
            refine XS.dstore X34.here hx rfl (hb hby at_243) rfl (l' := #[sI p0, sI p1, sI p2, sI p3, sI xa, sI xb, sI xc, sI xd, sI rr, sI tt, sI pp, .val (.double dS), .second, .val (.double dM), .second, sR b1, sR b19, sR b23, .val (.double v1), .second, .val (.double v2), .second, sI ar, sI br, .val (.double (FP.dadd ga dM)), .second, .unset, .unset, .unset, .unset]) rfl ?_
            exact kj
          · try simp only [if_neg hc235] at kj
            refine XS.icmpYes X34.here hx rfl (pc0 := 235) (pc' := 245) rfl (hb hby at_235) rfl (feq hc235).2 (by decide) (by decide) ?_
            exact kj
        refine sg235 ?_
        show Steps p.tables e below (T34.setTop (mkF m 245 #[sI p0, sI p1, sI p2, sI p3, sI xa, sI xb, sI xc, sI xd, sI rr, sI tt, sI pp, .val (.double dS), .second, .val (.double dM), .second, sR b1, sR b19, sR b23, .val (.double v1), .second, .val (.double v2), .second, sI ar, sI br, .val (.double (if tt = br then (FP.dadd ga dM) else ga)), .second, .unset, .unset, .unset, .unset] [])) _
        exact kj
      · try simp only [if_neg hc228] at kj
        refine XS.icmpYes X34.here hx rfl (pc0 := 228) (pc' := 245) rfl (hb hby at_228) rfl (feq hc228).2 (by decide) (by decide) ?_
        exact kj
    refine sg228 ?_
    show Steps p.tables e below (T34.setTop (mkF m 245 #[sI p0, sI p1, sI p2, sI p3, sI xa, sI xb, sI xc, sI xd, sI rr, sI tt, sI pp, .val (.double dS), .second, .val (.double dM), .second, sR b1, sR b19, sR b23, .val (.double v1), .second, .val (.double v2), .second, sI ar, sI br, .val (.double (if pp = (ar + (1 : Int32)) then (if tt = br then (FP.dadd ga dM) else ga) else ga)), .second, .unset, .unset, .unset, .unset] [])) _
    exact kZ
  obtain ⟨gb, e_gb⟩ : ∃ z, z = (if pp = (ar + (1 : Int32)) then (if tt = br then (FP.dadd ga dM) else ga) else ga) := ⟨_, rfl⟩
  rw [← e_gb]
  show Go p e below _ (T34.setTop (mkF m 245 #[sI p0, sI p1, sI p2, sI p3, sI xa, sI xb, sI xc, sI xd, sI rr, sI tt, sI pp, .val (.double dS), .second, .val (.double dM), .second, sR b1, sR b19, sR b23, .val (.double v1), .second, .val (.double v2), .second, sI ar, sI br, .val (.double gb), .second, .unset, .unset, .unset, .unset] []))
  have m_gb : Jvm.Free.Fl.Mag64 1064 gb := by rw [e_gb]; split <;> first | exact m_ga.mono (by decide) | (split <;> first | exact m_ga.mono (by decide) | exact (Jvm.Free.Fl.dadd_mag m_ga (hM.mono (by decide)) (by decide)))
  refine Vi (T34.setTop (mkF m 256 #[sI p0, sI p1, sI p2, sI p3, sI xa, sI xb, sI xc, sI xd, sI rr, sI tt, sI pp, .val (.double dS), .second, .val (.double dM), .second, sR b1, sR b19, sR b23, .val (.double v1), .second, .val (.double v2), .second, sI ar, sI br, .val (.double gb), .second, .val (.double (FP.dadd (FP.dmul (4606732058837280358 : UInt64) dS) gb)), .second, .unset, .unset] [])) (fun tZ kZ => ?_) ?_
  · refine X34.ldc2DoubleC hx hown (wz hZ hw 76 rfl) (g := (mkF m 245 #[sI p0, sI p1, sI p2, sI p3, sI xa, sI xb, sI xc, sI xd, sI rr, sI tt, sI pp, .val (.double dS), .second, .val (.double dM), .second, sR b1, sR b19, sR b23, .val (.double v1), .second, .val (.double v2), .second, sI ar, sI br, .val (.double gb), .second, .unset, .unset, .unset, .unset] [])) rfl (hb hby at_245) _ ?_
    refine XS.dload X34.here hx rfl (hb hby at_248) rfl ?_
    refine XS.dmulS X34.here hx rfl (hb hby at_250) rfl ((own_mm hS (by decide)).fin (by decide)).noNaN rfl ?_
    refine XS.dload X34.here hx rfl (hb hby at_251) rfl ?_
    refine XS.daddS X34.here hx rfl (hb hby at_253) rfl (own_add ((own_mm hS (by decide)).mono (by decide)) m_gb (by decide)) rfl ?_
    refine XS.dstore X34.here hx rfl (hb hby at_254) rfl (l' := #[sI p0, sI p1, sI p2, sI p3, sI xa, sI xb, sI xc, sI xd, sI rr, sI tt, sI pp, .val (.double dS), .second, .val (.double dM), .second, sR b1, sR b19, sR b23, .val (.double v1), .second, .val (.double v2), .second, sI ar, sI br, .val (.double gb), .second, .val (.double (FP.dadd (FP.dmul (4606732058837280358 : UInt64) dS) gb)), .second, .unset, .unset]) rfl ?_
    exact kZ
  obtain ⟨x1, e_x1⟩ : ∃ z, z = (FP.dadd (FP.dmul (4606732058837280358 : UInt64) dS) gb) := ⟨_, rfl⟩
  rw [← e_x1]
  show Go p e below _ (T34.setTop (mkF m 256 #[sI p0, sI p1, sI p2, sI p3, sI xa, sI xb, sI xc, sI xd, sI rr, sI tt, sI pp, .val (.double dS), .second, .val (.double dM), .second, sR b1, sR b19, sR b23, .val (.double v1), .second, .val (.double v2), .second, sI ar, sI br, .val (.double gb), .second, .val (.double x1), .second, .unset, .unset] []))
  have m_x1 : Jvm.Free.Fl.Mag64 1066 x1 := by rw [e_x1]; exact Jvm.Free.Fl.dadd_mag ((own_mm hS (by decide)).mono (by decide)) m_gb (by decide)
  refine Vi (T34.setTop (mkF m 266 #[sI p0, sI p1, sI p2, sI p3, sI xa, sI xb, sI xc, sI xd, sI rr, sI tt, sI pp, .val (.double dS), .second, .val (.double dM), .second, sR b1, sR b19, sR b23, .val (.double v1), .second, .val (.double v2), .second, sI ar, sI br, .val (.double gb), .second, .val (.double x1), .second, .val (.double (FP.dadd (FP.dmul (4606732058837280358 : UInt64) x1) FP.dconst0)), .second] [])) (fun tZ kZ => ?_) ?_
  · refine X34.ldc2DoubleC hx hown (wz hZ hw 76 rfl) (g := (mkF m 256 #[sI p0, sI p1, sI p2, sI p3, sI xa, sI xb, sI xc, sI xd, sI rr, sI tt, sI pp, .val (.double dS), .second, .val (.double dM), .second, sR b1, sR b19, sR b23, .val (.double v1), .second, .val (.double v2), .second, sI ar, sI br, .val (.double gb), .second, .val (.double x1), .second, .unset, .unset] [])) rfl (hb hby at_256) _ ?_
    refine XS.dload X34.here hx rfl (hb hby at_259) rfl ?_
    refine XS.dmulS X34.here hx rfl (hb hby at_261) rfl ((own_mm m_x1 (by decide)).fin (by decide)).noNaN rfl ?_
    refine XS.dconst0 X34.here hx rfl (hb hby at_262) rfl ?_
    refine XS.daddS X34.here hx rfl (hb hby at_263) rfl (own_add (own_mm m_x1 (by decide)) (own_m0.mono (by decide)) (by decide)) rfl ?_
    refine XS.dstore X34.here hx rfl (hb hby at_264) rfl (l' := #[sI p0, sI p1, sI p2, sI p3, sI xa, sI xb, sI xc, sI xd, sI rr, sI tt, sI pp, .val (.double dS), .second, .val (.double dM), .second, sR b1, sR b19, sR b23, .val (.double v1), .second, .val (.double v2), .second, sI ar, sI br, .val (.double gb), .second, .val (.double x1), .second, .val (.double (FP.dadd (FP.dmul (4606732058837280358 : UInt64) x1) FP.dconst0)), .second]) rfl ?_
    exact kZ
  obtain ⟨x2, e_x2⟩ : ∃ z, z = (FP.dadd (FP.dmul (4606732058837280358 : UInt64) x1) FP.dconst0) := ⟨_, rfl⟩
  rw [← e_x2]
  show Go p e below _ (T34.setTop (mkF m 266 #[sI p0, sI p1, sI p2, sI p3, sI xa, sI xb, sI xc, sI xd, sI rr, sI tt, sI pp, .val (.double dS), .second, .val (.double dM), .second, sR b1, sR b19, sR b23, .val (.double v1), .second, .val (.double v2), .second, sI ar, sI br, .val (.double gb), .second, .val (.double x1), .second, .val (.double x2), .second] []))
  have q1 : v1 = x1 := by
    rw [e_v1, e_x1, e_f1]
    show FP.dadd (FP.dmul 4606732058837280358 (f0 _ _ _)) (g0 _ _ _) = _
    rw [e_f0, e_g0, own_dgv ha hb_ hc_ hd_ hr ht hp e_ar e_br e_ga e_gb]
  have q2 : v2 = x2 := by
    rw [e_v2, e_x2, e_f2]
    show FP.dadd (FP.dmul 4606732058837280358 (f1 _ _ _)) (g1_ _ _ _) = _
    rw [e_g1_]
    show FP.dadd (FP.dmul 4606732058837280358 _) FP.dconst0 = _
    rw [← q1, e_v1]; rfl
  have n1 : Jvm.Free.Fl.NoNaN64 v1 := by rw [q1]; exact (m_x1.fin (by decide)).noNaN
  have n2 : Jvm.Free.Fl.NoNaN64 v2 := by rw [q2, e_x2]; exact own_add (own_mm m_x1 (by decide)) (own_m0.mono (by decide)) (by decide)
  refine Vi (T34.setTop (mkF m 287 #[sI p0, sI p1, sI p2, sI p3, sI xa, sI xb, sI xc, sI xd, sI rr, sI tt, sI pp, .val (.double dS), .second, .val (.double dM), .second, sR b1, sR b19, sR b23, .val (.double v1), .second, .val (.double v2), .second, sI ar, sI br, .val (.double gb), .second, .val (.double x1), .second, .val (.double x2), .second] [(.int 1)])) (fun tZ kZ => ?_) ?_
  · refine XS.dload X34.here hx rfl (hb hby at_266) rfl ?_
    refine XS.dload X34.here hx rfl (hb hby at_268) rfl ?_
    refine XS.dcmpS X34.here hx rfl (hb hby at_270) rfl (v := 0) (dcmpV_eq q1 n1 _) ?_
    refine XS.ifNo X34.here hx rfl (hb hby at_271) rfl ((if0 _ _).trans (teq (by decide)).2) ?_
    refine XS.dload X34.here hx rfl (hb hby at_274) rfl ?_
    refine XS.dload X34.here hx rfl (hb hby at_276) rfl ?_
    refine XS.dcmpS X34.here hx rfl (hb hby at_278) rfl (v := 0) (dcmpV_eq q2 n2 _) ?_
    refine XS.ifNo X34.here hx rfl (hb hby at_279) rfl ((if0 _ _).trans (teq (by decide)).2) ?_
    refine XS.iconst X34.here hx rfl (hb hby at_282) ?_
    refine XS.goto X34.here hx rfl (pc0 := 283) (pc' := 287) rfl (hb hby at_283) (by decide) (by decide) ?_
    exact kZ
  refine Go.retN X34 hx Bd.notSynchronized (t := .boolean) Bd.returns (by simp) (hb hby at_287) (by decide) (by decide) ?_
  exact ⟨rfl, N34⟩
theorem comes_1 {Post : Tables → Env → Array Value → State → Outcome → State → Prop} (hpost : ∀ tb e args s v u, (limb_1_1.after args s (.returned v) u = true ∧ limb_1_2.after args s (.returned v) u = true ∧ True) → FrameEnd s (.returned v) u (Jvm.fieldLocs frame_1_writes args s ++ Jvm.arrayLocs frame_1_arrays args s ++ Jvm.staticLocs frame_1_statics s) 64 192 → Post tb e args s (.returned v) u) :
    ArmFor flags0 classFile x code maxLocals ret World_1 tables_1 room_1 Calls_1 rest_1 Pre_1 Post := by
  intro l hfl _ _ p e ha hc hk s m args below hf hA hF happ hP
  obtain ⟨hcalls, hrest, hpre⟩ := hP
  obtain ⟨-, -, -, hnamed, -, -, -, hat⟩ := (Spec.applies_iff hf).mp happ
  obtain ⟨hg, hn⟩ := and_e (Cond.before_iff.mp (show (Jvm.Cond.and given_1 narrow_1).before args s = true from hpre))
  obtain ⟨g1, g2⟩ := and_e hg
  obtain ⟨g3, g4⟩ := and_e g2
  obtain ⟨g5, g6⟩ := and_e g4
  obtain ⟨g7, g8⟩ := and_e g6
  obtain ⟨w0, w1, w2, w3, rfl⟩ : ∃ w0 w1 w2 w3 : Value, args = #[w0, w1, w2, w3] := by
    have hs : args.size = 4 := by simpa [Cond.value, given_1] using g1
    obtain ⟨L⟩ := args
    match L, hs with
    | [w0, w1, w2, w3], _ => exact ⟨w0, w1, w2, w3, rfl⟩
  have hw := fun d (hd : d ∈ tables_1) => atoms_spec (ws := Jvm.Cond.code x code maxLocals ret :: tables_1) hat d (List.mem_cons_of_mem _ hd)
  have hfit : Fit s := fun {y c} hc i hi => by
    obtain ⟨ha, rfl⟩ := Array.getElem?_eq_some_iff.mp hc
    have q := List.all_eq_true.mp ((Array.all_eq_true_iff_forall_mem.mp hF) _ (Array.getElem_mem ha)) i (List.mem_range.mpr hi)
    simpa [Array.getElem?_eq_getElem hi] using q
  obtain ⟨i0, ei0⟩ := is_v g3
  obtain rfl : w0 = (.int i0) := Option.some.inj ei0
  obtain ⟨i1, ei1⟩ := is_v g5
  obtain rfl : w1 = (.int i1) := Option.some.inj ei1
  obtain ⟨i2, ei2⟩ := is_v g7
  obtain rfl : w2 = (.int i2) := Option.some.inj ei2
  obtain ⟨i3, ei3⟩ := is_v g8
  obtain rfl : w3 = (.int i3) := Option.some.inj ei3

  obtain ⟨n, o, h1, h2, h3, _, L, rfl, ⟨rfl, N⟩, hq⟩ := rm0 l s _ hw tables_1 i0 i1 i2 i3  s.heap s.heap.size (Nat.le_refl _) p e ha hc hk s m _ below hf ((Spec.applies_iff_loose hf).mp happ).1 ⟨rfl, State.Warmed39.refl s, rfl⟩ trivial
  refine ⟨n, _, h1, h2, h3, hpost _ _ _ _ _ _ ⟨Cond.after_iff.mpr rfl, Cond.after_iff.mpr (eq_i res_at (Term.int_eval (1)) rfl), trivial⟩ ⟨hq.1, hq.2.1, (hq.2.2.sift fun y hy => Or.inr (N y hy)).mono (by decide) (by decide)⟩⟩
theorem main_1_1 : Claimed_1_1 := comes_1 fun _ _ _ _ _ _ h hF => ⟨h.1, hF⟩
theorem main_1_2 : Claimed_1_2 := comes_1 fun _ _ _ _ _ _ h hF => ⟨h.2.1, hF⟩
end Jvm.Pilot.@@N@@
namespace Jvm.Pilot.@@N@@
open Jvm Jvm.ClassFile Sem Op Lib Jvm.Free Jvm.Stand Jvm.Pilot.@@N@@.Jvm.D
/-! MADE BY PROGRAM (witnessworld.py) out of the Statement's table words and the real class files: 16 classes; the members and pool entries that the words name. The judged class is class 1, her method 1. -/
namespace start1
open Jvm.ClassFile
def u (s : String) : CpInfo := .utf8 (stringToUtf16 s)
/-- a pool by its gaps: so many unusable entries, then the entry; so many at the end -/
def gap : Nat → List CpInfo → List CpInfo
  | 0, r => r
  | n + 1, r => .unusable :: gap n r
def poolList (es : List (Nat × CpInfo)) (last : Nat) : List CpInfo := es.foldr (fun e r => gap e.1 (e.2 :: r)) (gap last [])
def pool (es : List (Nat × CpInfo)) (last : Nat) : Array CpInfo := ⟨poolList es last⟩
def fileOf (pool : Array CpInfo) (this : Nat) (attrs : Array Attribute := #[]) (ms : Array MethodInfo := #[]) (fl : Nat := 33) (sup : Nat := 0) (ifs : Array Nat := #[]) (fds : Array FieldInfo := #[]) : ClassFile where
  minorVersion := 0
  majorVersion := 65
  constantPool := pool
  accessFlags := fl
  thisClass := this
  superClass := sup
  interfaces := ifs
  fields := fds
  methods := ms
  attributes := attrs
def plain (name : String) (sup : Option ClassId) : Class where
  name := name
  kind := .ordinary
  loader := none
  accessFlags := 33
  super := sup
  interfaces := #[]
  cf := none
  fields := #[]
  methods := #[]
  instanceTypes := #[]
  staticTypes := #[]
  resolved := #[]
  callSites := []
  init := .initialized
  statics := none
  mirror := none

def pool0 : Array CpInfo := pool [(5, u "<init>"), (0, u "()V"), (1, .class_ 10), (1, u "java/lang/Object"), (85, u "clone"), (0, u "()Ljava/lang/Object;")] 26

def k0c0 : Code := { maxStack := 0, maxLocals := 1, code := object_method_1_code, exceptionTable := #[], attributes := #[] }
def k0m0 : Method := { name := "<init>", desc := "()V", sig := { parameters := [], returnType := none }, accessFlags := 1, code := some k0c0 }
def k0m1 : Method := { name := "clone", desc := "()Ljava/lang/Object;", sig := { parameters := [], returnType := some (.object "java/lang/Object") }, accessFlags := 260, code := none }
/-- java/lang/Object -/
def k0 : Class := { plain "java/lang/Object" none with
  accessFlags := 33
  interfaces := #[]
  cf := some (fileOf pool0 8 #[] #[{ accessFlags := 1, nameIndex := 5, descriptorIndex := 6, attributes := #[] }, { accessFlags := 260, nameIndex := 96, descriptorIndex := 97, attributes := #[] }] 33 0 #[] #[])
  fields := #[]
  methods := #[k0m0, k0m1]
  instanceTypes := #[]
  staticTypes := #[]
  resolved := Array.replicate 124 none
  statics := none }

def pool1 : Array CpInfo := pool [(2, .class_ 4), (1, u "java/lang/Object"), (0, u "<init>"), (0, u "()V"), (0, .integer 65535), (0, .class_ 9), (0, u "[I"), (0, .class_ 11), (0, u "com/example/muster/muster/solvers/Pheromone"), (0, .methodref 10 13), (0, .nameAndType 5 14), (0, u "(IID)V"), (0, .class_ 16), (0, u "com/example/muster/muster/core/MpdaPlan"), (0, .methodref 15 18), (0, .nameAndType 5 19), (0, u "([[I)V"), (0, .methodref 10 21), (0, .nameAndType 22 23), (0, u "deposit"), (0, u "(Lcom/example/muster/muster/core/MpdaPlan;D)V"), (0, .methodref 10 25), (0, .nameAndType 26 6), (0, u "update"), (0, .methodref 10 28), (0, .nameAndType 29 30), (0, u "toward"), (0, u "(III)D"), (0, .double 4606732058837280358), (1, .class_ 34), (0, u "com/example/muster/muster/solvers/PheromoneUpdatePinLaw"), (2, u "law"), (0, u "(IIII)Z")] 5

def k1m0 : Method := { name := "<init>", desc := "()V", sig := { parameters := [], returnType := none }, accessFlags := 1, code := none }
def k1c1 : Code := { maxStack := 6, maxLocals := 30, code := code, exceptionTable := #[], attributes := #[] }
def k1m1 : Method := { name := "law", desc := "(IIII)Z", sig := { parameters := [.int, .int, .int, .int], returnType := some .boolean }, accessFlags := 9, code := some k1c1 }
/-- com/example/muster/muster/solvers/PheromoneUpdatePinLaw -/
def k1 : Class := { plain "com/example/muster/muster/solvers/PheromoneUpdatePinLaw" (some 0) with
  accessFlags := 49
  interfaces := #[]
  cf := some (fileOf pool1 33 #[] #[{ accessFlags := 1, nameIndex := 5, descriptorIndex := 6, attributes := #[] }, { accessFlags := 9, nameIndex := 37, descriptorIndex := 38, attributes := #[] }] 49 2 #[] #[])
  fields := #[]
  methods := #[k1m0, k1m1]
  instanceTypes := #[]
  staticTypes := #[]
  resolved := Array.replicate 44 none
  statics := none }

def pool2 : Array CpInfo := pool [(1, .methodref 2 3), (0, .class_ 4), (0, .nameAndType 5 6), (0, u "java/lang/Object"), (0, u "<init>"), (0, u "()V"), (0, .fieldref 8 9), (0, .class_ 10), (0, .nameAndType 11 12), (0, u "com/example/muster/muster/solvers/Pheromone"), (0, u "initial"), (0, u "D"), (0, .class_ 14), (0, u "[[[D"), (0, .fieldref 8 16), (0, .nameAndType 17 14), (0, u "value"), (0, .fieldref 8 19), (0, .nameAndType 20 14), (0, u "deposited"), (0, .methodref 8 22), (0, .nameAndType 23 6), (0, u "reset"), (0, .methodref 25 26), (0, .class_ 27), (0, .nameAndType 28 29), (0, u "java/util/Arrays"), (0, u "fill"), (0, u "([DD)V"), (0, .methodref 31 32), (0, .class_ 33), (0, .nameAndType 34 35), (0, u "com/example/muster/muster/core/MpdaPlan"), (0, u "robotCount"), (0, u "()I"), (2, .methodref 31 39), (0, .nameAndType 40 41), (0, u "route"), (0, u "(I)[I"), (0, .double 4606732058837280358), (1, u "PERSISTENCE"), (1, u "(IID)V"), (5, u "toward"), (0, u "(III)D"), (0, u "deposit"), (0, u "(Lcom/example/muster/muster/core/MpdaPlan;D)V"), (2, u "update")] 4

def k2c0 : Code := { maxStack := 4, maxLocals := 5, code := prog_48_method_1_code, exceptionTable := #[], attributes := #[] }
def k2m0 : Method := { name := "<init>", desc := "(IID)V", sig := { parameters := [.int, .int, .double], returnType := none }, accessFlags := 0, code := some k2c0 }
def k2c1 : Code := { maxStack := 3, maxLocals := 9, code := prog_48_method_2_code, exceptionTable := #[], attributes := #[] }
def k2m1 : Method := { name := "reset", desc := "()V", sig := { parameters := [], returnType := none }, accessFlags := 0, code := some k2c1 }
def k2c2 : Code := { maxStack := 3, maxLocals := 4, code := prog_48_method_3_code, exceptionTable := #[], attributes := #[] }
def k2m2 : Method := { name := "toward", desc := "(III)D", sig := { parameters := [.int, .int, .int], returnType := some .double }, accessFlags := 0, code := some k2c2 }
def k2c3 : Code := { maxStack := 6, maxLocals := 10, code := prog_48_method_4_code, exceptionTable := #[], attributes := #[] }
def k2m3 : Method := { name := "deposit", desc := "(Lcom/example/muster/muster/core/MpdaPlan;D)V", sig := { parameters := [(.object "com/example/muster/muster/core/MpdaPlan"), .double], returnType := none }, accessFlags := 0, code := some k2c3 }
def k2c4 : Code := { maxStack := 6, maxLocals := 6, code := prog_48_method_5_code, exceptionTable := #[], attributes := #[] }
def k2m4 : Method := { name := "update", desc := "()V", sig := { parameters := [], returnType := none }, accessFlags := 0, code := some k2c4 }
/-- com/example/muster/muster/solvers/Pheromone -/
def k2 : Class := { plain "com/example/muster/muster/solvers/Pheromone" (some 0) with
  accessFlags := 48
  interfaces := #[]
  cf := some (fileOf pool2 8 #[] #[{ accessFlags := 0, nameIndex := 5, descriptorIndex := 46, attributes := #[] }, { accessFlags := 0, nameIndex := 23, descriptorIndex := 6, attributes := #[] }, { accessFlags := 0, nameIndex := 52, descriptorIndex := 53, attributes := #[] }, { accessFlags := 0, nameIndex := 54, descriptorIndex := 55, attributes := #[] }, { accessFlags := 0, nameIndex := 58, descriptorIndex := 6, attributes := #[] }] 48 2 #[] #[{ accessFlags := 24, nameIndex := 44, descriptorIndex := 12, attributes := #[] }, { accessFlags := 18, nameIndex := 11, descriptorIndex := 12, attributes := #[] }, { accessFlags := 18, nameIndex := 17, descriptorIndex := 14, attributes := #[] }, { accessFlags := 18, nameIndex := 20, descriptorIndex := 14, attributes := #[] }])
  fields := #[{ name := "PERSISTENCE", type := .double, accessFlags := 24, slot := 0, constantValue := 0 }, { name := "initial", type := .double, accessFlags := 18, slot := 0, constantValue := 0 }, { name := "value", type := (.array (.array (.array .double))), accessFlags := 18, slot := 1, constantValue := 0 }, { name := "deposited", type := (.array (.array (.array .double))), accessFlags := 18, slot := 2, constantValue := 0 }]
  methods := #[k2m0, k2m1, k2m2, k2m3, k2m4]
  instanceTypes := #[.double, (.array (.array (.array .double))), (.array (.array (.array .double)))]
  staticTypes := #[.double]
  resolved := Array.replicate 63 none
  statics := none }

def pool3 : Array CpInfo := pool [(2, .class_ 4), (1, u "java/lang/Object"), (0, u "<init>"), (0, u "()V"), (7, .class_ 16), (1, u "java/util/Arrays"), (57, .class_ 76), (1, u "java/util/Arrays$NaturalOrder"), (36, .class_ 115), (1, u "java/util/Arrays$LegacyMergeSort"), (1, u "Z"), (257, .class_ 376), (0, u "java/util/Arrays$ArrayList"), (68, u "$assertionsDisabled"), (269, u "MIN_ARRAY_SORT_GRAN"), (0, u "I"), (2, u "INSERTIONSORT_THRESHOLD"), (120, u "fill"), (13, u "([DD)V"), (120, .class_ 976), (0, u "java/util/Arrays$ArrayItr")] 52

def k3m0 : Method := { name := "<init>", desc := "()V", sig := { parameters := [], returnType := none }, accessFlags := 2, code := none }
def k3c1 : Code := { maxStack := 4, maxLocals := 5, code := jdk_65_method_113_code, exceptionTable := #[], attributes := #[] }
def k3m1 : Method := { name := "fill", desc := "([DD)V", sig := { parameters := [(.array .double), .double], returnType := none }, accessFlags := 9, code := some k3c1 }
/-- java/util/Arrays -/
def k3 : Class := { plain "java/util/Arrays" (some 0) with
  accessFlags := 49
  interfaces := #[]
  cf := some (fileOf pool3 14 #[.nestMembers #[975, 375, 113, 74]] #[{ accessFlags := 2, nameIndex := 5, descriptorIndex := 6, attributes := #[] }, { accessFlags := 9, nameIndex := 840, descriptorIndex := 854, attributes := #[] }] 49 2 #[] #[{ accessFlags := 26, nameIndex := 715, descriptorIndex := 716, attributes := #[] }, { accessFlags := 26, nameIndex := 719, descriptorIndex := 716, attributes := #[] }, { accessFlags := 4120, nameIndex := 445, descriptorIndex := 117, attributes := #[] }])
  fields := #[{ name := "MIN_ARRAY_SORT_GRAN", type := .int, accessFlags := 26, slot := 0, constantValue := 0 }, { name := "INSERTIONSORT_THRESHOLD", type := .int, accessFlags := 26, slot := 1, constantValue := 0 }, { name := "$assertionsDisabled", type := .boolean, accessFlags := 4120, slot := 2, constantValue := 0 }]
  methods := #[k3m0, k3m1]
  instanceTypes := #[]
  staticTypes := #[.int, .int, .boolean]
  resolved := Array.replicate 1029 none
  statics := none }

def pool4 : Array CpInfo := pool [(1, .methodref 2 3), (0, .class_ 4), (0, .nameAndType 5 6), (0, u "java/lang/Object"), (0, u "<init>"), (0, u "()V"), (0, .class_ 8), (0, u "[I"), (0, .fieldref 10 11), (0, .class_ 12), (0, .nameAndType 13 14), (0, u "com/example/muster/muster/core/MpdaPlan"), (0, u "routes"), (0, u "[[I"), (0, .methodref 7 16), (0, .nameAndType 17 18), (0, u "clone"), (0, u "()Ljava/lang/Object;"), (0, u "([[I)V"), (4, u "robotCount"), (0, u "()I"), (0, u "route"), (0, u "(I)[I")] 2

def k4c0 : Code := { maxStack := 4, maxLocals := 3, code := prog_25_method_1_code, exceptionTable := #[], attributes := #[] }
def k4m0 : Method := { name := "<init>", desc := "([[I)V", sig := { parameters := [(.array (.array .int))], returnType := none }, accessFlags := 1, code := some k4c0 }
def k4c1 : Code := { maxStack := 1, maxLocals := 1, code := prog_25_method_2_code, exceptionTable := #[], attributes := #[] }
def k4m1 : Method := { name := "robotCount", desc := "()I", sig := { parameters := [], returnType := some .int }, accessFlags := 1, code := some k4c1 }
def k4c2 : Code := { maxStack := 2, maxLocals := 2, code := prog_25_method_3_code, exceptionTable := #[], attributes := #[] }
def k4m2 : Method := { name := "route", desc := "(I)[I", sig := { parameters := [.int], returnType := some (.array .int) }, accessFlags := 1, code := some k4c2 }
/-- com/example/muster/muster/core/MpdaPlan -/
def k4 : Class := { plain "com/example/muster/muster/core/MpdaPlan" (some 0) with
  accessFlags := 49
  interfaces := #[]
  cf := some (fileOf pool4 10 #[] #[{ accessFlags := 1, nameIndex := 5, descriptorIndex := 19, attributes := #[] }, { accessFlags := 1, nameIndex := 24, descriptorIndex := 25, attributes := #[] }, { accessFlags := 1, nameIndex := 26, descriptorIndex := 27, attributes := #[] }] 49 2 #[] #[{ accessFlags := 18, nameIndex := 13, descriptorIndex := 14, attributes := #[] }])
  fields := #[{ name := "routes", type := (.array (.array .int)), accessFlags := 18, slot := 0, constantValue := 0 }]
  methods := #[k4m0, k4m1, k4m2]
  instanceTypes := #[(.array (.array .int))]
  staticTypes := #[]
  resolved := Array.replicate 30 none
  statics := none }

def pool5 : Array CpInfo := pool [(1, .class_ 2), (0, u "java/lang/Cloneable"), (0, .class_ 4), (0, u "java/lang/Object")] 2

/-- java/lang/Cloneable -/
def k5 : Class := { plain "java/lang/Cloneable" (some 0) with
  accessFlags := 1537
  interfaces := #[]
  cf := some (fileOf pool5 1 #[] #[] 1537 3 #[] #[])
  fields := #[]
  methods := #[]
  instanceTypes := #[]
  staticTypes := #[]
  resolved := Array.replicate 7 none
  statics := none }

def pool6 : Array CpInfo := pool [(1, u "java/io/Serializable"), (0, .class_ 1), (0, u "java/lang/Object"), (0, .class_ 3)] 3

/-- java/io/Serializable -/
def k6 : Class := { plain "java/io/Serializable" (some 0) with
  accessFlags := 1537
  interfaces := #[]
  cf := some (fileOf pool6 2 #[] #[] 1537 4 #[] #[])
  fields := #[]
  methods := #[]
  instanceTypes := #[]
  staticTypes := #[]
  resolved := Array.replicate 8 none
  statics := none }

/-- the primitive byte -/
def k7 : Class := { plain "byte" none with kind := .primitive 'B', accessFlags := 0x411 }
/-- [B -/
def k8 : Class := { plain "[B" (some 0) with kind := .array 7 .byte, interfaces := #[5, 6], accessFlags := 1041 }

/-- the primitive double -/
def k9 : Class := { plain "double" none with kind := .primitive 'D', accessFlags := 0x411 }
/-- [D -/
def k10 : Class := { plain "[D" (some 0) with kind := .array 9 .double, interfaces := #[5, 6], accessFlags := 1041 }

/-- the primitive int -/
def k11 : Class := { plain "int" none with kind := .primitive 'I', accessFlags := 0x411 }
/-- [I -/
def k12 : Class := { plain "[I" (some 0) with kind := .array 11 .int, interfaces := #[5, 6], accessFlags := 1041 }

/-- an array of arrays -/
def k13 : Class := { plain "[[D" (some 0) with kind := .array 10 (.array .double), interfaces := #[5, 6], accessFlags := 1041 }

/-- an array of arrays -/
def k14 : Class := { plain "[[I" (some 0) with kind := .array 12 (.array .int), interfaces := #[5, 6], accessFlags := 1041 }

/-- an array of arrays -/
def k15 : Class := { plain "[[[D" (some 0) with kind := .array 13 (.array (.array .double)), interfaces := #[5, 6], accessFlags := 1041 }

def heap : Heap := #[{ cls := 13, slots := #[.null], vm := .none },
  { cls := 15, slots := #[.null], vm := .none },
  { cls := 14, slots := #[.null], vm := .none }]
def classes : Array Class := #[k0, k1, k2, k3, k4, k5, k6, k7, k8, k9, k10, k11, k12, k13, k14, k15]
def interned : List (Array UInt16 × Addr) := []
def slotsUsed : Nat := 3
def theMethod : MethodId := ⟨1, 1⟩
def args0 : Array Value := #[.int 1, .int 2, .int 3, .int 4]
def aboutOver (below : List Frame) : State where
  vm := { classes := classes, interned := interned.toArray }
  heap := heap
  slotsUsed := slotsUsed
  threads := #[{ frames := .invoking theMethod args0 :: below }]
def below0 : List Frame := [.native { method := ⟨0, 0⟩, args := #[] }]
def about1 : State := aboutOver below0
def p0 : Program := .bare "" "" ""
def e0 : Env := launch0.env 0 0 0
theorem w_frames : about1.frames = Frame.invoking theMethod args0 :: below0 := rfl
set_option maxRecDepth 65536 in
theorem w_args : argsFit about1.vm theMethod args0 = true := by decide +kernel
set_option maxRecDepth 65536 in
theorem w_heap : heapFits about1 = true := by decide +kernel
set_option maxRecDepth 65536 in
theorem w_runnable : about1.curStatus? = some .runnable := by decide +kernel
set_option maxRecDepth 65536 in
theorem w_alone : about1.alone = true := by decide +kernel
set_option maxRecDepth 65536 in
theorem w_named : about1.methodNamed? x = some theMethod := by decide +kernel
set_option maxRecDepth 65536 in
theorem w_hears : about1.hears theMethod below0 = true := by decide +kernel
set_option maxRecDepth 65536 in
theorem w_ripe : about1.ripe theMethod args0 below0 = true := by decide +kernel
theorem w_running : about1.status = .running := rfl
set_option maxRecDepth 65536 in
theorem w_room : about1.hasRoom e0.platform room_1 = true :=
  launch0.hasRoom_least _ room_1 (by decide +kernel) (by decide +kernel) (by decide +kernel) (by decide +kernel) (by decide +kernel) (by decide +kernel)
theorem allAtoms_all (ts : List Jvm.Cond) (a : Array Jvm.Value) (st : Jvm.State) : (allAtoms ts).before a st = ts.all (fun c => c.before a st) := by
  induction ts with
  | nil => rfl
  | cons c t ih =>
    show (Jvm.Cond.and c (allAtoms t)).before a st = _
    rw [Jvm.Cond.before_and, ih, List.all_cons]
def words1 : List Jvm.Cond := Jvm.Cond.code x code maxLocals ret :: tables_1
/-- a 'code' word, met by the world's own term for the bytes: nothing is compared byte by byte -/
theorem code_word {y : MethodName} {bytes : ByteArray} {mx : Nat} {rt : Option FieldType} {a : Array Value} {s : State} {m : MethodId} {meth : Method} {c : Code} (h1 : s.methodNamed? y = some m) (h2 : s.vm.method? m = some meth) (h3 : meth.code = some c) (h4 : c.code = bytes)
    (h5 : (c.maxLocals == mx && c.exceptionTable.isEmpty && decide (c.maxStack ≤ mostOperands) && decide (meth.sig.returnType = rt) && !meth.locks && decide (parseMethodDescriptor y.desc = some meth.sig)) = true) : (Jvm.Cond.code y bytes mx rt).before a s = true := by
  simp only [Bool.and_eq_true, beq_iff_eq, Bool.not_eq_true', decide_eq_true_eq] at h5
  obtain ⟨⟨⟨⟨⟨g1, g2⟩, g3⟩, g4⟩, g5⟩, g6⟩ := h5
  simp [Cond.before, Cond.holds, Cond.value, h1, h2, h3, h4, g1, g2, g3, g4, g5, g6]
def isCode : Jvm.Cond → Bool
  | .code _ _ _ _ => true
  | _ => false
theorem all_split {L : List Jvm.Cond} {P : Jvm.Cond → Bool} (h1 : L.all (fun c => isCode c || P c) = true) (h2 : ∀ c ∈ L.filter isCode, P c = true) : L.all P = true := by
  refine List.all_eq_true.mpr fun c hc => ?_
  have h := List.all_eq_true.mp h1 c hc
  rcases Bool.eq_false_or_eq_true (isCode c) with hi | hi
  · exact h2 c (List.mem_filter.mpr ⟨hc, hi⟩)
  · simpa [hi] using h
set_option maxRecDepth 65536 in
theorem w_c0 : (Jvm.Cond.code x code maxLocals ret).before args0 about1 = true := code_word (m := ⟨1, 1⟩) (meth := k1m1) (c := k1c1) (by decide +kernel) rfl rfl rfl (by decide +kernel)
set_option maxRecDepth 65536 in
theorem w_c1 : (Jvm.Cond.code ({ cls := "com/example/muster/muster/solvers/Pheromone", name := "<init>", desc := "(IID)V" } : Jvm.MethodName) prog_48_method_1_code (5 : Nat) (Option.none : Option Jvm.ClassFile.FieldType)).before args0 about1 = true := code_word (m := ⟨2, 0⟩) (meth := k2m0) (c := k2c0) (by decide +kernel) rfl rfl rfl (by decide +kernel)
set_option maxRecDepth 65536 in
theorem w_c2 : (Jvm.Cond.code ({ cls := "java/lang/Object", name := "<init>", desc := "()V" } : Jvm.MethodName) object_method_1_code (1 : Nat) (Option.none : Option Jvm.ClassFile.FieldType)).before args0 about1 = true := code_word (m := ⟨0, 0⟩) (meth := k0m0) (c := k0c0) (by decide +kernel) rfl rfl rfl (by decide +kernel)
set_option maxRecDepth 65536 in
theorem w_c3 : (Jvm.Cond.code ({ cls := "com/example/muster/muster/solvers/Pheromone", name := "reset", desc := "()V" } : Jvm.MethodName) prog_48_method_2_code (9 : Nat) (Option.none : Option Jvm.ClassFile.FieldType)).before args0 about1 = true := code_word (m := ⟨2, 1⟩) (meth := k2m1) (c := k2c1) (by decide +kernel) rfl rfl rfl (by decide +kernel)
set_option maxRecDepth 65536 in
theorem w_c4 : (Jvm.Cond.code ({ cls := "java/util/Arrays", name := "fill", desc := "([DD)V" } : Jvm.MethodName) jdk_65_method_113_code (5 : Nat) (Option.none : Option Jvm.ClassFile.FieldType)).before args0 about1 = true := code_word (m := ⟨3, 1⟩) (meth := k3m1) (c := k3c1) (by decide +kernel) rfl rfl rfl (by decide +kernel)
set_option maxRecDepth 65536 in
theorem w_c5 : (Jvm.Cond.code ({ cls := "com/example/muster/muster/core/MpdaPlan", name := "<init>", desc := "([[I)V" } : Jvm.MethodName) prog_25_method_1_code (3 : Nat) (Option.none : Option Jvm.ClassFile.FieldType)).before args0 about1 = true := code_word (m := ⟨4, 0⟩) (meth := k4m0) (c := k4c0) (by decide +kernel) rfl rfl rfl (by decide +kernel)
set_option maxRecDepth 65536 in
theorem w_c6 : (Jvm.Cond.code ({ cls := "com/example/muster/muster/solvers/Pheromone", name := "deposit", desc := "(Lcom/example/muster/muster/core/MpdaPlan;D)V" } : Jvm.MethodName) prog_48_method_4_code (10 : Nat) (Option.none : Option Jvm.ClassFile.FieldType)).before args0 about1 = true := code_word (m := ⟨2, 3⟩) (meth := k2m3) (c := k2c3) (by decide +kernel) rfl rfl rfl (by decide +kernel)
set_option maxRecDepth 65536 in
theorem w_c7 : (Jvm.Cond.code ({ cls := "com/example/muster/muster/core/MpdaPlan", name := "robotCount", desc := "()I" } : Jvm.MethodName) prog_25_method_2_code (1 : Nat) (Option.some Jvm.ClassFile.FieldType.int)).before args0 about1 = true := code_word (m := ⟨4, 1⟩) (meth := k4m1) (c := k4c1) (by decide +kernel) rfl rfl rfl (by decide +kernel)
set_option maxRecDepth 65536 in
theorem w_c8 : (Jvm.Cond.code ({ cls := "com/example/muster/muster/core/MpdaPlan", name := "route", desc := "(I)[I" } : Jvm.MethodName) prog_25_method_3_code (2 : Nat) (Option.some (Jvm.ClassFile.FieldType.array Jvm.ClassFile.FieldType.int))).before args0 about1 = true := code_word (m := ⟨4, 2⟩) (meth := k4m2) (c := k4c2) (by decide +kernel) rfl rfl rfl (by decide +kernel)
set_option maxRecDepth 65536 in
theorem w_c9 : (Jvm.Cond.code ({ cls := "com/example/muster/muster/solvers/Pheromone", name := "update", desc := "()V" } : Jvm.MethodName) prog_48_method_5_code (6 : Nat) (Option.none : Option Jvm.ClassFile.FieldType)).before args0 about1 = true := code_word (m := ⟨2, 4⟩) (meth := k2m4) (c := k2c4) (by decide +kernel) rfl rfl rfl (by decide +kernel)
set_option maxRecDepth 65536 in
theorem w_c10 : (Jvm.Cond.code ({ cls := "com/example/muster/muster/solvers/Pheromone", name := "toward", desc := "(III)D" } : Jvm.MethodName) prog_48_method_3_code (4 : Nat) (Option.some Jvm.ClassFile.FieldType.double)).before args0 about1 = true := code_word (m := ⟨2, 2⟩) (meth := k2m2) (c := k2c2) (by decide +kernel) rfl rfl rfl (by decide +kernel)
def codes1 : List Jvm.Cond := [Jvm.Cond.code x code maxLocals ret, Jvm.Cond.code ({ cls := "com/example/muster/muster/solvers/Pheromone", name := "<init>", desc := "(IID)V" } : Jvm.MethodName) prog_48_method_1_code (5 : Nat) (Option.none : Option Jvm.ClassFile.FieldType), Jvm.Cond.code ({ cls := "java/lang/Object", name := "<init>", desc := "()V" } : Jvm.MethodName) object_method_1_code (1 : Nat) (Option.none : Option Jvm.ClassFile.FieldType), Jvm.Cond.code ({ cls := "com/example/muster/muster/solvers/Pheromone", name := "reset", desc := "()V" } : Jvm.MethodName) prog_48_method_2_code (9 : Nat) (Option.none : Option Jvm.ClassFile.FieldType), Jvm.Cond.code ({ cls := "java/util/Arrays", name := "fill", desc := "([DD)V" } : Jvm.MethodName) jdk_65_method_113_code (5 : Nat) (Option.none : Option Jvm.ClassFile.FieldType), Jvm.Cond.code ({ cls := "com/example/muster/muster/core/MpdaPlan", name := "<init>", desc := "([[I)V" } : Jvm.MethodName) prog_25_method_1_code (3 : Nat) (Option.none : Option Jvm.ClassFile.FieldType), Jvm.Cond.code ({ cls := "com/example/muster/muster/solvers/Pheromone", name := "deposit", desc := "(Lcom/example/muster/muster/core/MpdaPlan;D)V" } : Jvm.MethodName) prog_48_method_4_code (10 : Nat) (Option.none : Option Jvm.ClassFile.FieldType), Jvm.Cond.code ({ cls := "com/example/muster/muster/core/MpdaPlan", name := "robotCount", desc := "()I" } : Jvm.MethodName) prog_25_method_2_code (1 : Nat) (Option.some Jvm.ClassFile.FieldType.int), Jvm.Cond.code ({ cls := "com/example/muster/muster/core/MpdaPlan", name := "route", desc := "(I)[I" } : Jvm.MethodName) prog_25_method_3_code (2 : Nat) (Option.some (Jvm.ClassFile.FieldType.array Jvm.ClassFile.FieldType.int)), Jvm.Cond.code ({ cls := "com/example/muster/muster/solvers/Pheromone", name := "update", desc := "()V" } : Jvm.MethodName) prog_48_method_5_code (6 : Nat) (Option.none : Option Jvm.ClassFile.FieldType), Jvm.Cond.code ({ cls := "com/example/muster/muster/solvers/Pheromone", name := "toward", desc := "(III)D" } : Jvm.MethodName) prog_48_method_3_code (4 : Nat) (Option.some Jvm.ClassFile.FieldType.double)]
set_option maxRecDepth 65536 in
theorem codes_eq : words1.filter isCode = codes1 := rfl
theorem w_codes : ∀ c ∈ words1.filter isCode, c.before args0 about1 = true := by
  rw [codes_eq]
  intro c hc
  simp only [codes1, List.mem_cons, List.not_mem_nil, or_false] at hc
  rcases hc with rfl | rfl | rfl | rfl | rfl | rfl | rfl | rfl | rfl | rfl | rfl
  · exact w_c0
  · exact w_c1
  · exact w_c2
  · exact w_c3
  · exact w_c4
  · exact w_c5
  · exact w_c6
  · exact w_c7
  · exact w_c8
  · exact w_c9
  · exact w_c10
set_option maxRecDepth 65536 in
theorem w_t1 : (words1.take 24).all (fun c => isCode c || c.before args0 about1) = true := by decide +kernel
set_option maxRecDepth 65536 in
theorem w_t2 : ((words1.drop 24).take 24).all (fun c => isCode c || c.before args0 about1) = true := by decide +kernel
set_option maxRecDepth 65536 in
theorem w_t3 : (((words1.drop 24).drop 24).take 24).all (fun c => isCode c || c.before args0 about1) = true := by decide +kernel
set_option maxRecDepth 65536 in
theorem w_t4 : (((words1.drop 24).drop 24).drop 24).all (fun c => isCode c || c.before args0 about1) = true := by decide +kernel
theorem w_tables : (allAtoms (Jvm.Cond.code x code maxLocals ret :: tables_1)).before args0 about1 = true := by
  rw [allAtoms_all]
  show words1.all (fun c => c.before args0 about1) = true
  refine all_split ?_ w_codes
  rw [← List.take_append_drop 24 words1, List.all_append, w_t1, ← List.take_append_drop 24 (words1.drop 24), List.all_append, w_t2, ← List.take_append_drop 24 ((words1.drop 24).drop 24), List.all_append, w_t3, w_t4]
  rfl
set_option maxRecDepth 65536 in
theorem w_case : (Jvm.Cond.and given_1 narrow_1).before args0 about1 = true := by decide +kernel
theorem w_applies : (headSpec (Jvm.Cond.code x code maxLocals ret :: tables_1) room_1).applies x e0.platform about1 = true :=
  (Spec.applies_iff w_frames).mpr ⟨w_running, w_runnable, w_alone, w_named, w_hears, w_ripe, w_room, w_tables⟩
theorem atStart : AtStart classFile x code maxLocals ret World_1 tables_1 room_1 Calls_1 rest_1 Pre_1 launch0 p0 e0 about1 theMethod args0 below0 :=
  ⟨lists_1, trivial, launch0.admits_env _ _ _, launch0.least_env, fairChoices_fair.cas, fairChoices_fair.clock, w_frames, w_args, w_heap, w_applies, trivial, trivial, w_case⟩
end start1
theorem witness_1 : WitnessClaimed_1 := ⟨start1.p0, start1.e0, start1.about1, start1.theMethod, start1.args0, start1.below0, start1.atStart⟩
end Jvm.Pilot.@@N@@
