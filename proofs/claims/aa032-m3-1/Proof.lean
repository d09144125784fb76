import JvmDerived
import JvmDerived.Pilot.@@N@@Statement
import JvmDerived.Pilot.@@N@@Code
set_option linter.unusedVariables false
set_option linter.unusedSimpArgs false
set_option maxRecDepth 65536
set_option maxHeartbeats 40000000
namespace Jvm.Pilot.@@N@@
open Jvm Jvm.ClassFile Sem Op Lib Jvm.Free Jvm.Stand Jvm.LawKit Jvm.RoadKit Bundle Jvm.Pilot.@@N@@.Jvm.D
/-- from T the run comes to an end of which P speaks -/
def Go (p : Program) (e : Env) (below : List Frame) (P : Outcome → State → Prop) (T : State) : Prop := ∃ s₂ o, Steps p.tables e below T s₂ ∧ s₂.status = .running ∧ Ended s₂ below o ∧ P o s₂
theorem Go.via {p : Program} {e : Env} {below : List Frame} {P : Outcome → State → Prop} {T T' : State} (h : ∀ t, Steps p.tables e below T' t → Steps p.tables e below T t) (g : Go p e below P T') : Go p e below P T := by
  obtain ⟨s₂, o, a, b⟩ := g
  exact ⟨s₂, o, h _ a, b⟩
theorem Go.into {p : Program} {e : Env} {below : List Frame} {P : Outcome → State → Prop} {T : State} {g g' : JFrame} (q : g = g') (h : Go p e below P (T.setTop g')) : ∃ s₂ o, Steps p.tables e below (T.setTop g) s₂ ∧ s₂.status = .running ∧ Ended s₂ below o ∧ P o s₂ := by
  subst q; exact h
abbrev HW (a0 : Array Value) (Z : State) : Prop := ∀ d ∈ tables_1, d.before a0 Z = true
theorem Vi {p : Program} {e : Env} {below : List Frame} {P : Outcome → State → Prop} {T : State} (T' : State) (h : ∀ t, Steps p.tables e below T' t → Steps p.tables e below T t) (g : Go p e below P T') : Go p e below P T := Go.via h g
section Ret
variable {p : Program} {l : Launch} {e : Env} {R : Room} {s : State} {m : MethodId} {args : Array Value} {below : List Frame} {meth : Method} {c : Code} {T : State} {locs : List Loc} {cells slots K N : Nat}
theorem Go.fin (X : Stand p l e R s m args below meth c T locs cells slots) (hlk : meth.locks = false) {v : Option Value} (hv : meth.sig.returnType = none → v = none) {Q : Option Value → Heap → List Loc → Prop} {g : JFrame}
    (st : ∀ fs, (∀ (f : JFrame) (acts : List Action), f.method = m → f.locked = none → f.entered = [] → (doReturn e (T.setTop f) acts v).1 = T.setFrames fs) → Steps p.tables e below (T.setTop g) (T.setFrames fs))
    (hk : cells ≤ K) (hn : slots ≤ N) (hq : Q v T.heap locs) : Go p e below (fun o u => ∃ v L, o = .returned v ∧ Q v u.heap L ∧ FrameEnd s o u L K N) (T.setTop g) := by
  obtain ⟨fs, hr, hrun, hended, hW, hsame⟩ := X.leave (v := v) hv
  exact ⟨_, _, st fs hr, hrun, hended, _, _, rfl, hq, ⟨_, rfl⟩, hW, hsame.mono hk hn⟩
theorem Go.retI (X : Stand p l e R s m args below meth c T locs cells slots) (hx : p.tables.exec = Jvm.exec) (hlk : meth.locks = false) {Q : Option Value → Heap → List Loc → Prop} {pc : Nat} {Ls : Array Slot} {z : Int32} {rest : List Value} (hret : meth.sig.returnType = some .int) (hd : decode c.code pc = .ok (.ireturn, 1))
    (hk : cells ≤ K) (hn : slots ≤ N) (hq : Q (some (.int z)) T.heap locs) : Go p e below (fun o u => ∃ v L, o = .returned v ∧ Q v u.heap L ∧ FrameEnd s o u L K N) (T.setTop (mkF m pc Ls (.int z :: rest))) :=
  Go.fin X hlk (v := some (.int z)) (fun h => by rw [hret] at h; cases h) (fun fs hr => retOut X hx hret rfl (Or.inl ⟨rfl, Or.inl rfl, _, rfl⟩) hd hr) hk hn hq
theorem Go.retN (X : Stand p l e R s m args below meth c T locs cells slots) (hx : p.tables.exec = Jvm.exec) (hlk : meth.locks = false) {Q : Option Value → Heap → List Loc → Prop} {pc : Nat} {Ls : Array Slot} {z : Int32} {rest : List Value} {t : FieldType} (hret : meth.sig.returnType = some t) (ht : t = .boolean ∨ t = .byte ∨ t = .char ∨ t = .short) (hd : decode c.code pc = .ok (.ireturn, 1))
    (hk : cells ≤ K) (hn : slots ≤ N) (hq : Q (some (.int (nar t z))) T.heap locs) : Go p e below (fun o u => ∃ v L, o = .returned v ∧ Q v u.heap L ∧ FrameEnd s o u L K N) (T.setTop (mkF m pc Ls (.int z :: rest))) :=
  Go.fin X hlk (v := some (.int (nar t z))) (fun h => by rw [hret] at h; cases h) (fun fs hr => Jvm.RoadKit.retN X hx hret ht hd hr) hk hn hq
theorem Go.retJ (X : Stand p l e R s m args below meth c T locs cells slots) (hx : p.tables.exec = Jvm.exec) (hlk : meth.locks = false) {Q : Option Value → Heap → List Loc → Prop} {pc : Nat} {Ls : Array Slot} {z : Int64} {rest : List Value} (hret : meth.sig.returnType = some .long) (hd : decode c.code pc = .ok (.lreturn, 1))
    (hk : cells ≤ K) (hn : slots ≤ N) (hq : Q (some (.long z)) T.heap locs) : Go p e below (fun o u => ∃ v L, o = .returned v ∧ Q v u.heap L ∧ FrameEnd s o u L K N) (T.setTop (mkF m pc Ls (.long z :: rest))) :=
  Go.fin X hlk (v := some (.long z)) (fun h => by rw [hret] at h; cases h) (fun fs hr => retOut X hx hret rfl (Or.inr (Or.inl ⟨rfl, rfl, _, rfl⟩)) hd hr) hk hn hq
theorem Go.retR (X : Stand p l e R s m args below meth c T locs cells slots) (hx : p.tables.exec = Jvm.exec) (hlk : meth.locks = false) {Q : Option Value → Heap → List Loc → Prop} {pc : Nat} {Ls : Array Slot} {w : Value} {rest : List Value} {t : FieldType} (hret : meth.sig.returnType = some t) (ht : t.isReference = true) (hw : w.isRef = true) (hd : decode c.code pc = .ok (.areturn, 1))
    (hk : cells ≤ K) (hn : slots ≤ N) (hq : Q (some w) T.heap locs) : Go p e below (fun o u => ∃ v L, o = .returned v ∧ Q v u.heap L ∧ FrameEnd s o u L K N) (T.setTop (mkF m pc Ls (w :: rest))) :=
  Go.fin X hlk (v := some w) (fun h => by rw [hret] at h; cases h) (fun fs hr => retOut X hx hret (by rcases ref_cases hw with rfl | ⟨z, rfl⟩ <;> cases t <;> rfl) (Or.inr (Or.inr (Or.inr (Or.inr ⟨rfl, ht, hw⟩)))) hd hr) hk hn hq
theorem Go.retV (X : Stand p l e R s m args below meth c T locs cells slots) (hx : p.tables.exec = Jvm.exec) (hlk : meth.locks = false) {Q : Option Value → Heap → List Loc → Prop} {pc : Nat} {Ls : Array Slot} (hret : meth.sig.returnType = none) (hd : decode c.code pc = .ok (.return_, 1))
    (hk : cells ≤ K) (hn : slots ≤ N) (hq : Q none T.heap locs) : Go p e below (fun o u => ∃ v L, o = .returned v ∧ Q v u.heap L ∧ FrameEnd s o u L K N) (T.setTop (mkF m pc Ls [])) :=
  Go.fin X hlk (v := none) (fun _ => rfl) (fun fs hr => X.returnOut hx hret hd hr) hk hn hq
theorem Go.retNW {vm₁ : Vm} (X : Stand p l e R (s.setVm vm₁) m args below meth c T locs cells slots) (hx : p.tables.exec = Jvm.exec) {n : Nat} (hS : s.Since vm₁ n) (hnn : n ≤ T.heap.size) (hlk : meth.locks = false) {Q : Option Value → Heap → List Loc → Prop} {pc : Nat} {Ls : Array Slot} {z : Int32} {rest : List Value} {t : FieldType} (hret : meth.sig.returnType = some t) (ht : t = .boolean ∨ t = .byte ∨ t = .char ∨ t = .short) (hd : decode c.code pc = .ok (.ireturn, 1))
    (hk : cells ≤ K) (hn : slots ≤ N) (hq : Q (some (.int (nar t z))) T.heap locs) : Go p e below (fun o u => ∃ v L, o = .returned v ∧ Q v u.heap L ∧ ReturnedEndW s o u L K N) (T.setTop (mkF m pc Ls (.int z :: rest))) := by
  obtain ⟨fs, hr, hrun, hended, h1, h2, h3, h4⟩ := X.leaveW hS hnn (v := some (.int (nar t z))) (fun h => by rw [hret] at h; cases h) hlk
  exact ⟨_, _, Jvm.RoadKit.retN X hx hret ht hd hr, hrun, hended, _, _, rfl, hq, h1, h2, h3, h4.mono hk hn⟩
end Ret
theorem leW {a b : Nat} (h : a = b) : a ≤ b := Nat.le_of_eq h
abbrev sI (x : Int32) : Slot := .val (.int x)
abbrev sR (a : Addr) : Slot := .val (.ref a)
abbrev y1 : MethodName := ⟨"com/example/muster/muster/core/MpdaPlan", "<init>", "([[I)V"⟩
abbrev B1 := prog_25_method_1_code
abbrev y2 : MethodName := ⟨"java/lang/Object", "<init>", "()V"⟩
abbrev B2 := object_method_1_code
abbrev y3 : MethodName := ⟨"com/example/muster/muster/solvers/Pheromone", "<init>", "(IID)V"⟩
abbrev B3 := prog_48_method_1_code
abbrev y4 : MethodName := ⟨"com/example/muster/muster/solvers/Pheromone", "reset", "()V"⟩
abbrev B4 := prog_48_method_2_code
abbrev y5 : MethodName := ⟨"java/util/Arrays", "fill", "([DD)V"⟩
abbrev B5 := jdk_65_method_113_code
abbrev y6 : MethodName := ⟨"com/example/muster/muster/solvers/Pheromone", "toward", "(III)D"⟩
abbrev B6 := prog_48_method_3_code
abbrev y7 : MethodName := ⟨"com/example/muster/muster/solvers/Pheromone", "deposit", "(Lcom/example/muster/muster/core/MpdaPlan;D)V"⟩
abbrev B7 := prog_48_method_4_code
abbrev y8 : MethodName := ⟨"com/example/muster/muster/core/MpdaPlan", "robotCount", "()I"⟩
abbrev B8 := prog_25_method_2_code
abbrev y9 : MethodName := ⟨"com/example/muster/muster/core/MpdaPlan", "route", "(I)[I"⟩
abbrev B9 := prog_25_method_3_code
abbrev y10 : MethodName := ⟨"com/example/muster/muster/solvers/Pheromone", "update", "()V"⟩
abbrev B10 := prog_48_method_5_code
theorem wq {a0 : Array Value} {Z : State} (hw : HW a0 Z) (i : Nat) {d : Jvm.Cond} (h : tables_1[i]? = some d) : d.before a0 Z = true := hw d (List.mem_of_getElem? h)
theorem wz {args a0 : Array Value} {Z s : State} {d : Cond} (hZ : Z.Warmed39 s.vm) (hw : HW a0 Z) (i : Nat) (h : tables_1[i]? = some d) (hd : (d.onTables && d.keepsFace) = true := by first | rfl | simp [Cond.onTables, Cond.keepsFace, Cond.keeps, Cond.steady]) : d.before args s = true := mvT hZ (wq hw i h) hd
abbrev DC (b : ByteArray) (p : Nat) (i : Instr) (n : Nat) : Prop := decode b p = .ok (i, n)
theorem GF {p : Program} {l : Launch} {e : Env} {R : Room} {s : State} {m : MethodId} {args : Array Value} {below : List Frame} {meth : Method} {c : Code} {T : State} {locs : List Loc} {cells slots : Nat} {Z : State} {a0 : Array Value} {h : Heap} {P : Outcome → State → Prop} (X : Stand p l e R s m args below meth c T locs cells slots) (hx : p.tables.exec = Jvm.exec) (hZ : Z.Warmed39 s.vm) {own R0 n d : String} {index : Nat} (hown : s.vm.findClass own = some m.cls) (w : (Cond.fieldLink own index R0 n d).before a0 Z = true)
    (eT : T.heap = h) {a : Addr} {v : Value} (F : Fld Z h a R0 n d v) {pc : Nat} {Ls : Array Slot} {rest : List Value} (hd : decode c.code pc = .ok (.getfield index, 3)) (k : ∀ T', Stand p l e R s m args below meth c T' locs cells slots → T'.heap = h → Go p e below P (T'.setTop (mkF m (pc + 3) Ls (v :: rest)))) : Go p e below P (T.setTop (mkF m pc Ls (.ref a :: rest))) := by
  obtain ⟨T', X', e', st⟩ := getF X hx hZ hown (host := "") (Or.inl w) Via.refl eT F (g := mkF m pc Ls (.ref a :: rest)) rfl rfl hd
  exact Go.via st (k T' X' e')
theorem sn {Z : State} {a0 : Array Value} {C O n d O' n' d' : String} {a b : Addr} (L : Laid Z a0 C O n d) (L' : Laid Z a0 C O' n' d') (hn : n ≠ n' := by decide) (ht : (parseFieldDescriptor d).isSome = true := by decide) (ht' : (parseFieldDescriptor d').isSome = true := by decide) : b ≠ a ∨ Jvm.RoadKit.slotOf Z O n d ≠ Jvm.RoadKit.slotOf Z O' n' d' := by
  obtain ⟨t, q⟩ := Option.isSome_iff_exists.mp ht
  obtain ⟨t', q'⟩ := Option.isSome_iff_exists.mp ht'
  exact Or.inr (slot_ne L L' hn q q')
theorem Go.cut {p : Program} {e : Env} {below : List Frame} {P : Outcome → State → Prop} {T : State} (c : Prop) (T' : State) (a : c → Go p e below P T') (b : (c → Go p e below P T') → Go p e below P T) : Go p e below P T := b a
theorem own_eqi {t : Term} {n : Int32} {args : Array Value} {s : State} (h : (Cond.eq t (.int n)).value args s none s [] = some true) : t.eval args s none [] s = some (.int n) := by
  obtain ⟨x, y, h1, h2, k, -⟩ := cmp_v (Or.inl h)
  cases (show some y = some (Value.int n) from h2.symm)
  cases x with
  | int z => rw [h1]; congr 2; have q := h; simp [Cond.value, h1, Term.eval] at q; exact q
  | _ => simp [Kin, Value.isRef] at k
theorem own_ns1 {h : Heap} {a : Addr} {ws : List Addr} (q : ∀ cell : Cell, h[a]? = some cell → cell.vm.isStatics = false) (r : ∀ (x : Addr) (c : Cell), h[x]? = some c → c.vm.isStatics = true → x ∉ ws) : ∀ (x : Addr) (c : Cell), h[x]? = some c → c.vm.isStatics = true → x ∉ a :: ws := fun x c hx hc => ninS (fun e => by subst e; rw [q c hx] at hc; cases hc) (r x c hx hc)
theorem own_sk {Z : State} {h h' : Heap} {C n d : String} {v : Value} {ws : List Addr} (F : Sta Z h C n d v) (K : Keep h h' ws) (q : ∀ (x : Addr) (c : Cell), h[x]? = some c → c.vm.isStatics = true → x ∉ ws) : Sta Z h' C n d v := by
  obtain ⟨cf, i, k, f, st, cell, h1, h2, h3, h4, h5, h6, h7⟩ := F
  exact ⟨cf, i, k, f, st, cell, h1, h2, h3, h4, K.2.1 _ _ h5 (q _ _ h5 h6), h6, h7⟩

/-- an array of n places; place k holds g k -/
def AV (Z : State) (h : Heap) (a : Addr) (ty : FieldType) (n : Nat) (g : Nat → Value) : Prop := n < 2 ^ 31 ∧ ∃ c : Cell, Arr Z h a c ty ∧ c.slots.size = n ∧ ∀ k, k < n → c.slots[k]? = some (g k)
def up {α : Type} (f : Nat → α) (i : Nat) (v : α) : Nat → α := fun k => if k = i then v else f k
section AVs
variable {p : Program} {l : Launch} {e : Env} {R : Room} {s : State} {m : MethodId} {args : Array Value} {below : List Frame} {meth : Method} {c : Code} {T : State} {locs : List Loc} {cells slots : Nat}
variable {Z : State} {h h' : Heap} {a b : Addr} {ty : FieldType} {n : Nat} {g g' : Nat → Value} {sl : Nat} {v : Value} {ws : List Addr} {j : Int32}
theorem AV.lt (F : AV Z h a ty n g) : a < h.size := by obtain ⟨_, c, A, -⟩ := F; exact A.lt
theorem AV.ext (F : AV Z h a ty n g) (E : Ext h h') : AV Z h' a ty n g := by obtain ⟨q, c, A, r⟩ := F; exact ⟨q, c, A.ext E, r⟩
theorem AV.other (F : AV Z h b ty n g) (W : Wr h h' a sl v) (q : b ≠ a) : AV Z h' b ty n g := by obtain ⟨q', c, A, r⟩ := F; exact ⟨q', c, A.other W q, r⟩
theorem AV.keep (F : AV Z h a ty n g) (K : Keep h h' ws) (q : a ∉ ws) : AV Z h' a ty n g := by obtain ⟨q', c, A, r⟩ := F; exact ⟨q', c, ⟨K.2.1 a c A.1 q, A.2⟩, r⟩
theorem AV.congr (F : AV Z h a ty n g) (q : ∀ k, k < n → g k = g' k) : AV Z h a ty n g' := by obtain ⟨q', c, A, r1, r2⟩ := F; exact ⟨q', c, A, r1, fun k hk => by rw [← q k hk]; exact r2 k hk⟩
theorem AV.set (F : AV Z h a ty n g) (W : Wr h h' a sl v) : AV Z h' a ty n (up g sl v) := by
  obtain ⟨q', c, A, r1, r2⟩ := F
  refine ⟨q', _, A.same W, by rw [sz_set]; exact r1, fun k hk => ?_⟩
  by_cases u : k = sl
  · subst u; simp [Cell.setSlot, up, r1, hk]
  · simp only [Cell.setSlot, up, if_neg u]; rw [Array.getElem?_setIfInBounds_ne (Ne.symm u)]; exact r2 k hk
theorem AV.new {k : ClassId} {z : Int32} (A : Arr Z h a (newA k ty z) ty) : AV Z h a ty z.toNatClampNeg (fun _ => defaultValue ty) := by
  refine ⟨by have := Int32.toInt_lt z; simp only [Int32.toNatClampNeg]; omega, _, A, sz_new _ _ _, fun i hi => by simp [newA, hi]⟩
theorem AV.inb {cl : Cell} (hs : cl.slots.size = n) (hj : ¬ j < 0 ∧ j.toNatClampNeg < n) : ¬ (j < 0 ∨ cl.slots.size ≤ j.toNatClampNeg) := fun q => q.elim hj.1 fun q => by rw [hs] at q; exact absurd hj.2 (Nat.not_lt.mpr q)
theorem AV.len (F : AV Z h a ty n g) (X : Stand p l e R s m args below meth c T locs cells slots) (hx : p.tables.exec = Jvm.exec) (hZ : Z.Warmed39 s.vm) (eT : T.heap = h) {pc : Nat} {Ls : Array Slot} {rest : List Value} (hd : decode c.code pc = .ok (.arraylength, 1)) {t : State}
    (k : Steps p.tables e below (T.setTop (mkF m (pc + 1) Ls (.int (Int32.ofNat n) :: rest))) t) : Steps p.tables e below (T.setTop (mkF m pc Ls (.ref a :: rest))) t := by
  obtain ⟨q', cl, A, r1, r2⟩ := F
  subst r1
  exact X.arraylength hx (by rw [eT]; exact A.1) (State.isArrayOf_alike hZ.alike A.2.1) (g := mkF m pc Ls (.ref a :: rest)) rfl rfl hd _ k
theorem AV.iaload {f : Nat → Int32} (F : AV Z h a .int n (fun k => .int (f k))) (X : Stand p l e R s m args below meth c T locs cells slots) (hx : p.tables.exec = Jvm.exec) (hZ : Z.Warmed39 s.vm) (eT : T.heap = h) (hj : ¬ j < 0 ∧ j.toNatClampNeg < n) {pc : Nat} {Ls : Array Slot} {rest : List Value} (hd : decode c.code pc = .ok (.iaload, 1)) {t : State}
    (k : Steps p.tables e below (T.setTop (mkF m (pc + 1) Ls (.int (f j.toNatClampNeg) :: rest))) t) : Steps p.tables e below (T.setTop (mkF m pc Ls (.int j :: .ref a :: rest))) t := by
  obtain ⟨q', cl, A, r1, r2⟩ := F
  exact X.iaload hx (j := j) (v := .int (f j.toNatClampNeg)) (by rw [eT]; exact A.1) (State.isArrayOf_alike hZ.alike A.2.1) A.2.2 (AV.inb r1 hj) (r2 _ hj.2) (g := mkF m pc Ls (.int j :: .ref a :: rest)) rfl rfl hd _ k
theorem AV.laload {f : Nat → Int64} (F : AV Z h a .long n (fun k => .long (f k))) (X : Stand p l e R s m args below meth c T locs cells slots) (hx : p.tables.exec = Jvm.exec) (hZ : Z.Warmed39 s.vm) (eT : T.heap = h) (hj : ¬ j < 0 ∧ j.toNatClampNeg < n) {pc : Nat} {Ls : Array Slot} {rest : List Value} (hd : decode c.code pc = .ok (.laload, 1)) {t : State}
    (k : Steps p.tables e below (T.setTop (mkF m (pc + 1) Ls (.long (f j.toNatClampNeg) :: rest))) t) : Steps p.tables e below (T.setTop (mkF m pc Ls (.int j :: .ref a :: rest))) t := by
  obtain ⟨q', cl, A, r1, r2⟩ := F
  exact X.laload hx (j := j) (v := .long (f j.toNatClampNeg)) (by rw [eT]; exact A.1) (State.isArrayOf_alike hZ.alike A.2.1) A.2.2 (AV.inb r1 hj) (r2 _ hj.2) (g := mkF m pc Ls (.int j :: .ref a :: rest)) rfl rfl hd _ k
theorem AV.aaload (F : AV Z h a ty n g) (hty : ty.isReference = true) (X : Stand p l e R s m args below meth c T locs cells slots) (hx : p.tables.exec = Jvm.exec) (hZ : Z.Warmed39 s.vm) (eT : T.heap = h) (hj : ¬ j < 0 ∧ j.toNatClampNeg < n) {pc : Nat} {Ls : Array Slot} {rest : List Value} (hd : decode c.code pc = .ok (.aaload, 1)) {t : State}
    (k : Steps p.tables e below (T.setTop (mkF m (pc + 1) Ls (g j.toNatClampNeg :: rest))) t) : Steps p.tables e below (T.setTop (mkF m pc Ls (.int j :: .ref a :: rest))) t := by
  obtain ⟨q', cl, A, r1, r2⟩ := F
  exact X.aaload hx (j := j) (v := g j.toNatClampNeg) (by rw [eT]; exact A.1) (State.isArrayOf_alike hZ.alike A.2.1) hty A.2.2 (AV.inb r1 hj) (r2 _ hj.2) (g := mkF m pc Ls (.int j :: .ref a :: rest)) rfl rfl hd _ k
theorem AV.iastore {f : Nat → Int32} {x : Int32} (F : AV Z h a .int n (fun k => .int (f k))) (X : Stand p l e R s m args below meth c T locs cells slots) (hx : p.tables.exec = Jvm.exec) (hZ : Z.Warmed39 s.vm) (eT : T.heap = h) (hj : ¬ j < 0 ∧ j.toNatClampNeg < n) {pc : Nat} {Ls : Array Slot} {rest : List Value} (hd : decode c.code pc = .ok (.iastore, 1)) :
    ∃ T' h', Stand p l e R s m args below meth c T' (locs ++ [⟨a, j.toNatClampNeg⟩]) cells slots ∧ T'.heap = h' ∧ Wr h h' a j.toNatClampNeg (.int x) ∧ AV Z h' a .int n (fun k => .int (up f j.toNatClampNeg x k)) ∧
      ∀ t, Steps p.tables e below (T'.setTop (mkF m (pc + 1) Ls rest)) t → Steps p.tables e below (T.setTop (mkF m pc Ls (.int x :: .int j :: .ref a :: rest))) t := by
  have F0 := F
  obtain ⟨q', cl, A, r1, r2⟩ := F
  obtain ⟨T', h', X', e', W, st⟩ := stI X hx hZ eT A (j := j) (AV.inb r1 hj) (g := mkF m pc Ls (.int x :: .int j :: .ref a :: rest)) rfl rfl hd
  exact ⟨T', h', X', e', W, (F0.set W).congr (fun k _ => by unfold up; split <;> rfl), st⟩
theorem AV.lastore {f : Nat → Int64} {x : Int64} (F : AV Z h a .long n (fun k => .long (f k))) (X : Stand p l e R s m args below meth c T locs cells slots) (hx : p.tables.exec = Jvm.exec) (hZ : Z.Warmed39 s.vm) (eT : T.heap = h) (hj : ¬ j < 0 ∧ j.toNatClampNeg < n) {pc : Nat} {Ls : Array Slot} {rest : List Value} (hd : decode c.code pc = .ok (.lastore, 1)) :
    ∃ T' h', Stand p l e R s m args below meth c T' (locs ++ [⟨a, j.toNatClampNeg⟩]) cells slots ∧ T'.heap = h' ∧ Wr h h' a j.toNatClampNeg (.long x) ∧ AV Z h' a .long n (fun k => .long (up f j.toNatClampNeg x k)) ∧
      ∀ t, Steps p.tables e below (T'.setTop (mkF m (pc + 1) Ls rest)) t → Steps p.tables e below (T.setTop (mkF m pc Ls (.long x :: .int j :: .ref a :: rest))) t := by
  have F0 := F
  obtain ⟨q', cl, A, r1, r2⟩ := F
  obtain ⟨T', h', X', e', W, st⟩ := stJ X hx hZ eT A (j := j) (AV.inb r1 hj) (g := mkF m pc Ls (.long x :: .int j :: .ref a :: rest)) rfl rfl hd
  exact ⟨T', h', X', e', W, (F0.set W).congr (fun k _ => by unfold up; split <;> rfl), st⟩
theorem AV.bastoreZ {f : Nat → Int32} {x : Int32} (F : AV Z h a .boolean n (fun k => .int (f k))) (X : Stand p l e R s m args below meth c T locs cells slots) (hx : p.tables.exec = Jvm.exec) (hZ : Z.Warmed39 s.vm) (eT : T.heap = h) (hj : ¬ j < 0 ∧ j.toNatClampNeg < n) {pc : Nat} {Ls : Array Slot} {rest : List Value} (hd : decode c.code pc = .ok (.bastore, 1)) :
    ∃ T' h', Stand p l e R s m args below meth c T' (locs ++ [⟨a, j.toNatClampNeg⟩]) cells slots ∧ T'.heap = h' ∧ Wr h h' a j.toNatClampNeg (.int (nar .boolean x)) ∧ AV Z h' a .boolean n (fun k => .int (up f j.toNatClampNeg (nar .boolean x) k)) ∧
      ∀ t, Steps p.tables e below (T'.setTop (mkF m (pc + 1) Ls rest)) t → Steps p.tables e below (T.setTop (mkF m pc Ls (.int x :: .int j :: .ref a :: rest))) t := by
  have F0 := F
  obtain ⟨q', cl, A, r1, r2⟩ := F
  obtain ⟨T', h', X', e', W, st⟩ := stZ X hx hZ eT A (j := j) (AV.inb r1 hj) (g := mkF m pc Ls (.int x :: .int j :: .ref a :: rest)) rfl rfl hd
  exact ⟨T', h', X', e', W, (F0.set W).congr (fun k _ => by unfold up; split <;> rfl), st⟩
theorem AV.aastore (F : AV Z h a ty n g) (hty : ty.isReference = true) (S : Sto Z h a v) (X : Stand p l e R s m args below meth c T locs cells slots) (hx : p.tables.exec = Jvm.exec) (hZ : Z.Warmed39 s.vm) (eT : T.heap = h) (hj : ¬ j < 0 ∧ j.toNatClampNeg < n) {pc : Nat} {Ls : Array Slot} {rest : List Value} (hd : decode c.code pc = .ok (.aastore, 1)) :
    ∃ T' h', Stand p l e R s m args below meth c T' (locs ++ [⟨a, j.toNatClampNeg⟩]) cells slots ∧ T'.heap = h' ∧ Wr h h' a j.toNatClampNeg v ∧ AV Z h' a ty n (up g j.toNatClampNeg v) ∧
      ∀ t, Steps p.tables e below (T'.setTop (mkF m (pc + 1) Ls rest)) t → Steps p.tables e below (T.setTop (mkF m pc Ls (v :: .int j :: .ref a :: rest))) t := by
  have F0 := F
  obtain ⟨q', cl, A, r1, r2⟩ := F
  obtain ⟨T', h', X', e', W, st⟩ := stR X hx hZ eT A (j := j) (AV.inb r1 hj) hty S (g := mkF m pc Ls (v :: .int j :: .ref a :: rest)) rfl rfl hd
  exact ⟨T', h', X', e', W, F0.set W, st⟩
end AVs
/-- what may lie in an array of arrays -/
def OV (Z : State) (h : Heap) (a : Addr) (ty : FieldType) (C : String) : Prop := ∃ cl : Cell, h[a]? = some cl ∧ OvrA Z cl.cls ty C
section OVs
variable {Z : State} {h h' : Heap} {a b : Addr} {ty t0 : FieldType} {C : String} {n : Nat} {g : Nat → Value} {sl : Nat} {v : Value} {ws : List Addr}
theorem OV.ext (F : OV Z h a ty C) (E : Ext h h') : OV Z h' a ty C := by obtain ⟨cl, q, O⟩ := F; exact ⟨cl, E.2 _ _ q, O⟩
theorem OV.wr (F : OV Z h a ty C) (W : Wr h h' b sl v) : OV Z h' a ty C := by
  obtain ⟨cl, q, O⟩ := F; obtain ⟨c', e1, e2, -⟩ := wr_at W q; exact ⟨c', e1, by rw [e2]; exact O⟩
theorem OV.keep (F : OV Z h a ty C) (K : Keep h h' ws) : OV Z h' a ty C := by
  obtain ⟨cl, q, O⟩ := F; obtain ⟨c', e1, e2, -⟩ := K.2.2 _ _ q; exact ⟨c', e1, by rw [e2]; exact O⟩
theorem OV.sto (F : OV Z h a ty C) (A : AV Z h a t0 n g) (I : Ins Z h b C true) : Sto Z h a (.ref b) := by
  obtain ⟨cl, q, O⟩ := F; obtain ⟨-, c, A', -⟩ := A; cases q.symm.trans A'.1; exact Sto.ofVA A' rfl O I
end OVs
section AVc
variable {p : Program} {l : Launch} {e : Env} {R : Room} {s : State} {m : MethodId} {args : Array Value} {below : List Frame} {meth : Method} {c : Code} {T : State} {locs : List Loc} {cells slots : Nat}
variable {Z : State} {h : Heap} {a : Addr} {ty : FieldType} {n : Nat} {g0 : Nat → Value} {a0 : Array Value}
theorem AV.clone (F : AV Z h a ty n g0) (ht : ∀ k, k < n → fits ty (g0 k) = true) (X : Stand p l e R s m args below meth c T locs cells slots) (hx : p.tables.exec = Jvm.exec) (hZ : Z.Warmed39 s.vm) {own ad : String} {index : Nat} (hown : s.vm.findClass own = some m.cls)
    (w1 : (Cond.methodLink own index ⟨ad, "clone", "()Ljava/lang/Object;"⟩).before a0 Z = true) (w2 : (Cond.sameMethod ad "java/lang/Object" "clone" "()Ljava/lang/Object;").before a0 Z = true) (w3 : (Cond.native ⟨"java/lang/Object", "clone", "()Ljava/lang/Object;"⟩).before a0 Z = true)
    (w4 : (Cond.instanceMethod ⟨"java/lang/Object", "clone", "()Ljava/lang/Object;"⟩).before a0 Z = true) (w5 : (Cond.selects ad ⟨ad, "clone", "()Ljava/lang/Object;"⟩ ⟨"java/lang/Object", "clone", "()Ljava/lang/Object;"⟩).before a0 Z = true) (w6 : (Cond.castable ad "java/lang/Cloneable").before a0 Z = true)
    (eT : T.heap = h) (E : Exa Z h a ad) {g : JFrame} (hg : g.method = m) (hsize : g.locals.size = c.maxLocals) {rest : List Value} (hst : g.stack = .ref a :: rest) (hd : decode c.code g.pc = .ok (.invokevirtual index, 3))
    (hf : 1 ≤ R.frames) {W cap : Nat} (hW : 2 * g.monitorRoom + (rest.map fun v => v.category).sum ≤ W) (hl : W + 14 ≤ R.locals) (hcap : n ≤ cap) (hc : cells + 1 ≤ R.cells) (hsl : slots + cap ≤ R.slots) :
    ∃ T' h', Stand p l e R s m args below meth c T' locs (cells + 1) (slots + cap) ∧ T'.heap = h' ∧ Ext h h' ∧ AV Z h' h.size ty n g0 ∧ Exa Z h' h.size ad ∧
      ∀ target, Steps p.tables e below (T'.setTop { g with pc := g.pc + 3, stack := .ref h.size :: rest }) target → Steps p.tables e below (T.setTop g) target := by
  obtain ⟨q0, cl, A, S, H⟩ := F
  have FC : FitC Z cl := fitC_of A fun i hi v hv => by
    rw [S] at hi; rw [H i hi] at hv; cases hv; exact ht i hi
  obtain ⟨T', h', X', e', ex, A', E', st⟩ := cloneA X hx hZ hown w1 w2 w3 w4 w5 w6 eT A E FC hg hsize hst hd hf hW hl (by rw [S]; exact hcap) hc hsl
  exact ⟨T', h', X', e', ex, ⟨q0, cloneOf cl, A', S, H⟩, E', st⟩
end AVc

section Dbl
variable {p : Program} {l : Launch} {e : Env} {R : Room} {s : State} {m : MethodId} {args : Array Value} {below : List Frame} {meth : Method} {c : Code} {T : State} {locs : List Loc} {cells slots : Nat} {Z : State} {a : Addr} {h h' : Heap} {n : Nat} {j : Int32}
theorem AV.daload {f : Nat → UInt64} (F : AV Z h a .double n (fun k => .double (f k))) (X : Stand p l e R s m args below meth c T locs cells slots) (hx : p.tables.exec = Jvm.exec) (hZ : Z.Warmed39 s.vm) (eT : T.heap = h) (hj : ¬ j < 0 ∧ j.toNatClampNeg < n) {pc : Nat} {Ls : Array Slot} {rest : List Value} (hd : decode c.code pc = .ok (.daload, 1)) {t : State}
    (k : Steps p.tables e below (T.setTop (mkF m (pc + 1) Ls (.double (f j.toNatClampNeg) :: rest))) t) : Steps p.tables e below (T.setTop (mkF m pc Ls (.int j :: .ref a :: rest))) t := by
  obtain ⟨q', cl, A, r1, r2⟩ := F
  exact X.daload hx (j := j) (v := .double (f j.toNatClampNeg)) (by rw [eT]; exact A.1) (State.isArrayOf_alike hZ.alike A.2.1) A.2.2 (AV.inb r1 hj) (r2 _ hj.2) (g := mkF m pc Ls (.int j :: .ref a :: rest)) rfl rfl hd _ k
theorem AV.dastore {f : Nat → UInt64} {x : UInt64} (F : AV Z h a .double n (fun k => .double (f k))) (X : Stand p l e R s m args below meth c T locs cells slots) (hx : p.tables.exec = Jvm.exec) (hZ : Z.Warmed39 s.vm) (eT : T.heap = h) (hj : ¬ j < 0 ∧ j.toNatClampNeg < n) {pc : Nat} {Ls : Array Slot} {rest : List Value} (hd : decode c.code pc = .ok (.dastore, 1)) :
    ∃ T' h', Stand p l e R s m args below meth c T' (locs ++ [⟨a, j.toNatClampNeg⟩]) cells slots ∧ T'.heap = h' ∧ Wr h h' a j.toNatClampNeg (.double x) ∧ AV Z h' a .double n (fun k => .double (up f j.toNatClampNeg x k)) ∧
      ∀ t, Steps p.tables e below (T'.setTop (mkF m (pc + 1) Ls rest)) t → Steps p.tables e below (T.setTop (mkF m pc Ls (.double x :: .int j :: .ref a :: rest))) t := by
  have F0 := F
  obtain ⟨q', cl, A, r1, r2⟩ := F
  obtain ⟨T', h', X', e', W, st⟩ := stD X hx hZ eT A (j := j) (AV.inb r1 hj) (g := mkF m pc Ls (.double x :: .int j :: .ref a :: rest)) rfl rfl hd
  exact ⟨T', h', X', e', W, (F0.set W).congr (fun k _ => by unfold up; split <;> rfl), st⟩
theorem Go.retD {K N : Nat} (X : Stand p l e R s m args below meth c T locs cells slots) (hx : p.tables.exec = Jvm.exec) (hlk : meth.locks = false) {Q : Option Value → Heap → List Loc → Prop} {pc : Nat} {Ls : Array Slot} {z : UInt64} {rest : List Value} (hret : meth.sig.returnType = some .double) (hd : decode c.code pc = .ok (.dreturn, 1))
    (hk : cells ≤ K) (hn : slots ≤ N) (hq : Q (some (.double z)) T.heap locs) : Go p e below (fun o u => ∃ v L, o = .returned v ∧ Q v u.heap L ∧ FrameEnd s o u L K N) (T.setTop (mkF m pc Ls (.double z :: rest))) :=
  Go.fin X hlk (v := some (.double z)) (fun h => by rw [hret] at h; cases h) (fun fs hr => retOut X hx hret rfl (Or.inr (Or.inr (Or.inl ⟨rfl, rfl, _, rfl⟩))) hd hr) hk hn hq
end Dbl

section Multi3
open Jvm.Free.Multi
def own_o (c : ClassId) (N M a : Nat) : Nat → Cell
  | 0 => { cls := c, slots := Array.replicate N .null, vm := .none }
  | i + 1 => (own_o c N M a i).setSlot i (.ref (a + 1 + i * (1 + M)))
def own_g (s : State) (c c1 c2 : ClassId) (N M K : Nat) (dv : Value) : Nat → State
  | 0 => s.pushCell (own_o c N M s.heap.size 0)
  | i + 1 => (Jvm.Free.Multi.fill (own_g s c c1 c2 N M K dv i) c1 c2 M K dv M).setCell s.heap.size (own_o c N M s.heap.size (i + 1))
theorem own_o_facts (c : ClassId) (N M a : Nat) : ∀ i, (own_o c N M a i).cls = c ∧ (own_o c N M a i).vm = .none ∧ (own_o c N M a i).slots.size = N
  | 0 => ⟨rfl, rfl, by simp [own_o]⟩
  | i + 1 => by
    obtain ⟨x, y, z⟩ := own_o_facts c N M a i
    exact ⟨by simp [own_o, Cell.setSlot, x], by simp [own_o, Cell.setSlot, y], by simp [own_o, Cell.setSlot, z]⟩
theorem own_o_slot (c : ClassId) (N M a : Nat) : ∀ i j, j < N → (own_o c N M a i).slots[j]? = some (if j < i then .ref (a + 1 + j * (1 + M)) else .null)
  | 0, j, h => by simp [own_o, h]
  | i + 1, j, h => by
    have ih := own_o_slot c N M a i j h
    have hs := (own_o_facts c N M a i).2.2
    show ((own_o c N M a i).setSlot i (.ref (a + 1 + i * (1 + M)))).slots[j]? = _
    simp only [Cell.setSlot, Array.getElem?_setIfInBounds]
    by_cases e : i = j
    · subst e; simp [hs, h]
    · rw [if_neg e, ih]
      by_cases hj : j < i
      · rw [if_pos hj, if_pos (by omega)]
      · rw [if_neg hj, if_neg (by omega)]
section
variable (s : State) (c c1 c2 : ClassId) (N M K : Nat) (dv : Value)
theorem own_g_facts : ∀ i, (own_g s c c1 c2 N M K dv i).heap.size = s.heap.size + 1 + i * (1 + M) ∧ (own_g s c c1 c2 N M K dv i).heap[s.heap.size]? = some (own_o c N M s.heap.size i) ∧ (own_g s c c1 c2 N M K dv i).vm = s.vm ∧ (own_g s c c1 c2 N M K dv i).slotsUsed = s.slotsUsed + N + i * (M + M * K)
  | 0 => ⟨by simp [own_g], by simp [own_g], rfl, by simp [own_g, own_o]⟩
  | i + 1 => by
    obtain ⟨a, b, d, u⟩ := own_g_facts i
    obtain ⟨f1, f2, f3, f4⟩ := fill_facts (own_g s c c1 c2 N M K dv i) c1 c2 M K dv M
    have hlt : s.heap.size < (own_g s c c1 c2 N M K dv i).heap.size := by rw [a]; omega
    have hb' : (Jvm.Free.Multi.fill (own_g s c c1 c2 N M K dv i) c1 c2 M K dv M).heap[s.heap.size]? = some (own_o c N M s.heap.size i) := by rw [fill_old _ _ _ _ _ _ hlt]; exact b
    refine ⟨?_, State.heap_setCell_self hb', by simp [own_g, f3, d], ?_⟩
    · simp only [own_g, State.setCell]
      simp [f1, a, Nat.succ_mul]; omega
    · simp only [own_g]
      simp [f4, u, Nat.succ_mul]; omega
theorem own_g_setTop (f : JFrame) : ∀ i, own_g (s.setTop f) c c1 c2 N M K dv i = (own_g s c c1 c2 N M K dv i).setTop f
  | 0 => rfl
  | i + 1 => by simp only [own_g, own_g_setTop f i, fill_setTop, State.heap_setTop, State.setCell_setTop]
theorem own_g_old {a : Addr} (ha : a < s.heap.size) : ∀ i, (own_g s c c1 c2 N M K dv i).heap[a]? = s.heap[a]?
  | 0 => State.heap_pushCell_of_lt _ _ ha
  | i + 1 => by
    have f1 := (own_g_facts s c c1 c2 N M K dv i).1
    have hlt : a < (own_g s c c1 c2 N M K dv i).heap.size := Nat.lt_of_lt_of_le ha (by rw [f1]; omega)
    show ((Jvm.Free.Multi.fill (own_g s c c1 c2 N M K dv i) c1 c2 M K dv M).setCell s.heap.size _).heap[a]? = _
    rw [State.heap_setCell_other (Nat.ne_of_gt ha), fill_old _ _ _ _ _ _ hlt]
    exact own_g_old ha i
theorem own_g_row : ∀ i j, j < i → (own_g s c c1 c2 N M K dv i).heap[s.heap.size + 1 + j * (1 + M)]? = some (outerC c1 M (s.heap.size + 1 + j * (1 + M)) M)
  | 0, _, h => absurd h (Nat.not_lt_zero _)
  | i + 1, j, h => by
    have f1 := (own_g_facts s c c1 c2 N M K dv i).1
    show ((Jvm.Free.Multi.fill (own_g s c c1 c2 N M K dv i) c1 c2 M K dv M).setCell s.heap.size _).heap[s.heap.size + 1 + j * (1 + M)]? = _
    rw [State.heap_setCell_other (show s.heap.size ≠ s.heap.size + 1 + j * (1 + M) by omega)]
    rcases Nat.lt_or_ge j i with hj | hj
    · have : j * (1 + M) < i * (1 + M) := Nat.mul_lt_mul_of_pos_right hj (by omega)
      have hlt : s.heap.size + 1 + j * (1 + M) < (own_g s c c1 c2 N M K dv i).heap.size := by rw [f1]; omega
      rw [fill_old _ _ _ _ _ _ hlt]
      exact own_g_row i j hj
    · have e : j = i := by omega
      subst e
      rw [← f1]
      exact (fill_facts (own_g s c c1 c2 N M K dv j) c1 c2 M K dv M).2.1
theorem own_g_in : ∀ i j q, j < i → q < M → (own_g s c c1 c2 N M K dv i).heap[s.heap.size + 1 + j * (1 + M) + 1 + q]? = some (innerC c2 K dv)
  | 0, _, _, h, _ => absurd h (Nat.not_lt_zero _)
  | i + 1, j, q, h, hq => by
    have f1 := (own_g_facts s c c1 c2 N M K dv i).1
    show ((Jvm.Free.Multi.fill (own_g s c c1 c2 N M K dv i) c1 c2 M K dv M).setCell s.heap.size _).heap[s.heap.size + 1 + j * (1 + M) + 1 + q]? = _
    rw [State.heap_setCell_other (show s.heap.size ≠ s.heap.size + 1 + j * (1 + M) + 1 + q by omega)]
    rcases Nat.lt_or_ge j i with hj | hj
    · have : (j + 1) * (1 + M) ≤ i * (1 + M) := Nat.mul_le_mul_right _ hj
      rw [Nat.succ_mul] at this
      have hlt : s.heap.size + 1 + j * (1 + M) + 1 + q < (own_g s c c1 c2 N M K dv i).heap.size := by rw [f1]; omega
      rw [fill_old _ _ _ _ _ _ hlt]
      exact own_g_in i j q hj hq
    · have e : j = i := by omega
      subst e
      rw [← f1]
      exact fill_inner (own_g s c c1 c2 N M K dv j) c1 c2 M K dv M q hq
end
theorem own_wp3 {E : CtlPost} {e : Env} {d : Bool} {acts : List Action} {s : State} {c c1 c2 cc : ClassId} {k k1 k2 : Class} {t0 t1 type : FieldType} {n m q : Int32} (hk : s.vm.classes[c]? = some k) (hkind : k.kind = .array c1 t0) (href : t0.isReference = true)
    (hk1 : s.vm.classes[c1]? = some k1) (hkind1 : k1.kind = .array c2 t1) (href1 : t1.isReference = true) (hk2 : s.vm.classes[c2]? = some k2) (hkind2 : k2.kind = .array cc type) (hn : ¬ n < 0) (hm : ¬ m < 0) (hq0 : ¬ q < 0)
    (hl0 : ¬ n.toNatClampNeg > e.platform.arrayLengthLimit) (hh0 : ¬ n.toNatClampNeg * componentBytes t0 > e.platform.maxHeapBytes)
    (hl1 : ¬ m.toNatClampNeg > e.platform.arrayLengthLimit) (hh1 : ¬ m.toNatClampNeg * componentBytes t1 > e.platform.maxHeapBytes)
    (hl2 : ¬ q.toNatClampNeg > e.platform.arrayLengthLimit) (hh2 : ¬ q.toNatClampNeg * componentBytes type > e.platform.maxHeapBytes)
    (hdf : fits type (defaultValue type) = true) (hdd : (defaultValue type).isDefault = true)
    (hc : s.heap.size + 1 + n.toNatClampNeg * (1 + m.toNatClampNeg) ≤ e.platform.maxCells) (hs : s.slotsUsed + n.toNatClampNeg + n.toNatClampNeg * (m.toNatClampNeg + m.toNatClampNeg * q.toNatClampNeg) ≤ e.platform.maxSlots)
    {Q : Addr → Pre} (hQ : ∀ d' acts', Q s.heap.size d' acts' (own_g s c c1 c2 n.toNatClampNeg m.toNatClampNeg q.toNatClampNeg (defaultValue type) n.toNatClampNeg)) :
    wp (multianewarray.make c [n, m, q]) Q E e d acts s := by
  have hfind : ([m, q].find? (· < 0)) = none := by simp [hm, hq0]
  rw [multianewarray.make]
  simp only [wp_bind', W.ite, hn, if_false, wp_pure', W.theClass, hk, hkind, Option.some.injEq, exists_eq_left']
  refine wp_newArray hk hkind hl0 hh0 (refFits href _ (Or.inl rfl)) rfl (by omega) (by have := Nat.zero_le (n.toNatClampNeg * (m.toNatClampNeg + m.toNatClampNeg * q.toNatClampNeg)); omega) ?_
  simp only [hfind]
  rw [ite_self, wp_bind', Std.Legacy.Range.forIn_eq_forIn_range']
  have hsz : ([:n.toNatClampNeg] : Std.Legacy.Range).size = n.toNatClampNeg := by simp [Std.Legacy.Range.size]
  rw [hsz]
  show wp (forIn (List.range' 0 n.toNatClampNeg 1) PUnit.unit _) _ E e d acts _
  refine wp_forIn_inv (fun rest s' => ∃ i, i ≤ n.toNatClampNeg ∧ rest = List.range' i (n.toNatClampNeg - i) ∧ s' = own_g s c c1 c2 n.toNatClampNeg m.toNatClampNeg q.toNatClampNeg (defaultValue type) i) _ _ ⟨0, Nat.zero_le _, rfl, rfl⟩ ?_ ?_
  · rintro x rest s' d' acts' Q' ⟨i, hi, hl, rfl⟩ hnext
    have hlt : i < n.toNatClampNeg := by
      rcases Nat.lt_or_ge i n.toNatClampNeg with h | h
      · exact h
      · rw [show n.toNatClampNeg - i = 0 from by omega] at hl; simp at hl
    obtain ⟨rfl, hrest⟩ : x = i ∧ rest = List.range' (i + 1) (n.toNatClampNeg - (i + 1)) := by
      rw [show n.toNatClampNeg - i = (n.toNatClampNeg - (i + 1)) + 1 from by omega, List.range'_succ] at hl
      exact ⟨(List.cons.inj hl).1, (List.cons.inj hl).2⟩
    obtain ⟨f1, f2, f3, f4⟩ := own_g_facts s c c1 c2 n.toNatClampNeg m.toNatClampNeg q.toNatClampNeg (defaultValue type) x
    obtain ⟨o1, o2, o3⟩ := own_o_facts c n.toNatClampNeg m.toNatClampNeg s.heap.size x
    have hm1 : x * (1 + m.toNatClampNeg) + (1 + m.toNatClampNeg) ≤ n.toNatClampNeg * (1 + m.toNatClampNeg) := by
      have := Nat.mul_le_mul_right (1 + m.toNatClampNeg) (show x + 1 ≤ n.toNatClampNeg from hlt)
      rw [Nat.succ_mul] at this; exact this
    have hm2 : x * (m.toNatClampNeg + m.toNatClampNeg * q.toNatClampNeg) + (m.toNatClampNeg + m.toNatClampNeg * q.toNatClampNeg) ≤ n.toNatClampNeg * (m.toNatClampNeg + m.toNatClampNeg * q.toNatClampNeg) := by
      have := Nat.mul_le_mul_right (m.toNatClampNeg + m.toNatClampNeg * q.toNatClampNeg) (show x + 1 ≤ n.toNatClampNeg from hlt)
      rw [Nat.succ_mul] at this; exact this
    simp only [wp_bind']
    refine wp_make2 (k := k1) (kc := k2) (comp := c2) (cc := cc) (t0 := t1) (type := type) (by rw [f3]; exact hk1) hkind1 href1 (by rw [f3]; exact hk2) hkind2 hm hq0 hl1 hh1 hl2 hh2 hdf hdd (by rw [f1]; omega) (by rw [f4]; omega) (fun d2 acts2 => ?_)
    have hlt0 : s.heap.size < (own_g s c c1 c2 n.toNatClampNeg m.toNatClampNeg q.toNatClampNeg (defaultValue type) x).heap.size := by rw [f1]; omega
    simp only [wp_bind', W.writeLoc, wp_pure']
    refine ⟨own_o c n.toNatClampNeg m.toNatClampNeg s.heap.size x, by rw [fill_old _ _ _ _ _ _ hlt0]; exact f2, by rw [o2]; simp, by rw [o3]; exact hlt, ?_, hnext _ _ _ ⟨x + 1, hlt, hrest, ?_⟩⟩
    · rw [o1, o2]
      simp [State.fitsSlot, State.slotType?, (fill_facts _ _ _ _ _ _ _).2.2.1, f3, hk, hkind, refFits href _ (Or.inr ⟨_, rfl⟩)]
    · rw [f1]; rfl
  · rintro s' d' acts' ⟨i, hi, hl, rfl⟩
    have hiN : i = n.toNatClampNeg := by
      rcases Nat.lt_or_ge i n.toNatClampNeg with h | h
      · rw [show n.toNatClampNeg - i = (n.toNatClampNeg - (i + 1)) + 1 from by omega, List.range'_succ] at hl; cases hl
      · omega
    subst hiN
    simp only [wp_pure']
    exact hQ _ _
end Multi3
section Multi3b
open Jvm.Free.Multi
variable {p : Program} {l : Launch} {e : Env} {R : Room} {s : State} {m : MethodId} {args : Array Value} {below : List Frame} {meth : Method} {c : Code} {T : State} {locs : List Loc} {cells slots : Nat} {Z : State} {a0 : Array Value} {h : Heap}
theorem own_gr (X : Stand p l e R s m args below meth c T locs cells slots) (cA c1 c2 : ClassId) (N M K : Nat) (dv : Value) : ∀ i, ∃ L : List Loc, (∀ x ∈ L, T.heap.size ≤ x.base) ∧ Stand p l e R s m args below meth c (own_g T cA c1 c2 N M K dv i) (locs ++ L) (cells + 1 + i * (1 + M)) (slots + N + i * (M + M * K))
  | 0 => ⟨[], by simp, by
    have h := X.pushed (own_o cA N M T.heap.size 0)
    rw [(own_o_facts cA N M T.heap.size 0).2.2] at h
    simpa [own_g] using h⟩
  | i + 1 => by
    obtain ⟨L, hL, Xi⟩ := own_gr X cA c1 c2 N M K dv i
    obtain ⟨f1, f2, f3, f4⟩ := own_g_facts T cA c1 c2 N M K dv i
    have Xf := Xi.filled c1 c2 M K dv M
    have hlt : T.heap.size < (own_g T cA c1 c2 N M K dv i).heap.size := by rw [f1]; omega
    have hcell : (Jvm.Free.Multi.fill (own_g T cA c1 c2 N M K dv i) c1 c2 M K dv M).heap[T.heap.size]? = some (own_o cA N M T.heap.size i) := by rw [fill_old _ _ _ _ _ _ hlt]; exact f2
    have h := Xf.stored hcell i (.ref (T.heap.size + 1 + i * (1 + M)))
    refine ⟨L ++ (List.range M).map (fun j => ⟨(own_g T cA c1 c2 N M K dv i).heap.size, j⟩) ++ [⟨T.heap.size, i⟩], ?_, ?_⟩
    · intro x hx
      simp only [List.mem_append, List.mem_map, List.mem_singleton] at hx
      rcases hx with (hx | ⟨j, -, rfl⟩) | rfl
      · exact hL x hx
      · exact Nat.le_of_lt hlt
      · exact Nat.le_refl _
    · have e1 : cells + 1 + (i + 1) * (1 + M) = cells + 1 + i * (1 + M) + 1 + M := by rw [Nat.succ_mul]; omega
      have e2 : slots + N + (i + 1) * (M + M * K) = slots + N + i * (M + M * K) + M + M * K := by rw [Nat.succ_mul]; omega
      rw [e1, e2, ← List.append_assoc, ← List.append_assoc]
      exact h
theorem own_multi3 (X : Stand p l e R s m args below meth c T locs cells slots) (hx : p.tables.exec = Jvm.exec) (hZ : Z.Warmed39 s.vm) {own : String} {index : Nat} (hown : s.vm.findClass own = some m.cls)
    (w1 : (Cond.classLink own index "[[[D").before a0 Z = true) (w2 : (Cond.arrayOver (.array (.array .double))).before a0 Z = true) (w3 : (Cond.arrayOver (.array .double)).before a0 Z = true) (w4 : (Cond.arrayClass .double).before a0 Z = true) (eT : T.heap = h)
    {g : JFrame} (hg : g.method = m) (hd : decode c.code g.pc = .ok (.multianewarray index 3, 4)) {n m' k : Int32} {rest : List Value} (hs : g.stack = .int k :: .int m' :: .int n :: rest) (hn : ¬ n < 0) (hm : ¬ m' < 0) (hk : ¬ k < 0) {N M K : Nat} (hN : n.toNatClampNeg = N) (hM : m'.toNatClampNeg = M) (hK : k.toNatClampNeg = K) (bN : N ≤ 100) (bM : M ≤ 100) (bK : K ≤ 100)
    (hc : cells + (1 + N * (1 + M)) ≤ R.cells) (hl : slots + (N + N * (M + M * K)) ≤ R.slots) :
    ∃ T' h', Stand p l e R s m args below meth c T' locs (cells + (1 + N * (1 + M))) (slots + (N + N * (M + M * K))) ∧ T'.heap = h' ∧ Ext h h' ∧ h'.size = h.size + 1 + N * (1 + M) ∧
      AV Z h' h.size (.array (.array .double)) N (fun j => .ref (h.size + 1 + j * (1 + M))) ∧ (∀ j, j < N → AV Z h' (h.size + 1 + j * (1 + M)) (.array .double) M (fun q => .ref (h.size + 1 + j * (1 + M) + 1 + q))) ∧ (∀ j q, j < N → q < M → AV Z h' (h.size + 1 + j * (1 + M) + 1 + q) .double K (fun _ => defaultValue .double)) ∧
      ∀ target, Steps p.tables e below (T'.setTop { g with pc := g.pc + 4, stack := .ref h.size :: rest }) target → Steps p.tables e below (T.setTop g) target := by
  subst hg; subst eT; subst hN; subst hM; subst hK
  have v2 : (Cond.arrayOver (.array (.array .double))).before args s = true := arrayOver_alikeB hZ.alike w2
  have v3 : (Cond.arrayOver (.array .double)).before args s = true := arrayOver_alikeB hZ.alike w3
  have v4 : (Cond.arrayClass .double).before args s = true := mvA hZ w4
  have hpl : e.platform.magicAccessors = ({} : Platform).magicAccessors := by rw [X.admits.platform]
  obtain ⟨c1, cA, kA, hc1, hkA, hkindA, hnameA⟩ := Cond.arrayOver_specA v2
  obtain ⟨c2, c1', k1, hc2, hk1, hkind1, hname1⟩ := Cond.arrayOver_specA v3
  obtain ⟨c2', k2, cc, hc2', hk2, hkind2⟩ := Cond.arrayClass_spec v4
  cases (show some c1' = some c1 from hname1.symm.trans hc1)
  cases (show some c2' = some c2 from hc2'.symm.trans hc2)
  obtain ⟨c0, hfc0, hcl⟩ := Cond.classLink_spec hown (show (Cond.classLink own index "[[[D").before args s = true from mv hZ w1) e.platform hpl
  cases (show some cA = some c0 from hnameA.symm.trans hfc0)
  obtain ⟨hg₁, hwarm₁, hready₁⟩ := State.classEntry (e := e) X.warmed hcl
  generalize T.vm.noted g.method.cls index (.cls cA) = vm₁ at hg₁ hwarm₁ hready₁
  have hal : s.vm.Alike vm₁ := hwarm₁.alike
  obtain ⟨kA₁, hkA₁, heA⟩ := hal.2.2 _ _ hkA
  obtain ⟨k1₁, hk1₁, he1⟩ := hal.2.2 _ _ hk1
  obtain ⟨k2₁, hk2₁, he2⟩ := hal.2.2 _ _ hk2
  have kindA₁ : kA₁.kind = .array c1 (.array (.array .double)) := by rw [heA]; exact hkindA
  have kind1₁ : k1₁.kind = .array c2 (.array .double) := by rw [he1]; exact hkind1
  have kind2₁ : k2₁.kind = .array cc .double := by rw [he2]; exact hkind2
  have X₁ := X.noted hwarm₁
  obtain ⟨hr1, hr2⟩ := X.roomAbove hc hl
  obtain ⟨L, hL, XG⟩ := own_gr X₁ cA c1 c2 n.toNatClampNeg m'.toNatClampNeg k.toNatClampNeg (defaultValue .double) n.toNatClampNeg
  have XD := XG.dropFresh (fun x hx => Nat.le_trans X.heapGrown (hL x hx))
  obtain ⟨f1, f2, f3, f4⟩ := own_g_facts (T.setVm vm₁) cA c1 c2 n.toNatClampNeg m'.toNatClampNeg k.toNatClampNeg (defaultValue .double) n.toNatClampNeg
  have back : ∀ {cl : Cell} {t : FieldType}, s.isArrayOf cl t → Z.isArrayOf cl t := fun q => State.isArrayOf_alike (T := Z) hZ.alike.symm q
  have lim : ∀ {x : Nat}, x ≤ 100 → ¬ x > e.platform.arrayLengthLimit := fun hx => by rw [Launch.admits_arrayLengthLimit X.admits]; omega
  have hb4 : ∀ {x : Nat}, x ≤ 100 → ¬ x * 4 > e.platform.maxHeapBytes := fun hx => by rw [Launch.admits_maxHeapBytes X.admits]; omega
  have hb8 : ∀ {x : Nat}, x ≤ 100 → ¬ x * 8 > e.platform.maxHeapBytes := fun hx => by rw [Launch.admits_maxHeapBytes X.admits]; omega
  refine ⟨own_g (T.setVm vm₁) cA c1 c2 n.toNatClampNeg m'.toNatClampNeg k.toNatClampNeg (defaultValue .double) n.toNatClampNeg, _, XD.more (by omega) (by omega), rfl, ext_of fun a ha => own_g_old (T.setVm vm₁) cA c1 c2 _ _ _ _ ha _, f1, ?_, fun j hj => ?_, fun j q hj hq => ?_, fun target hrest => ?_⟩
  · obtain ⟨o1, o2, o3⟩ := own_o_facts cA n.toNatClampNeg m'.toNatClampNeg (T.setVm vm₁).heap.size n.toNatClampNeg
    exact ⟨by omega, _, ⟨f2, back ⟨fun x => by rw [o2]; simp, kA, by rw [o1]; exact hkA, _, hkindA⟩, by rw [o2]; simp⟩, o3, fun j hj => by rw [own_o_slot _ _ _ _ _ _ hj, if_pos hj]; rfl⟩
  · obtain ⟨o1, o2, o3⟩ := outerC_facts c1 m'.toNatClampNeg ((T.setVm vm₁).heap.size + 1 + j * (1 + m'.toNatClampNeg)) m'.toNatClampNeg
    exact ⟨by omega, _, ⟨own_g_row (T.setVm vm₁) cA c1 c2 _ _ _ _ _ j hj, back ⟨fun x => by rw [o2]; simp, k1, by rw [o1]; exact hk1, _, hkind1⟩, by rw [o2]; simp⟩, o3, fun q hq => by rw [outerC_slot _ _ _ _ _ hq, if_pos hq]; rfl⟩
  · exact ⟨by omega, _, ⟨own_g_in (T.setVm vm₁) cA c1 c2 _ _ _ _ _ j q hj hq, back ⟨fun x => by simp [innerC], k2, hk2, cc, hkind2⟩, by simp [innerC]⟩, by simp [innerC], fun i hi => by simp [innerC, hi]⟩
  · jvm_step X.here [hx, hd]
    simp only [multianewarray.sem, wp_bind', W.resolveClassAt_links (State.method?_setTop g X.here.top) hg₁]
    rw [W.popN, if_neg (by decide)]
    refine ⟨g, State.topJava?_setTop' (s := T.setVm vm₁) g X.here.top, [.int n, .int m', .int k], rest, rfl, hs, ?_⟩
    simp only [List.mapM_cons, List.mapM_nil, wp_bind', wp_pure']
    refine own_wp3 (k := kA₁) (k1 := k1₁) (k2 := k2₁) (c1 := c1) (c2 := c2) (cc := cc) (t0 := .array (.array .double)) (t1 := .array .double) (type := .double) hkA₁ kindA₁ rfl hk1₁ kind1₁ rfl hk2₁ kind2₁ hn hm hk (lim bN) (hb4 bN) (lim bM) (hb4 bM) (lim bK) (hb8 bK) rfl rfl (by show T.heap.size + 1 + _ ≤ _; omega) (by show T.slotsUsed + _ + _ ≤ _; omega) (fun d' acts' => ?_)
    have eS : ((T.setTop g).setVm vm₁).setTop { g with stack := rest } = (T.setVm vm₁).setTop { g with stack := rest } := by
      show ((T.setVm vm₁).setTop g).setTop _ = _
      rw [State.setTop_setTop]
    rw [eS, own_g_setTop]
    simp only [wp_bind', W.mark, W.pushRef, State.topJava?_setTop' _ XG.here.top, Option.some.injEq, exists_eq_left', State.setTop_setTop, State.heap_setTop]
    intro acts
    simp [jvm, XG.here.top]
    exact hrest
end Multi3b

/-- a double[2][4][3] laid in one go: its cells stand in a row -/
def Gd (Z : State) (h : Heap) (a : Nat) (f : Nat → Nat → Nat → UInt64) : Prop := AV Z h a (.array (.array .double)) 2 (fun i => .ref (a + 1 + 5 * i)) ∧ (∀ i : Nat, i < 2 → AV Z h (a + 1 + 5 * i) (.array .double) 4 (fun j => .ref (a + 2 + 5 * i + j))) ∧ ∀ i j : Nat, i < 2 → j < 4 → AV Z h (a + 2 + 5 * i + j) .double 3 (fun k => .double (f i j k))
def own_upd (f : Nat → Nat → Nat → UInt64) (i j : Nat) (u : Nat → UInt64) : Nat → Nat → Nat → UInt64 := fun i' j' => if i' = i ∧ j' = j then u else f i' j'
theorem own_na {x y : Nat} (h : ¬ x = y) : @Ne Addr x y := h
section Grid
variable {Z : State} {h h' : Heap} {a : Nat} {f : Nat → Nat → Nat → UInt64}
theorem Gd.top (G : Gd Z h a f) : AV Z h a (.array (.array .double)) 2 (fun i => .ref (a + 1 + 5 * i)) := G.1
theorem Gd.row (G : Gd Z h a f) (i : Nat) (hi : i < 2) : AV Z h (a + 1 + 5 * i) (.array .double) 4 (fun j => .ref (a + 2 + 5 * i + j)) := G.2.1 i hi
theorem Gd.cell (G : Gd Z h a f) (i j : Nat) (hi : i < 2) (hj : j < 4) : AV Z h (a + 2 + 5 * i + j) .double 3 (fun k => .double (f i j k)) := G.2.2 i j hi hj
theorem Gd.ext (G : Gd Z h a f) (E : Ext h h') : Gd Z h' a f := ⟨G.1.ext E, fun i hi => (G.2.1 i hi).ext E, fun i j hi hj => (G.2.2 i j hi hj).ext E⟩
theorem Gd.other (G : Gd Z h a f) {b : Nat} {sl : Nat} {v : Value} (W : Wr h h' b sl v) (q : b < a ∨ a + 1 + 2 * 5 ≤ b) : Gd Z h' a f :=
  ⟨G.1.other W (own_na (by omega)), fun i hi => (G.2.1 i hi).other W (own_na (by omega)), fun i j hi hj => (G.2.2 i j hi hj).other W (own_na (by omega))⟩
theorem Gd.keep (G : Gd Z h a f) {ws : List Nat} (K : Keep h h' ws) (q : ∀ x ∈ ws, x < a ∨ a + 1 + 2 * 5 ≤ x) : Gd Z h' a f :=
  ⟨G.1.keep K (fun hm => by have := q _ hm; omega), fun i hi => (G.2.1 i hi).keep K (fun hm => by have := q _ hm; omega), fun i j hi hj => (G.2.2 i j hi hj).keep K (fun hm => by have := q _ hm; omega)⟩
/-- one cell's array written -/
theorem Gd.set (G : Gd Z h a f) (i j : Nat) (hi : i < 2) (hj : j < 4) {sl : Nat} {v : Value} {u : Nat → UInt64} (W : Wr h h' (a + 2 + 5 * i + j) sl v) (V : AV Z h' (a + 2 + 5 * i + j) .double 3 (fun k => .double (u k))) : Gd Z h' a (own_upd f i j u) := by
  refine ⟨G.1.other W (own_na (by omega)), fun i' hi' => (G.2.1 i' hi').other W (own_na (by omega)), fun i' j' hi' hj' => ?_⟩
  unfold own_upd
  by_cases q : i' = i ∧ j' = j
  · rw [if_pos q]; obtain ⟨rfl, rfl⟩ := q; exact V
  · rw [if_neg q]; exact (G.2.2 i' j' hi' hj').other W (own_na (by omega))
/-- one cell's array written by a call -/
theorem Gd.setK (G : Gd Z h a f) (i j : Nat) (hi : i < 2) (hj : j < 4) {u : Nat → UInt64} (K : Keep h h' [a + 2 + 5 * i + j]) (V : AV Z h' (a + 2 + 5 * i + j) .double 3 (fun k => .double (u k))) : Gd Z h' a (own_upd f i j u) := by
  have ni : ∀ x, x ≠ a + 2 + 5 * i + j → x ∉ [a + 2 + 5 * i + j] := fun x q => by simp; exact q
  refine ⟨G.1.keep K (ni _ (own_na (by omega))), fun i' hi' => (G.2.1 i' hi').keep K (ni _ (own_na (by omega))), fun i' j' hi' hj' => ?_⟩
  unfold own_upd
  by_cases q : i' = i ∧ j' = j
  · rw [if_pos q]; obtain ⟨rfl, rfl⟩ := q; exact V
  · rw [if_neg q]; exact (G.2.2 i' j' hi' hj').keep K (ni _ (own_na (by omega)))
theorem Gd.congr (G : Gd Z h a f) {g : Nat → Nat → Nat → UInt64} (q : ∀ i j k : Nat, i < 2 → j < 4 → k < 3 → f i j k = g i j k) : Gd Z h a g := ⟨G.1, G.2.1, fun i j hi hj => (G.2.2 i j hi hj).congr (fun k hk => by rw [q i j k hi hj hk])⟩
theorem Gd.lt (G : Gd Z h a f) : a + 1 + 2 * 5 ≤ h.size := by
  have q : a + 2 + 5 * 1 + (4 - 1) < h.size := (G.2.2 1 (4 - 1) (by decide) (by decide)).lt
  have e : a + 1 + 2 * 5 = a + 2 + 5 * 1 + (4 - 1) + 1 := by omega
  rw [e]; exact q
end Grid

def own_PC : UInt64 := 4606732058837280358
theorem Gd.new {Z : State} {h' : Heap} {a : Nat} (A0 : AV Z h' a (.array (.array .double)) 2 (fun j => .ref (a + 1 + j * (1 + 4)))) (A1 : ∀ j : Nat, j < 2 → AV Z h' (a + 1 + j * (1 + 4)) (.array .double) 4 (fun q => .ref (a + 1 + j * (1 + 4) + 1 + q))) (A2 : ∀ j q : Nat, j < 2 → q < 4 → AV Z h' (a + 1 + j * (1 + 4) + 1 + q) .double 3 (fun _ => defaultValue .double)) : Gd Z h' a (fun _ _ _ => 0) := by
  refine ⟨A0.congr (fun j _ => ?_), fun i hi => ?_, fun i j hi hj => ?_⟩
  · show Value.ref (a + 1 + j * (1 + 4)) = Value.ref (a + 1 + 5 * j)
    rw [show a + 1 + j * (1 + 4) = a + 1 + 5 * j from by omega]
  · have q := A1 i hi
    rw [show a + 1 + i * (1 + 4) = a + 1 + 5 * i from by omega] at q
    refine q.congr (fun j _ => ?_)
    show Value.ref (a + 1 + 5 * i + 1 + j) = Value.ref (a + 2 + 5 * i + j)
    rw [show a + 1 + 5 * i + 1 + j = a + 2 + 5 * i + j from by omega]
  · have q := A2 i j hi hj
    rw [show a + 1 + i * (1 + 4) + 1 + j = a + 2 + 5 * i + j from by omega] at q
    exact q
/-- the cells before c hold d -/
def own_rs (f : Nat → Nat → Nat → UInt64) (d : UInt64) (c : Nat) : Nat → Nat → Nat → UInt64 := fun i j k => if 4 * i + j < c then d else f i j k
theorem own_rs_step {f : Nat → Nat → Nat → UInt64} {d : UInt64} {c i0 j0 : Nat} (h : 4 * i0 + j0 = c) (hj0 : j0 < 4) : ∀ i j k : Nat, i < 2 → j < 4 → k < 3 → own_upd (own_rs f d c) i0 j0 (fun _ => d) i j k = own_rs f d (c + 1) i j k := by
  intro i j k hi hj hk
  unfold own_upd own_rs
  by_cases q : i = i0 ∧ j = j0
  · rw [if_pos q, if_pos (by omega)]
  · rw [if_neg q]
    by_cases r : 4 * i + j < c
    · rw [if_pos r, if_pos (by omega)]
    · rw [if_neg r, if_neg (by omega)]
theorem own_rs_end {f : Nat → Nat → Nat → UInt64} {d : UInt64} : ∀ i j k : Nat, i < 2 → j < 4 → k < 3 → own_rs f d (2 * 4) i j k = d := by
  intro i j k hi hj hk
  unfold own_rs; rw [if_pos (by omega)]
def own_vl (f g : Nat → Nat → Nat → UInt64) (c : Nat) : Nat → Nat → Nat → UInt64 := fun i j k => if 12 * i + 3 * j + k < c then FP.dadd (FP.dmul 4606732058837280358 (f i j k)) (g i j k) else f i j k
def own_dp (g : Nat → Nat → Nat → UInt64) (c : Nat) : Nat → Nat → Nat → UInt64 := fun i j k => if 12 * i + 3 * j + k < c then FP.dconst0 else g i j k
theorem own_vl_step {f g : Nat → Nat → Nat → UInt64} {c i0 j0 k0 : Nat} {v : UInt64} (h : 12 * i0 + 3 * j0 + k0 = c) (hj0 : j0 < 4) (hk0 : k0 < 3) (hv : v = FP.dadd (FP.dmul 4606732058837280358 (f i0 j0 k0)) (g i0 j0 k0)) : ∀ i j k : Nat, i < 2 → j < 4 → k < 3 → own_upd (own_vl f g c) i0 j0 (up (own_vl f g c i0 j0) k0 v) i j k = own_vl f g (c + 1) i j k := by
  intro i j k hi hj hk
  unfold own_upd up own_vl
  by_cases q : i = i0 ∧ j = j0
  · rw [if_pos q]
    obtain ⟨rfl, rfl⟩ := q
    by_cases r : k = k0
    · rw [if_pos r, hv, if_pos (by omega), r]
    · rw [if_neg r]
      by_cases t : 12 * i + 3 * j + k < c
      · rw [if_pos t, if_pos (by omega)]
      · rw [if_neg t, if_neg (by omega)]
  · rw [if_neg q]
    by_cases t : 12 * i + 3 * j + k < c
    · rw [if_pos t, if_pos (by omega)]
    · rw [if_neg t, if_neg (by omega)]
theorem own_dp_step {g : Nat → Nat → Nat → UInt64} {c i0 j0 k0 : Nat} (h : 12 * i0 + 3 * j0 + k0 = c) (hj0 : j0 < 4) (hk0 : k0 < 3) : ∀ i j k : Nat, i < 2 → j < 4 → k < 3 → own_upd (own_dp g c) i0 j0 (up (own_dp g c i0 j0) k0 FP.dconst0) i j k = own_dp g (c + 1) i j k := by
  intro i j k hi hj hk
  unfold own_upd up own_dp
  by_cases q : i = i0 ∧ j = j0
  · rw [if_pos q]
    obtain ⟨rfl, rfl⟩ := q
    by_cases r : k = k0
    · rw [if_pos r, if_pos (by omega)]
    · rw [if_neg r]
      by_cases t : 12 * i + 3 * j + k < c
      · rw [if_pos t, if_pos (by omega)]
      · rw [if_neg t, if_neg (by omega)]
  · rw [if_neg q]
    by_cases t : 12 * i + 3 * j + k < c
    · rw [if_pos t, if_pos (by omega)]
    · rw [if_neg t, if_neg (by omega)]
theorem own_vl_end {f g : Nat → Nat → Nat → UInt64} : ∀ i j k : Nat, i < 2 → j < 4 → k < 3 → own_vl f g (2 * 12) i j k = FP.dadd (FP.dmul 4606732058837280358 (f i j k)) (g i j k) := by
  intro i j k hi hj hk
  unfold own_vl; rw [if_pos (by omega)]
theorem own_dp_end {g : Nat → Nat → Nat → UInt64} : ∀ i j k : Nat, i < 2 → j < 4 → k < 3 → own_dp g (2 * 12) i j k = FP.dconst0 := by
  intro i j k hi hj hk
  unfold own_dp; rw [if_pos (by omega)]

theorem own_n {i : Nat} (h : i < 2 ^ 31) : (Int32.ofNat i).toNatClampNeg = i := by simp only [Int32.toNatClampNeg, len_toInt h]; rfl
theorem own_nn {i : Nat} (h : i < 2 ^ 31) : ¬ (Int32.ofNat i) < 0 := by rw [Int32.lt_iff_toInt_lt, len_toInt h]; show ¬ ((i : Int) < 0); omega
theorem own_nlt {i n : Nat} (h : n < 2 ^ 31) (q : i < n) : (Int32.ofNat i) < (Int32.ofNat n) := by rw [Int32.lt_iff_toInt_lt, len_toInt h, len_toInt (by omega)]; omega
theorem own_nge {n : Nat} : ¬ (Int32.ofNat n) < (Int32.ofNat n) := by rw [Int32.lt_iff_toInt_lt]; omega
theorem own_ns {i : Nat} : (Int32.ofNat i) + (1 : Int32) = Int32.ofNat (i + 1) := by rw [show (1 : Int32) = Int32.ofNat 1 from rfl, ← Int32.ofNat_add]
theorem d5_6 : DC B5 6 (.iload_n 3) 1 := by decide +kernel
theorem d5_7 : DC B5 7 (.iload 4) 2 := by decide +kernel
theorem d5_9 : DC B5 9 (.if_icmp .ge 13) 3 := by decide +kernel
theorem d5_12 : DC B5 12 (.aload_n 0) 1 := by decide +kernel
theorem d5_13 : DC B5 13 (.iload_n 3) 1 := by decide +kernel
theorem d5_14 : DC B5 14 (.dload_n 1) 1 := by decide +kernel
theorem d5_15 : DC B5 15 (.dastore) 1 := by decide +kernel
theorem d5_16 : DC B5 16 (.iinc 3 1) 3 := by decide +kernel
theorem d5_19 : DC B5 19 (.goto (-13)) 3 := by decide +kernel
theorem lp4 {p : Program} {l : Launch} {e : Env} {R : Room} {s : State} {m : MethodId} {args : Array Value} {below : List Frame} {meth : Method} {c : Code} {cells0 slots0 : Nat} {P : Outcome → State → Prop} {Z : State} (hx : p.tables.exec = Jvm.exec) (hby : c.code = jdk_65_method_113_code) (hZ : Z.Warmed39 s.vm) (o0 : Addr) (d1 : UInt64) (nW : Nat) (h31 : nW < 2 ^ 31) (n0 : Nat) (g0 : n0 ≤ o0) (hs : Heap) (hk : ∀ T h locs Ls, Stand p l e R s m args below meth c T locs cells0 slots0 → T.heap = h → Fr n0 locs → n0 ≤ h.size → Keep hs h [o0] → AV Z h o0 .double nW (fun _ => .double d1) → Go p e below P (T.setTop (mkF m 22 Ls []))) :
    ∀ (k i : Nat) (fF : Nat → UInt64) (T0 : State) (h0 : Heap) (locs0 : List Loc), i + k = nW → (∀ j, j < i → fF j = d1) → Stand p l e R s m args below meth c T0 locs0 cells0 slots0 → T0.heap = h0 → Fr n0 locs0 → n0 ≤ h0.size → Keep hs h0 [o0] → AV Z h0 o0 .double nW (fun k => .double (fF k)) → Go p e below P (T0.setTop (mkF m 6 #[.val (.ref o0), .val (.double d1), .second, .val (.int (Int32.ofNat i)), .val (.int (Int32.ofNat nW))] [])) := by
  intro k
  induction k with
  | zero =>
    intro i fF T0 h0 locs0 hik hf X0 e0 N0 Z0 hK V0
    obtain rfl : i = nW := by omega
    show Go p e below _ (T0.setTop (mkF m 6 #[sR o0, .val (.double d1), .second, sI (Int32.ofNat i), sI (Int32.ofNat i)] []))
    refine Vi (T0.setTop (mkF m 22 #[sR o0, .val (.double d1), .second, sI (Int32.ofNat i), sI (Int32.ofNat i)] [])) (fun tZ kZ => ?_) ?_
    · refine XS.iloadN X0.here hx rfl (hb hby d5_6) rfl ?_
      refine XS.iload X0.here hx rfl (hb hby d5_7) rfl ?_
      refine XS.icmpYes X0.here hx rfl (pc0 := 9) (pc' := 22) rfl (hb hby d5_9) rfl (flt own_nge).2.1 (by decide) (by decide) ?_
      exact kZ
    exact hk _ _ _ _ X0 e0 N0 Z0 hK (V0.congr fun j hj => by rw [hf j (by omega)])
  | succ k ih =>
    intro i fF T0 h0 locs0 hik hf X0 e0 N0 Z0 hK V0
    show Go p e below _ (T0.setTop (mkF m 6 #[sR o0, .val (.double d1), .second, sI (Int32.ofNat i), sI (Int32.ofNat nW)] []))
    refine Vi (T0.setTop (mkF m 15 #[sR o0, .val (.double d1), .second, sI (Int32.ofNat i), sI (Int32.ofNat nW)] [(.double d1), (.int (Int32.ofNat i)), (.ref o0)])) (fun tZ kZ => ?_) ?_
    · refine XS.iloadN X0.here hx rfl (hb hby d5_6) rfl ?_
      refine XS.iload X0.here hx rfl (hb hby d5_7) rfl ?_
      refine XS.icmpNo X0.here hx rfl (hb hby d5_9) rfl (tlt (own_nlt h31 (by omega))).2.1 ?_
      refine XS.aloadN X0.here hx rfl (hb hby d5_12) rfl rfl ?_
      refine XS.iloadN X0.here hx rfl (hb hby d5_13) rfl ?_
      refine XS.dloadN X0.here hx rfl (hb hby d5_14) rfl ?_
      exact kZ
    obtain ⟨T1, h1, X1, e1, W1, V1, st1⟩ := AV.dastore V0 X0 hx hZ e0 (j := (Int32.ofNat i)) ⟨own_nn (by omega), by rw [own_n (by omega)]; omega⟩ (Ls := #[sR o0, .val (.double d1), .second, sI (Int32.ofNat i), sI (Int32.ofNat nW)]) (rest := []) (hb hby d5_15) (x := d1)
    have N1 := Fr.snoc X1 N0 g0
    have K1 : Keep h0 h1 [o0] := (Keep.refl h0 [o0]).wr W1 (Or.inl (by simp))
    have Z1 := Nat.le_trans Z0 (Keep.of_wr W1).1
    refine Go.via st1 ?_
    refine Vi (T1.setTop (mkF m 6 #[sR o0, .val (.double d1), .second, sI ((Int32.ofNat i) + (1 : Int32)), sI (Int32.ofNat nW)] [])) (fun tZ kZ => ?_) ?_
    · refine XS.iinc X1.here hx rfl (hb hby d5_16) rfl (l' := #[sR o0, .val (.double d1), .second, sI ((Int32.ofNat i) + (1 : Int32)), sI (Int32.ofNat nW)]) rfl ?_
      refine XS.goto X1.here hx rfl (pc0 := 19) (pc' := 6) rfl (hb hby d5_19) (by decide) (by decide) ?_
      exact kZ
    rw [own_ns]
    exact ih (i + 1) _ _ _ _ (by omega) (fun j hj => by unfold up; rw [own_n (by omega)]; split; rfl; exact hf j (by omega)) X1 e1 N1 Z1 (hK.trans K1 (allS (Or.inl (by simp)) all0)) V1
theorem d5_0 : DC B5 0 (.iconst 0) 1 := by decide +kernel
theorem d5_1 : DC B5 1 (.istore_n 3) 1 := by decide +kernel
theorem d5_2 : DC B5 2 (.aload_n 0) 1 := by decide +kernel
theorem d5_3 : DC B5 3 (.arraylength) 1 := by decide +kernel
theorem d5_4 : DC B5 4 (.istore 4) 2 := by decide +kernel
theorem d5_22 : DC B5 22 (.return_) 1 := by decide +kernel
def Q5 (Z : State) (o0 : Nat) (d1 : UInt64) (nW : Nat) (fF : Nat → UInt64) (h0 : Heap) (n0 : Nat) (v : Option Value) (h : Heap) (L : List Loc) : Prop := v = none ∧ Fr n0 L ∧ Keep h0 h [o0] ∧ AV Z h o0 .double nW (fun k => .double ((fun _ => d1) k))
abbrev RM_0_0_0_0 : Room := { frames := 0, cells := 0, slots := 0, locals := 0 }
theorem pn_0 : plainName "java/util/Arrays" = true := by first | (simp [plainName, overriddenIn]; done) | decide +kernel
theorem ef_5_aa (m : MethodId) (x0 : Nat) (x1 : UInt64) : entryFrame m #[(.ref x0), (.double x1)] 5 = mkF m 0 #[.val (.ref x0), .val (.double x1), .second, .unset, .unset] [] := by first | (simp [entryFrame, mkF, argsToLocals, Value.category]; done) | rfl
theorem rm5 (l : Launch) (Z : State) (a0 : Array Value) (hw : HW a0 Z) (ws : List Jvm.Cond) (o0 : Nat) (d1 : UInt64) (nW : Nat) (fF : Nat → UInt64) (h0 : Heap) (n0 : Nat) (Z0 : n0 ≤ h0.size) (ha0 : AV Z h0 o0 .double nW (fun k => .double (fF k))) (ha1 : n0 ≤ o0) :
    MetFree l y5 (head1 (Jvm.Cond.code y5 jdk_65_method_113_code 5 none :: ws) RM_0_0_0_0) (fun a U => a = #[(.ref o0), (.double d1)] ∧ Z.Warmed39 U.vm ∧ U.heap = h0) (fun _ _ _ _ _ => True) (fun _ U o U' => ∃ v L, o = .returned v ∧ Q5 Z o0 d1 nW fF h0 n0 v U'.heap L ∧ FrameEnd U o U' L RM_0_0_0_0.cells RM_0_0_0_0.slots) := by
  refine MetFree.of_bodySF (plainFor_of_name pn_0) hisR ?_
  intro p e s m args below meth c s₁ Bd hml0 hP hK
  obtain ⟨rfl, hZ, hh⟩ := hP
  have hx := Bd.exec
  have hby := Bd.bytes
  have hml : c.maxLocals = 5 := hml0
  have hown : s.vm.findClass "java/util/Arrays" = some m.cls := findClass_of_methodNamed Bd.named
  have X0 : Stand p l e RM_0_0_0_0 s m _ below meth c s₁ [] 0 0 := Stand.of_body Bd
  have e0 : s₁.heap = h0 := by rw [← hh, Bd.state]; rfl
  have N0 := Fr.nil n0
  refine Go.into (P := fun oo uu => ∃ v L, oo = .returned v ∧ Q5 Z o0 d1 nW fF h0 n0 v uu.heap L ∧ FrameEnd s oo uu L RM_0_0_0_0.cells RM_0_0_0_0.slots) (ef_5_aa m o0 d1) ?_
  show Go p e below _ (s₁.setTop (mkF m 0 #[sR o0, .val (.double d1), .second, .unset, .unset] []))
  refine Vi (s₁.setTop (mkF m 6 #[sR o0, .val (.double d1), .second, sI 0, sI (Int32.ofNat nW)] [])) (fun tZ kZ => ?_) ?_
  · refine XS.iconst X0.here hx rfl (hb hby d5_0) ?_
    refine XS.istoreN X0.here hx rfl (hb hby d5_1) rfl (l' := #[sR o0, .val (.double d1), .second, sI 0, .unset]) rfl ?_
    refine XS.aloadN X0.here hx rfl (hb hby d5_2) rfl rfl ?_
    refine AV.len ha0 X0 hx hZ e0 (hb hby d5_3) ?_
    refine XS.istore X0.here hx rfl (hb hby d5_4) rfl (l' := #[sR o0, .val (.double d1), .second, sI 0, sI (Int32.ofNat nW)]) rfl ?_
    exact kZ
  refine lp4 hx hby hZ o0 d1 nW ha0.1 n0 ha1 h0 ?_ nW 0 fF _ _ _ (by omega) (fun j hj => absurd hj (Nat.not_lt_zero j)) X0 e0 N0 Z0 (Keep.refl h0 [o0]) ha0
  intro T h locs Ls XT eT NT ZT KT VT
  refine Go.retV XT hx Bd.notSynchronized Bd.returns (hb hby d5_22) (by decide) (by decide) ?_
  rw [eT]
  exact ⟨rfl, NT, KT, VT⟩
theorem own_rs_0 {f : Nat → Nat → Nat → UInt64} {d : UInt64} : ∀ i j k : Nat, i < 2 → j < 4 → k < 3 → f i j k = own_rs f d 0 i j k := by
  intro i j k hi hj hk
  unfold own_rs; rw [if_neg (by omega)]
theorem own_vl_0 {f g : Nat → Nat → Nat → UInt64} : ∀ i j k : Nat, i < 2 → j < 4 → k < 3 → f i j k = own_vl f g 0 i j k := by
  intro i j k hi hj hk
  unfold own_vl; rw [if_neg (by omega)]
theorem own_dp_0 {g : Nat → Nat → Nat → UInt64} : ∀ i j k : Nat, i < 2 → j < 4 → k < 3 → g i j k = own_dp g 0 i j k := by
  intro i j k hi hj hk
  unfold own_dp; rw [if_neg (by omega)]
theorem d4_0 : DC B4 0 (.aload_n 0) 1 := by decide +kernel
theorem d4_1 : DC B4 1 (.getfield 15) 3 := by decide +kernel
theorem d4_4 : DC B4 4 (.astore_n 1) 1 := by decide +kernel
theorem d4_5 : DC B4 5 (.aload_n 1) 1 := by decide +kernel
theorem d4_6 : DC B4 6 (.arraylength) 1 := by decide +kernel
theorem d4_7 : DC B4 7 (.istore_n 2) 1 := by decide +kernel
theorem d4_8 : DC B4 8 (.iconst 0) 1 := by decide +kernel
theorem d4_9 : DC B4 9 (.istore_n 3) 1 := by decide +kernel
theorem d4_10 : DC B4 10 (.iload_n 3) 1 := by decide +kernel
theorem d4_11 : DC B4 11 (.iload_n 2) 1 := by decide +kernel
theorem d4_12 : DC B4 12 (.if_icmp .ge 55) 3 := by decide +kernel
theorem d4_15 : DC B4 15 (.aload_n 1) 1 := by decide +kernel
theorem d4_16 : DC B4 16 (.iload_n 3) 1 := by decide +kernel
theorem d4_17 : DC B4 17 (.aaload) 1 := by decide +kernel
theorem d4_18 : DC B4 18 (.astore 4) 2 := by decide +kernel
theorem d4_20 : DC B4 20 (.aload 4) 2 := by decide +kernel
theorem d4_22 : DC B4 22 (.astore 5) 2 := by decide +kernel
theorem d4_24 : DC B4 24 (.aload 5) 2 := by decide +kernel
theorem d4_26 : DC B4 26 (.arraylength) 1 := by decide +kernel
theorem d4_27 : DC B4 27 (.istore 6) 2 := by decide +kernel
theorem d4_29 : DC B4 29 (.iconst 0) 1 := by decide +kernel
theorem d4_30 : DC B4 30 (.istore 7) 2 := by decide +kernel
theorem d4_32 : DC B4 32 (.iload 7) 2 := by decide +kernel
theorem d4_34 : DC B4 34 (.iload 6) 2 := by decide +kernel
theorem d4_36 : DC B4 36 (.if_icmp .ge 25) 3 := by decide +kernel
theorem d4_39 : DC B4 39 (.aload 5) 2 := by decide +kernel
theorem d4_41 : DC B4 41 (.iload 7) 2 := by decide +kernel
theorem d4_43 : DC B4 43 (.aaload) 1 := by decide +kernel
theorem d4_44 : DC B4 44 (.astore 8) 2 := by decide +kernel
theorem d4_46 : DC B4 46 (.aload 8) 2 := by decide +kernel
theorem d4_48 : DC B4 48 (.aload_n 0) 1 := by decide +kernel
theorem d4_49 : DC B4 49 (.getfield 7) 3 := by decide +kernel
theorem pd_4 : parseMethodDescriptor "([DD)V" = some ⟨[(.array .double), .double], none⟩ := by decide +kernel
theorem d4_52 : DC B4 52 (.invokestatic 24) 3 := by decide +kernel
theorem d4_55 : DC B4 55 (.iinc 7 1) 3 := by decide +kernel
theorem d4_58 : DC B4 58 (.goto (-26)) 3 := by decide +kernel
theorem d4_61 : DC B4 61 (.iinc 3 1) 3 := by decide +kernel
theorem d4_64 : DC B4 64 (.goto (-54)) 3 := by decide +kernel
theorem d4_67 : DC B4 67 (.return_) 1 := by decide +kernel
def Q4 (Z : State) (o0 : Nat) (dI : UInt64) (vA : Nat) (f : Nat → Nat → Nat → UInt64) (h0 : Heap) (n0 : Nat) (v : Option Value) (h : Heap) (L : List Loc) : Prop := v = none ∧ Fr n0 L ∧ Keep h0 h [(vA + 2 + 5 * 0 + 0), (vA + 2 + 5 * 0 + 1), (vA + 2 + 5 * 0 + 2), (vA + 2 + 5 * 0 + 3), (vA + 2 + 5 * 1 + 0), (vA + 2 + 5 * 1 + 1), (vA + 2 + 5 * 1 + 2), (vA + 2 + 5 * 1 + 3)] ∧ Exa Z h o0 "com/example/muster/muster/solvers/Pheromone" ∧ Fld Z h o0 "com/example/muster/muster/solvers/Pheromone" "initial" "D" (.double dI) ∧ Fld Z h o0 "com/example/muster/muster/solvers/Pheromone" "value" "[[[D" (.ref vA) ∧ Gd Z h vA (fun _ _ _ => dI)
abbrev RM_1_0_0_16 : Room := { frames := 1, cells := 0, slots := 0, locals := 16 }
theorem pn_1 : plainName "com/example/muster/muster/solvers/Pheromone" = true := by first | (simp [plainName, overriddenIn]; done) | decide +kernel
theorem ef_4_a (m : MethodId) (x0 : Nat) : entryFrame m #[(.ref x0)] 9 = mkF m 0 #[.val (.ref x0), .unset, .unset, .unset, .unset, .unset, .unset, .unset, .unset] [] := by first | (simp [entryFrame, mkF, argsToLocals, Value.category]; done) | rfl
theorem rm4 (l : Launch) (Z : State) (a0 : Array Value) (hw : HW a0 Z) (ws : List Jvm.Cond) (o0 : Nat) (dI : UInt64) (vA : Nat) (f : Nat → Nat → Nat → UInt64) (h0 : Heap) (n0 : Nat) (Z0 : n0 ≤ h0.size) (ha0 : Exa Z h0 o0 "com/example/muster/muster/solvers/Pheromone") (ha1 : Fld Z h0 o0 "com/example/muster/muster/solvers/Pheromone" "initial" "D" (.double dI)) (ha2 : Fld Z h0 o0 "com/example/muster/muster/solvers/Pheromone" "value" "[[[D" (.ref vA)) (ha3 : Gd Z h0 vA f) (ha4 : n0 ≤ vA) (hov : o0 < vA ∨ vA + 11 ≤ o0) :
    MetFree l y4 (head1 (Jvm.Cond.code y4 prog_48_method_2_code 9 none :: ws) RM_1_0_0_16) (fun a U => a = #[(.ref o0)] ∧ Z.Warmed39 U.vm ∧ U.heap = h0) (fun _ _ _ _ _ => True) (fun _ U o U' => ∃ v L, o = .returned v ∧ Q4 Z o0 dI vA f h0 n0 v U'.heap L ∧ FrameEnd U o U' L RM_1_0_0_16.cells RM_1_0_0_16.slots) := by
  refine MetFree.of_bodySF (plainFor_of_name pn_1) hisR ?_
  intro p e s m args below meth c s₁ Bd hml0 hP hK
  obtain ⟨rfl, hZ, hh⟩ := hP
  have hx := Bd.exec
  have hby := Bd.bytes
  have hml : c.maxLocals = 9 := hml0
  have hown : s.vm.findClass "com/example/muster/muster/solvers/Pheromone" = some m.cls := findClass_of_methodNamed Bd.named
  have X0 : Stand p l e RM_1_0_0_16 s m _ below meth c s₁ [] 0 0 := Stand.of_body Bd
  have e0 : s₁.heap = h0 := by rw [← hh, Bd.state]; rfl
  have N0 := Fr.nil n0
  refine Go.into (P := fun oo uu => ∃ v L, oo = .returned v ∧ Q4 Z o0 dI vA f h0 n0 v uu.heap L ∧ FrameEnd s oo uu L RM_1_0_0_16.cells RM_1_0_0_16.slots) (ef_4_a m o0) ?_
  show Go p e below _ (s₁.setTop (mkF m 0 #[sR o0, .unset, .unset, .unset, .unset, .unset, .unset, .unset, .unset] []))
  have G0 : Gd Z h0 vA (own_rs f dI 0) := ha3.congr own_rs_0
  refine Vi (s₁.setTop (mkF m 1 #[sR o0, .unset, .unset, .unset, .unset, .unset, .unset, .unset, .unset] [(.ref o0)])) (fun tZ kZ => ?_) ?_
  · refine XS.aloadN X0.here hx rfl (hb hby d4_0) rfl rfl ?_
    exact kZ
  refine GF X0 hx hZ hown (wq hw 38 rfl) e0 ha2 (hb hby d4_1) fun T1 X1 e1 => ?_
  refine Vi (T1.setTop (mkF m 49 #[sR o0, sR vA, sI 2, sI 0, sR (vA + 1 + 5 * 0), sR (vA + 1 + 5 * 0), sI 4, sI 0, sR (vA + 2 + 5 * 0 + 0)] [(.ref o0), (.ref (vA + 2 + 5 * 0 + 0))])) (fun tZ kZ => ?_) ?_
  · refine XS.astoreN X1.here hx rfl (hb hby d4_4) rfl rfl (l' := #[sR o0, sR vA, .unset, .unset, .unset, .unset, .unset, .unset, .unset]) rfl ?_
    refine XS.aloadN X1.here hx rfl (hb hby d4_5) rfl rfl ?_
    refine AV.len G0.top X1 hx hZ e1 (hb hby d4_6) ?_
    refine XS.istoreN X1.here hx rfl (hb hby d4_7) rfl (l' := #[sR o0, sR vA, sI 2, .unset, .unset, .unset, .unset, .unset, .unset]) rfl ?_
    refine XS.iconst X1.here hx rfl (hb hby d4_8) ?_
    refine XS.istoreN X1.here hx rfl (hb hby d4_9) rfl (l' := #[sR o0, sR vA, sI 2, sI 0, .unset, .unset, .unset, .unset, .unset]) rfl ?_
    refine XS.iloadN X1.here hx rfl (hb hby d4_10) rfl ?_
    refine XS.iloadN X1.here hx rfl (hb hby d4_11) rfl ?_
    refine XS.icmpNo X1.here hx rfl (hb hby d4_12) rfl (tlt (by decide)).2.1 ?_
    refine XS.aloadN X1.here hx rfl (hb hby d4_15) rfl rfl ?_
    refine XS.iloadN X1.here hx rfl (hb hby d4_16) rfl ?_
    refine AV.aaload G0.top rfl X1 hx hZ e1 (j := (0 : Int32)) (by decide) (hb hby d4_17) ?_
    refine XS.astore X1.here hx rfl (hb hby d4_18) rfl rfl (l' := #[sR o0, sR vA, sI 2, sI 0, sR (vA + 1 + 5 * 0), .unset, .unset, .unset, .unset]) rfl ?_
    refine XS.aload X1.here hx rfl (hb hby d4_20) rfl rfl ?_
    refine XS.astore X1.here hx rfl (hb hby d4_22) rfl rfl (l' := #[sR o0, sR vA, sI 2, sI 0, sR (vA + 1 + 5 * 0), sR (vA + 1 + 5 * 0), .unset, .unset, .unset]) rfl ?_
    refine XS.aload X1.here hx rfl (hb hby d4_24) rfl rfl ?_
    refine AV.len (G0.row 0 (by decide)) X1 hx hZ e1 (hb hby d4_26) ?_
    refine XS.istore X1.here hx rfl (hb hby d4_27) rfl (l' := #[sR o0, sR vA, sI 2, sI 0, sR (vA + 1 + 5 * 0), sR (vA + 1 + 5 * 0), sI 4, .unset, .unset]) rfl ?_
    refine XS.iconst X1.here hx rfl (hb hby d4_29) ?_
    refine XS.istore X1.here hx rfl (hb hby d4_30) rfl (l' := #[sR o0, sR vA, sI 2, sI 0, sR (vA + 1 + 5 * 0), sR (vA + 1 + 5 * 0), sI 4, sI 0, .unset]) rfl ?_
    refine XS.iload X1.here hx rfl (hb hby d4_32) rfl ?_
    refine XS.iload X1.here hx rfl (hb hby d4_34) rfl ?_
    refine XS.icmpNo X1.here hx rfl (hb hby d4_36) rfl (tlt (by decide)).2.1 ?_
    refine XS.aload X1.here hx rfl (hb hby d4_39) rfl rfl ?_
    refine XS.iload X1.here hx rfl (hb hby d4_41) rfl ?_
    refine AV.aaload (G0.row 0 (by decide)) rfl X1 hx hZ e1 (j := (0 : Int32)) (by decide) (hb hby d4_43) ?_
    refine XS.astore X1.here hx rfl (hb hby d4_44) rfl rfl (l' := #[sR o0, sR vA, sI 2, sI 0, sR (vA + 1 + 5 * 0), sR (vA + 1 + 5 * 0), sI 4, sI 0, sR (vA + 2 + 5 * 0 + 0)]) rfl ?_
    refine XS.aload X1.here hx rfl (hb hby d4_46) rfl rfl ?_
    refine XS.aloadN X1.here hx rfl (hb hby d4_48) rfl rfl ?_
    exact kZ
  refine GF X1 hx hZ hown (wq hw 32 rfl) e1 ha1 (hb hby d4_49) fun T2 X2 e2 => ?_
  obtain ⟨_, _, ⟨T3, L3, k3, n3⟩, -, X3, ⟨Lc3, hQ3, l3, y3, z3⟩, st3⟩ := Jvm.LawKit.callS X2 hx (y := y5) hown (wz hZ hw 47 rfl) (wz hZ hw 48 rfl) (wz hZ hw 49 rfl) (wz hZ hw 50 rfl) (by decide) (backOf (W := 0) (rm5 l Z a0 hw [] (vA + 2 + 5 * 0 + 0) dI 3 ((own_rs f dI 0) 0 0) h0 n0 Z0 (G0.cell 0 0 (by decide) (by decide)) (Nat.le_trans ha4 (show vA ≤ (vA + 2 + 5 * 0 + 0) by omega))) hZ (wq hw 50 rfl) (wq hw 49 rfl) (by decide) (by decide)) (g := (mkF m 52 #[sR o0, sR vA, sI 2, sI 0, sR (vA + 1 + 5 * 0), sR (vA + 1 + 5 * 0), sI 4, sI 0, sR (vA + 2 + 5 * 0 + 0)] [(.double dI), (.ref (vA + 2 + 5 * 0 + 0))])) rfl (by rw [hml]; rfl) (argsL := [(.ref (vA + 2 + 5 * 0 + 0)), (.double dI)]) (rest := []) (lenOf pd_4 rfl) rfl (leW rfl) (hb hby d4_52) (fun _ _ => ⟨rfl, e2, (by decide : 0 + 0 ≤ _), (by decide : 0 + 0 ≤ _)⟩)
  dsimp only [Pt.U, Pt.locs, Pt.cells, Pt.slots] at X3 l3 y3 z3 st3 hQ3
  subst l3 y3 z3
  obtain ⟨rfl, N3q, Kq3, f3_0⟩ := hQ3
  have c4_0 := ha0.keep Kq3
  have c4_1 := ha1.keep Kq3 (ninS (own_na (by omega)) nin0)
  have c4_2 := ha2.keep Kq3 (ninS (own_na (by omega)) nin0)
  have c4_3 := G0
  have K3 : Keep h0 T3.heap [(vA + 2 + 5 * 0 + 0), (vA + 2 + 5 * 0 + 1), (vA + 2 + 5 * 0 + 2), (vA + 2 + 5 * 0 + 3), (vA + 2 + 5 * 1 + 0), (vA + 2 + 5 * 1 + 1), (vA + 2 + 5 * 1 + 2), (vA + 2 + 5 * 1 + 3)] := (Keep.refl h0 [(vA + 2 + 5 * 0 + 0), (vA + 2 + 5 * 0 + 1), (vA + 2 + 5 * 0 + 2), (vA + 2 + 5 * 0 + 3), (vA + 2 + 5 * 1 + 0), (vA + 2 + 5 * 1 + 1), (vA + 2 + 5 * 1 + 2), (vA + 2 + 5 * 1 + 3)]).trans Kq3 (allS (Or.inl (by simp)) all0)
  have Z3 := Nat.le_trans Z0 Kq3.1
  have N3 := Fr.app N0 N3q
  refine Go.via st3 ?_
  have Gr3 : Gd Z T3.heap vA (own_rs f dI 1) := (Gd.setK G0 0 0 (by decide) (by decide) Kq3 f3_0).congr (own_rs_step rfl (by decide))
  refine Vi (T3.setTop (mkF m 49 #[sR o0, sR vA, sI 2, sI 0, sR (vA + 1 + 5 * 0), sR (vA + 1 + 5 * 0), sI 4, sI 1, sR (vA + 2 + 5 * 0 + 1)] [(.ref o0), (.ref (vA + 2 + 5 * 0 + 1))])) (fun tZ kZ => ?_) ?_
  · refine XS.iinc X3.here hx rfl (hb hby d4_55) rfl (l' := #[sR o0, sR vA, sI 2, sI 0, sR (vA + 1 + 5 * 0), sR (vA + 1 + 5 * 0), sI 4, sI 1, sR (vA + 2 + 5 * 0 + 0)]) rfl ?_
    refine XS.goto X3.here hx rfl (pc0 := 58) (pc' := 32) rfl (hb hby d4_58) (by decide) (by decide) ?_
    refine XS.iload X3.here hx rfl (hb hby d4_32) rfl ?_
    refine XS.iload X3.here hx rfl (hb hby d4_34) rfl ?_
    refine XS.icmpNo X3.here hx rfl (hb hby d4_36) rfl (tlt (by decide)).2.1 ?_
    refine XS.aload X3.here hx rfl (hb hby d4_39) rfl rfl ?_
    refine XS.iload X3.here hx rfl (hb hby d4_41) rfl ?_
    refine AV.aaload (Gr3.row 0 (by decide)) rfl X3 hx hZ rfl (j := (1 : Int32)) (by decide) (hb hby d4_43) ?_
    refine XS.astore X3.here hx rfl (hb hby d4_44) rfl rfl (l' := #[sR o0, sR vA, sI 2, sI 0, sR (vA + 1 + 5 * 0), sR (vA + 1 + 5 * 0), sI 4, sI 1, sR (vA + 2 + 5 * 0 + 1)]) rfl ?_
    refine XS.aload X3.here hx rfl (hb hby d4_46) rfl rfl ?_
    refine XS.aloadN X3.here hx rfl (hb hby d4_48) rfl rfl ?_
    exact kZ
  refine GF X3 hx hZ hown (wq hw 32 rfl) rfl c4_1 (hb hby d4_49) fun T5 X5 e5 => ?_
  obtain ⟨_, _, ⟨T6, L6, k6, n6⟩, -, X6, ⟨Lc6, hQ6, l6, y6, z6⟩, st6⟩ := Jvm.LawKit.callS X5 hx (y := y5) hown (wz hZ hw 47 rfl) (wz hZ hw 48 rfl) (wz hZ hw 49 rfl) (wz hZ hw 50 rfl) (by decide) (backOf (W := 0) (rm5 l Z a0 hw [] (vA + 2 + 5 * 0 + 1) dI 3 ((own_rs f dI 1) 0 1) T3.heap n0 Z3 (Gr3.cell 0 1 (by decide) (by decide)) (Nat.le_trans ha4 (show vA ≤ (vA + 2 + 5 * 0 + 1) by omega))) hZ (wq hw 50 rfl) (wq hw 49 rfl) (by decide) (by decide)) (g := (mkF m 52 #[sR o0, sR vA, sI 2, sI 0, sR (vA + 1 + 5 * 0), sR (vA + 1 + 5 * 0), sI 4, sI 1, sR (vA + 2 + 5 * 0 + 1)] [(.double dI), (.ref (vA + 2 + 5 * 0 + 1))])) rfl (by rw [hml]; rfl) (argsL := [(.ref (vA + 2 + 5 * 0 + 1)), (.double dI)]) (rest := []) (lenOf pd_4 rfl) rfl (leW rfl) (hb hby d4_52) (fun _ _ => ⟨rfl, e5, (by decide : 0 + 0 + 0 ≤ _), (by decide : 0 + 0 + 0 ≤ _)⟩)
  dsimp only [Pt.U, Pt.locs, Pt.cells, Pt.slots] at X6 l6 y6 z6 st6 hQ6
  subst l6 y6 z6
  obtain ⟨rfl, N6q, Kq6, f6_0⟩ := hQ6
  have c7_0 := c4_0.keep Kq6
  have c7_1 := c4_1.keep Kq6 (ninS (own_na (by omega)) nin0)
  have c7_2 := c4_2.keep Kq6 (ninS (own_na (by omega)) nin0)
  have c7_3 := Gr3
  have K6 : Keep h0 T6.heap [(vA + 2 + 5 * 0 + 0), (vA + 2 + 5 * 0 + 1), (vA + 2 + 5 * 0 + 2), (vA + 2 + 5 * 0 + 3), (vA + 2 + 5 * 1 + 0), (vA + 2 + 5 * 1 + 1), (vA + 2 + 5 * 1 + 2), (vA + 2 + 5 * 1 + 3)] := K3.trans Kq6 (allS (Or.inl (by simp)) all0)
  have Z6 := Nat.le_trans Z3 Kq6.1
  have N6 := Fr.app N3 N6q
  refine Go.via st6 ?_
  have Gr6 : Gd Z T6.heap vA (own_rs f dI 2) := (Gd.setK Gr3 0 1 (by decide) (by decide) Kq6 f6_0).congr (own_rs_step rfl (by decide))
  refine Vi (T6.setTop (mkF m 49 #[sR o0, sR vA, sI 2, sI 0, sR (vA + 1 + 5 * 0), sR (vA + 1 + 5 * 0), sI 4, sI 2, sR (vA + 2 + 5 * 0 + 2)] [(.ref o0), (.ref (vA + 2 + 5 * 0 + 2))])) (fun tZ kZ => ?_) ?_
  · refine XS.iinc X6.here hx rfl (hb hby d4_55) rfl (l' := #[sR o0, sR vA, sI 2, sI 0, sR (vA + 1 + 5 * 0), sR (vA + 1 + 5 * 0), sI 4, sI 2, sR (vA + 2 + 5 * 0 + 1)]) rfl ?_
    refine XS.goto X6.here hx rfl (pc0 := 58) (pc' := 32) rfl (hb hby d4_58) (by decide) (by decide) ?_
    refine XS.iload X6.here hx rfl (hb hby d4_32) rfl ?_
    refine XS.iload X6.here hx rfl (hb hby d4_34) rfl ?_
    refine XS.icmpNo X6.here hx rfl (hb hby d4_36) rfl (tlt (by decide)).2.1 ?_
    refine XS.aload X6.here hx rfl (hb hby d4_39) rfl rfl ?_
    refine XS.iload X6.here hx rfl (hb hby d4_41) rfl ?_
    refine AV.aaload (Gr6.row 0 (by decide)) rfl X6 hx hZ rfl (j := (2 : Int32)) (by decide) (hb hby d4_43) ?_
    refine XS.astore X6.here hx rfl (hb hby d4_44) rfl rfl (l' := #[sR o0, sR vA, sI 2, sI 0, sR (vA + 1 + 5 * 0), sR (vA + 1 + 5 * 0), sI 4, sI 2, sR (vA + 2 + 5 * 0 + 2)]) rfl ?_
    refine XS.aload X6.here hx rfl (hb hby d4_46) rfl rfl ?_
    refine XS.aloadN X6.here hx rfl (hb hby d4_48) rfl rfl ?_
    exact kZ
  refine GF X6 hx hZ hown (wq hw 32 rfl) rfl c7_1 (hb hby d4_49) fun T8 X8 e8 => ?_
  obtain ⟨_, _, ⟨T9, L9, k9, n9⟩, -, X9, ⟨Lc9, hQ9, l9, y9, z9⟩, st9⟩ := Jvm.LawKit.callS X8 hx (y := y5) hown (wz hZ hw 47 rfl) (wz hZ hw 48 rfl) (wz hZ hw 49 rfl) (wz hZ hw 50 rfl) (by decide) (backOf (W := 0) (rm5 l Z a0 hw [] (vA + 2 + 5 * 0 + 2) dI 3 ((own_rs f dI 2) 0 2) T6.heap n0 Z6 (Gr6.cell 0 2 (by decide) (by decide)) (Nat.le_trans ha4 (show vA ≤ (vA + 2 + 5 * 0 + 2) by omega))) hZ (wq hw 50 rfl) (wq hw 49 rfl) (by decide) (by decide)) (g := (mkF m 52 #[sR o0, sR vA, sI 2, sI 0, sR (vA + 1 + 5 * 0), sR (vA + 1 + 5 * 0), sI 4, sI 2, sR (vA + 2 + 5 * 0 + 2)] [(.double dI), (.ref (vA + 2 + 5 * 0 + 2))])) rfl (by rw [hml]; rfl) (argsL := [(.ref (vA + 2 + 5 * 0 + 2)), (.double dI)]) (rest := []) (lenOf pd_4 rfl) rfl (leW rfl) (hb hby d4_52) (fun _ _ => ⟨rfl, e8, (by decide : 0 + 0 + 0 + 0 ≤ _), (by decide : 0 + 0 + 0 + 0 ≤ _)⟩)
  dsimp only [Pt.U, Pt.locs, Pt.cells, Pt.slots] at X9 l9 y9 z9 st9 hQ9
  subst l9 y9 z9
  obtain ⟨rfl, N9q, Kq9, f9_0⟩ := hQ9
  have c10_0 := c7_0.keep Kq9
  have c10_1 := c7_1.keep Kq9 (ninS (own_na (by omega)) nin0)
  have c10_2 := c7_2.keep Kq9 (ninS (own_na (by omega)) nin0)
  have c10_3 := Gr6
  have K9 : Keep h0 T9.heap [(vA + 2 + 5 * 0 + 0), (vA + 2 + 5 * 0 + 1), (vA + 2 + 5 * 0 + 2), (vA + 2 + 5 * 0 + 3), (vA + 2 + 5 * 1 + 0), (vA + 2 + 5 * 1 + 1), (vA + 2 + 5 * 1 + 2), (vA + 2 + 5 * 1 + 3)] := K6.trans Kq9 (allS (Or.inl (by simp)) all0)
  have Z9 := Nat.le_trans Z6 Kq9.1
  have N9 := Fr.app N6 N9q
  refine Go.via st9 ?_
  have Gr9 : Gd Z T9.heap vA (own_rs f dI 3) := (Gd.setK Gr6 0 2 (by decide) (by decide) Kq9 f9_0).congr (own_rs_step rfl (by decide))
  refine Vi (T9.setTop (mkF m 49 #[sR o0, sR vA, sI 2, sI 0, sR (vA + 1 + 5 * 0), sR (vA + 1 + 5 * 0), sI 4, sI 3, sR (vA + 2 + 5 * 0 + 3)] [(.ref o0), (.ref (vA + 2 + 5 * 0 + 3))])) (fun tZ kZ => ?_) ?_
  · refine XS.iinc X9.here hx rfl (hb hby d4_55) rfl (l' := #[sR o0, sR vA, sI 2, sI 0, sR (vA + 1 + 5 * 0), sR (vA + 1 + 5 * 0), sI 4, sI 3, sR (vA + 2 + 5 * 0 + 2)]) rfl ?_
    refine XS.goto X9.here hx rfl (pc0 := 58) (pc' := 32) rfl (hb hby d4_58) (by decide) (by decide) ?_
    refine XS.iload X9.here hx rfl (hb hby d4_32) rfl ?_
    refine XS.iload X9.here hx rfl (hb hby d4_34) rfl ?_
    refine XS.icmpNo X9.here hx rfl (hb hby d4_36) rfl (tlt (by decide)).2.1 ?_
    refine XS.aload X9.here hx rfl (hb hby d4_39) rfl rfl ?_
    refine XS.iload X9.here hx rfl (hb hby d4_41) rfl ?_
    refine AV.aaload (Gr9.row 0 (by decide)) rfl X9 hx hZ rfl (j := (3 : Int32)) (by decide) (hb hby d4_43) ?_
    refine XS.astore X9.here hx rfl (hb hby d4_44) rfl rfl (l' := #[sR o0, sR vA, sI 2, sI 0, sR (vA + 1 + 5 * 0), sR (vA + 1 + 5 * 0), sI 4, sI 3, sR (vA + 2 + 5 * 0 + 3)]) rfl ?_
    refine XS.aload X9.here hx rfl (hb hby d4_46) rfl rfl ?_
    refine XS.aloadN X9.here hx rfl (hb hby d4_48) rfl rfl ?_
    exact kZ
  refine GF X9 hx hZ hown (wq hw 32 rfl) rfl c10_1 (hb hby d4_49) fun T11 X11 e11 => ?_
  obtain ⟨_, _, ⟨T12, L12, k12, n12⟩, -, X12, ⟨Lc12, hQ12, l12, y12, z12⟩, st12⟩ := Jvm.LawKit.callS X11 hx (y := y5) hown (wz hZ hw 47 rfl) (wz hZ hw 48 rfl) (wz hZ hw 49 rfl) (wz hZ hw 50 rfl) (by decide) (backOf (W := 0) (rm5 l Z a0 hw [] (vA + 2 + 5 * 0 + 3) dI 3 ((own_rs f dI 3) 0 3) T9.heap n0 Z9 (Gr9.cell 0 3 (by decide) (by decide)) (Nat.le_trans ha4 (show vA ≤ (vA + 2 + 5 * 0 + 3) by omega))) hZ (wq hw 50 rfl) (wq hw 49 rfl) (by decide) (by decide)) (g := (mkF m 52 #[sR o0, sR vA, sI 2, sI 0, sR (vA + 1 + 5 * 0), sR (vA + 1 + 5 * 0), sI 4, sI 3, sR (vA + 2 + 5 * 0 + 3)] [(.double dI), (.ref (vA + 2 + 5 * 0 + 3))])) rfl (by rw [hml]; rfl) (argsL := [(.ref (vA + 2 + 5 * 0 + 3)), (.double dI)]) (rest := []) (lenOf pd_4 rfl) rfl (leW rfl) (hb hby d4_52) (fun _ _ => ⟨rfl, e11, (by decide : 0 + 0 + 0 + 0 + 0 ≤ _), (by decide : 0 + 0 + 0 + 0 + 0 ≤ _)⟩)
  dsimp only [Pt.U, Pt.locs, Pt.cells, Pt.slots] at X12 l12 y12 z12 st12 hQ12
  subst l12 y12 z12
  obtain ⟨rfl, N12q, Kq12, f12_0⟩ := hQ12
  have c13_0 := c10_0.keep Kq12
  have c13_1 := c10_1.keep Kq12 (ninS (own_na (by omega)) nin0)
  have c13_2 := c10_2.keep Kq12 (ninS (own_na (by omega)) nin0)
  have c13_3 := Gr9
  have K12 : Keep h0 T12.heap [(vA + 2 + 5 * 0 + 0), (vA + 2 + 5 * 0 + 1), (vA + 2 + 5 * 0 + 2), (vA + 2 + 5 * 0 + 3), (vA + 2 + 5 * 1 + 0), (vA + 2 + 5 * 1 + 1), (vA + 2 + 5 * 1 + 2), (vA + 2 + 5 * 1 + 3)] := K9.trans Kq12 (allS (Or.inl (by simp)) all0)
  have Z12 := Nat.le_trans Z9 Kq12.1
  have N12 := Fr.app N9 N12q
  refine Go.via st12 ?_
  have Gr12 : Gd Z T12.heap vA (own_rs f dI 4) := (Gd.setK Gr9 0 3 (by decide) (by decide) Kq12 f12_0).congr (own_rs_step rfl (by decide))
  refine Vi (T12.setTop (mkF m 49 #[sR o0, sR vA, sI 2, sI 1, sR (vA + 1 + 5 * 1), sR (vA + 1 + 5 * 1), sI 4, sI 0, sR (vA + 2 + 5 * 1 + 0)] [(.ref o0), (.ref (vA + 2 + 5 * 1 + 0))])) (fun tZ kZ => ?_) ?_
  · refine XS.iinc X12.here hx rfl (hb hby d4_55) rfl (l' := #[sR o0, sR vA, sI 2, sI 0, sR (vA + 1 + 5 * 0), sR (vA + 1 + 5 * 0), sI 4, sI 4, sR (vA + 2 + 5 * 0 + 3)]) rfl ?_
    refine XS.goto X12.here hx rfl (pc0 := 58) (pc' := 32) rfl (hb hby d4_58) (by decide) (by decide) ?_
    refine XS.iload X12.here hx rfl (hb hby d4_32) rfl ?_
    refine XS.iload X12.here hx rfl (hb hby d4_34) rfl ?_
    refine XS.icmpYes X12.here hx rfl (pc0 := 36) (pc' := 61) rfl (hb hby d4_36) rfl (flt (by decide)).2.1 (by decide) (by decide) ?_
    refine XS.iinc X12.here hx rfl (hb hby d4_61) rfl (l' := #[sR o0, sR vA, sI 2, sI 1, sR (vA + 1 + 5 * 0), sR (vA + 1 + 5 * 0), sI 4, sI 4, sR (vA + 2 + 5 * 0 + 3)]) rfl ?_
    refine XS.goto X12.here hx rfl (pc0 := 64) (pc' := 10) rfl (hb hby d4_64) (by decide) (by decide) ?_
    refine XS.iloadN X12.here hx rfl (hb hby d4_10) rfl ?_
    refine XS.iloadN X12.here hx rfl (hb hby d4_11) rfl ?_
    refine XS.icmpNo X12.here hx rfl (hb hby d4_12) rfl (tlt (by decide)).2.1 ?_
    refine XS.aloadN X12.here hx rfl (hb hby d4_15) rfl rfl ?_
    refine XS.iloadN X12.here hx rfl (hb hby d4_16) rfl ?_
    refine AV.aaload Gr12.top rfl X12 hx hZ rfl (j := (1 : Int32)) (by decide) (hb hby d4_17) ?_
    refine XS.astore X12.here hx rfl (hb hby d4_18) rfl rfl (l' := #[sR o0, sR vA, sI 2, sI 1, sR (vA + 1 + 5 * 1), sR (vA + 1 + 5 * 0), sI 4, sI 4, sR (vA + 2 + 5 * 0 + 3)]) rfl ?_
    refine XS.aload X12.here hx rfl (hb hby d4_20) rfl rfl ?_
    refine XS.astore X12.here hx rfl (hb hby d4_22) rfl rfl (l' := #[sR o0, sR vA, sI 2, sI 1, sR (vA + 1 + 5 * 1), sR (vA + 1 + 5 * 1), sI 4, sI 4, sR (vA + 2 + 5 * 0 + 3)]) rfl ?_
    refine XS.aload X12.here hx rfl (hb hby d4_24) rfl rfl ?_
    refine AV.len (Gr12.row 1 (by decide)) X12 hx hZ rfl (hb hby d4_26) ?_
    refine XS.istore X12.here hx rfl (hb hby d4_27) rfl (l' := #[sR o0, sR vA, sI 2, sI 1, sR (vA + 1 + 5 * 1), sR (vA + 1 + 5 * 1), sI 4, sI 4, sR (vA + 2 + 5 * 0 + 3)]) rfl ?_
    refine XS.iconst X12.here hx rfl (hb hby d4_29) ?_
    refine XS.istore X12.here hx rfl (hb hby d4_30) rfl (l' := #[sR o0, sR vA, sI 2, sI 1, sR (vA + 1 + 5 * 1), sR (vA + 1 + 5 * 1), sI 4, sI 0, sR (vA + 2 + 5 * 0 + 3)]) rfl ?_
    refine XS.iload X12.here hx rfl (hb hby d4_32) rfl ?_
    refine XS.iload X12.here hx rfl (hb hby d4_34) rfl ?_
    refine XS.icmpNo X12.here hx rfl (hb hby d4_36) rfl (tlt (by decide)).2.1 ?_
    refine XS.aload X12.here hx rfl (hb hby d4_39) rfl rfl ?_
    refine XS.iload X12.here hx rfl (hb hby d4_41) rfl ?_
    refine AV.aaload (Gr12.row 1 (by decide)) rfl X12 hx hZ rfl (j := (0 : Int32)) (by decide) (hb hby d4_43) ?_
    refine XS.astore X12.here hx rfl (hb hby d4_44) rfl rfl (l' := #[sR o0, sR vA, sI 2, sI 1, sR (vA + 1 + 5 * 1), sR (vA + 1 + 5 * 1), sI 4, sI 0, sR (vA + 2 + 5 * 1 + 0)]) rfl ?_
    refine XS.aload X12.here hx rfl (hb hby d4_46) rfl rfl ?_
    refine XS.aloadN X12.here hx rfl (hb hby d4_48) rfl rfl ?_
    exact kZ
  refine GF X12 hx hZ hown (wq hw 32 rfl) rfl c13_1 (hb hby d4_49) fun T14 X14 e14 => ?_
  obtain ⟨_, _, ⟨T15, L15, k15, n15⟩, -, X15, ⟨Lc15, hQ15, l15, y15, z15⟩, st15⟩ := Jvm.LawKit.callS X14 hx (y := y5) hown (wz hZ hw 47 rfl) (wz hZ hw 48 rfl) (wz hZ hw 49 rfl) (wz hZ hw 50 rfl) (by decide) (backOf (W := 0) (rm5 l Z a0 hw [] (vA + 2 + 5 * 1 + 0) dI 3 ((own_rs f dI 4) 1 0) T12.heap n0 Z12 (Gr12.cell 1 0 (by decide) (by decide)) (Nat.le_trans ha4 (show vA ≤ (vA + 2 + 5 * 1 + 0) by omega))) hZ (wq hw 50 rfl) (wq hw 49 rfl) (by decide) (by decide)) (g := (mkF m 52 #[sR o0, sR vA, sI 2, sI 1, sR (vA + 1 + 5 * 1), sR (vA + 1 + 5 * 1), sI 4, sI 0, sR (vA + 2 + 5 * 1 + 0)] [(.double dI), (.ref (vA + 2 + 5 * 1 + 0))])) rfl (by rw [hml]; rfl) (argsL := [(.ref (vA + 2 + 5 * 1 + 0)), (.double dI)]) (rest := []) (lenOf pd_4 rfl) rfl (leW rfl) (hb hby d4_52) (fun _ _ => ⟨rfl, e14, (by decide : 0 + 0 + 0 + 0 + 0 + 0 ≤ _), (by decide : 0 + 0 + 0 + 0 + 0 + 0 ≤ _)⟩)
  dsimp only [Pt.U, Pt.locs, Pt.cells, Pt.slots] at X15 l15 y15 z15 st15 hQ15
  subst l15 y15 z15
  obtain ⟨rfl, N15q, Kq15, f15_0⟩ := hQ15
  have c16_0 := c13_0.keep Kq15
  have c16_1 := c13_1.keep Kq15 (ninS (own_na (by omega)) nin0)
  have c16_2 := c13_2.keep Kq15 (ninS (own_na (by omega)) nin0)
  have c16_3 := Gr12
  have K15 : Keep h0 T15.heap [(vA + 2 + 5 * 0 + 0), (vA + 2 + 5 * 0 + 1), (vA + 2 + 5 * 0 + 2), (vA + 2 + 5 * 0 + 3), (vA + 2 + 5 * 1 + 0), (vA + 2 + 5 * 1 + 1), (vA + 2 + 5 * 1 + 2), (vA + 2 + 5 * 1 + 3)] := K12.trans Kq15 (allS (Or.inl (by simp)) all0)
  have Z15 := Nat.le_trans Z12 Kq15.1
  have N15 := Fr.app N12 N15q
  refine Go.via st15 ?_
  have Gr15 : Gd Z T15.heap vA (own_rs f dI 5) := (Gd.setK Gr12 1 0 (by decide) (by decide) Kq15 f15_0).congr (own_rs_step rfl (by decide))
  refine Vi (T15.setTop (mkF m 49 #[sR o0, sR vA, sI 2, sI 1, sR (vA + 1 + 5 * 1), sR (vA + 1 + 5 * 1), sI 4, sI 1, sR (vA + 2 + 5 * 1 + 1)] [(.ref o0), (.ref (vA + 2 + 5 * 1 + 1))])) (fun tZ kZ => ?_) ?_
  · refine XS.iinc X15.here hx rfl (hb hby d4_55) rfl (l' := #[sR o0, sR vA, sI 2, sI 1, sR (vA + 1 + 5 * 1), sR (vA + 1 + 5 * 1), sI 4, sI 1, sR (vA + 2 + 5 * 1 + 0)]) rfl ?_
    refine XS.goto X15.here hx rfl (pc0 := 58) (pc' := 32) rfl (hb hby d4_58) (by decide) (by decide) ?_
    refine XS.iload X15.here hx rfl (hb hby d4_32) rfl ?_
    refine XS.iload X15.here hx rfl (hb hby d4_34) rfl ?_
    refine XS.icmpNo X15.here hx rfl (hb hby d4_36) rfl (tlt (by decide)).2.1 ?_
    refine XS.aload X15.here hx rfl (hb hby d4_39) rfl rfl ?_
    refine XS.iload X15.here hx rfl (hb hby d4_41) rfl ?_
    refine AV.aaload (Gr15.row 1 (by decide)) rfl X15 hx hZ rfl (j := (1 : Int32)) (by decide) (hb hby d4_43) ?_
    refine XS.astore X15.here hx rfl (hb hby d4_44) rfl rfl (l' := #[sR o0, sR vA, sI 2, sI 1, sR (vA + 1 + 5 * 1), sR (vA + 1 + 5 * 1), sI 4, sI 1, sR (vA + 2 + 5 * 1 + 1)]) rfl ?_
    refine XS.aload X15.here hx rfl (hb hby d4_46) rfl rfl ?_
    refine XS.aloadN X15.here hx rfl (hb hby d4_48) rfl rfl ?_
    exact kZ
  refine GF X15 hx hZ hown (wq hw 32 rfl) rfl c16_1 (hb hby d4_49) fun T17 X17 e17 => ?_
  obtain ⟨_, _, ⟨T18, L18, k18, n18⟩, -, X18, ⟨Lc18, hQ18, l18, y18, z18⟩, st18⟩ := Jvm.LawKit.callS X17 hx (y := y5) hown (wz hZ hw 47 rfl) (wz hZ hw 48 rfl) (wz hZ hw 49 rfl) (wz hZ hw 50 rfl) (by decide) (backOf (W := 0) (rm5 l Z a0 hw [] (vA + 2 + 5 * 1 + 1) dI 3 ((own_rs f dI 5) 1 1) T15.heap n0 Z15 (Gr15.cell 1 1 (by decide) (by decide)) (Nat.le_trans ha4 (show vA ≤ (vA + 2 + 5 * 1 + 1) by omega))) hZ (wq hw 50 rfl) (wq hw 49 rfl) (by decide) (by decide)) (g := (mkF m 52 #[sR o0, sR vA, sI 2, sI 1, sR (vA + 1 + 5 * 1), sR (vA + 1 + 5 * 1), sI 4, sI 1, sR (vA + 2 + 5 * 1 + 1)] [(.double dI), (.ref (vA + 2 + 5 * 1 + 1))])) rfl (by rw [hml]; rfl) (argsL := [(.ref (vA + 2 + 5 * 1 + 1)), (.double dI)]) (rest := []) (lenOf pd_4 rfl) rfl (leW rfl) (hb hby d4_52) (fun _ _ => ⟨rfl, e17, (by decide : 0 + 0 + 0 + 0 + 0 + 0 + 0 ≤ _), (by decide : 0 + 0 + 0 + 0 + 0 + 0 + 0 ≤ _)⟩)
  dsimp only [Pt.U, Pt.locs, Pt.cells, Pt.slots] at X18 l18 y18 z18 st18 hQ18
  subst l18 y18 z18
  obtain ⟨rfl, N18q, Kq18, f18_0⟩ := hQ18
  have c19_0 := c16_0.keep Kq18
  have c19_1 := c16_1.keep Kq18 (ninS (own_na (by omega)) nin0)
  have c19_2 := c16_2.keep Kq18 (ninS (own_na (by omega)) nin0)
  have c19_3 := Gr15
  have K18 : Keep h0 T18.heap [(vA + 2 + 5 * 0 + 0), (vA + 2 + 5 * 0 + 1), (vA + 2 + 5 * 0 + 2), (vA + 2 + 5 * 0 + 3), (vA + 2 + 5 * 1 + 0), (vA + 2 + 5 * 1 + 1), (vA + 2 + 5 * 1 + 2), (vA + 2 + 5 * 1 + 3)] := K15.trans Kq18 (allS (Or.inl (by simp)) all0)
  have Z18 := Nat.le_trans Z15 Kq18.1
  have N18 := Fr.app N15 N18q
  refine Go.via st18 ?_
  have Gr18 : Gd Z T18.heap vA (own_rs f dI 6) := (Gd.setK Gr15 1 1 (by decide) (by decide) Kq18 f18_0).congr (own_rs_step rfl (by decide))
  refine Vi (T18.setTop (mkF m 49 #[sR o0, sR vA, sI 2, sI 1, sR (vA + 1 + 5 * 1), sR (vA + 1 + 5 * 1), sI 4, sI 2, sR (vA + 2 + 5 * 1 + 2)] [(.ref o0), (.ref (vA + 2 + 5 * 1 + 2))])) (fun tZ kZ => ?_) ?_
  · refine XS.iinc X18.here hx rfl (hb hby d4_55) rfl (l' := #[sR o0, sR vA, sI 2, sI 1, sR (vA + 1 + 5 * 1), sR (vA + 1 + 5 * 1), sI 4, sI 2, sR (vA + 2 + 5 * 1 + 1)]) rfl ?_
    refine XS.goto X18.here hx rfl (pc0 := 58) (pc' := 32) rfl (hb hby d4_58) (by decide) (by decide) ?_
    refine XS.iload X18.here hx rfl (hb hby d4_32) rfl ?_
    refine XS.iload X18.here hx rfl (hb hby d4_34) rfl ?_
    refine XS.icmpNo X18.here hx rfl (hb hby d4_36) rfl (tlt (by decide)).2.1 ?_
    refine XS.aload X18.here hx rfl (hb hby d4_39) rfl rfl ?_
    refine XS.iload X18.here hx rfl (hb hby d4_41) rfl ?_
    refine AV.aaload (Gr18.row 1 (by decide)) rfl X18 hx hZ rfl (j := (2 : Int32)) (by decide) (hb hby d4_43) ?_
    refine XS.astore X18.here hx rfl (hb hby d4_44) rfl rfl (l' := #[sR o0, sR vA, sI 2, sI 1, sR (vA + 1 + 5 * 1), sR (vA + 1 + 5 * 1), sI 4, sI 2, sR (vA + 2 + 5 * 1 + 2)]) rfl ?_
    refine XS.aload X18.here hx rfl (hb hby d4_46) rfl rfl ?_
    refine XS.aloadN X18.here hx rfl (hb hby d4_48) rfl rfl ?_
    exact kZ
  refine GF X18 hx hZ hown (wq hw 32 rfl) rfl c19_1 (hb hby d4_49) fun T20 X20 e20 => ?_
  obtain ⟨_, _, ⟨T21, L21, k21, n21⟩, -, X21, ⟨Lc21, hQ21, l21, y21, z21⟩, st21⟩ := Jvm.LawKit.callS X20 hx (y := y5) hown (wz hZ hw 47 rfl) (wz hZ hw 48 rfl) (wz hZ hw 49 rfl) (wz hZ hw 50 rfl) (by decide) (backOf (W := 0) (rm5 l Z a0 hw [] (vA + 2 + 5 * 1 + 2) dI 3 ((own_rs f dI 6) 1 2) T18.heap n0 Z18 (Gr18.cell 1 2 (by decide) (by decide)) (Nat.le_trans ha4 (show vA ≤ (vA + 2 + 5 * 1 + 2) by omega))) hZ (wq hw 50 rfl) (wq hw 49 rfl) (by decide) (by decide)) (g := (mkF m 52 #[sR o0, sR vA, sI 2, sI 1, sR (vA + 1 + 5 * 1), sR (vA + 1 + 5 * 1), sI 4, sI 2, sR (vA + 2 + 5 * 1 + 2)] [(.double dI), (.ref (vA + 2 + 5 * 1 + 2))])) rfl (by rw [hml]; rfl) (argsL := [(.ref (vA + 2 + 5 * 1 + 2)), (.double dI)]) (rest := []) (lenOf pd_4 rfl) rfl (leW rfl) (hb hby d4_52) (fun _ _ => ⟨rfl, e20, (by decide : 0 + 0 + 0 + 0 + 0 + 0 + 0 + 0 ≤ _), (by decide : 0 + 0 + 0 + 0 + 0 + 0 + 0 + 0 ≤ _)⟩)
  dsimp only [Pt.U, Pt.locs, Pt.cells, Pt.slots] at X21 l21 y21 z21 st21 hQ21
  subst l21 y21 z21
  obtain ⟨rfl, N21q, Kq21, f21_0⟩ := hQ21
  have c22_0 := c19_0.keep Kq21
  have c22_1 := c19_1.keep Kq21 (ninS (own_na (by omega)) nin0)
  have c22_2 := c19_2.keep Kq21 (ninS (own_na (by omega)) nin0)
  have c22_3 := Gr18
  have K21 : Keep h0 T21.heap [(vA + 2 + 5 * 0 + 0), (vA + 2 + 5 * 0 + 1), (vA + 2 + 5 * 0 + 2), (vA + 2 + 5 * 0 + 3), (vA + 2 + 5 * 1 + 0), (vA + 2 + 5 * 1 + 1), (vA + 2 + 5 * 1 + 2), (vA + 2 + 5 * 1 + 3)] := K18.trans Kq21 (allS (Or.inl (by simp)) all0)
  have Z21 := Nat.le_trans Z18 Kq21.1
  have N21 := Fr.app N18 N21q
  refine Go.via st21 ?_
  have Gr21 : Gd Z T21.heap vA (own_rs f dI 7) := (Gd.setK Gr18 1 2 (by decide) (by decide) Kq21 f21_0).congr (own_rs_step rfl (by decide))
  refine Vi (T21.setTop (mkF m 49 #[sR o0, sR vA, sI 2, sI 1, sR (vA + 1 + 5 * 1), sR (vA + 1 + 5 * 1), sI 4, sI 3, sR (vA + 2 + 5 * 1 + 3)] [(.ref o0), (.ref (vA + 2 + 5 * 1 + 3))])) (fun tZ kZ => ?_) ?_
  · refine XS.iinc X21.here hx rfl (hb hby d4_55) rfl (l' := #[sR o0, sR vA, sI 2, sI 1, sR (vA + 1 + 5 * 1), sR (vA + 1 + 5 * 1), sI 4, sI 3, sR (vA + 2 + 5 * 1 + 2)]) rfl ?_
    refine XS.goto X21.here hx rfl (pc0 := 58) (pc' := 32) rfl (hb hby d4_58) (by decide) (by decide) ?_
    refine XS.iload X21.here hx rfl (hb hby d4_32) rfl ?_
    refine XS.iload X21.here hx rfl (hb hby d4_34) rfl ?_
    refine XS.icmpNo X21.here hx rfl (hb hby d4_36) rfl (tlt (by decide)).2.1 ?_
    refine XS.aload X21.here hx rfl (hb hby d4_39) rfl rfl ?_
    refine XS.iload X21.here hx rfl (hb hby d4_41) rfl ?_
    refine AV.aaload (Gr21.row 1 (by decide)) rfl X21 hx hZ rfl (j := (3 : Int32)) (by decide) (hb hby d4_43) ?_
    refine XS.astore X21.here hx rfl (hb hby d4_44) rfl rfl (l' := #[sR o0, sR vA, sI 2, sI 1, sR (vA + 1 + 5 * 1), sR (vA + 1 + 5 * 1), sI 4, sI 3, sR (vA + 2 + 5 * 1 + 3)]) rfl ?_
    refine XS.aload X21.here hx rfl (hb hby d4_46) rfl rfl ?_
    refine XS.aloadN X21.here hx rfl (hb hby d4_48) rfl rfl ?_
    exact kZ
  refine GF X21 hx hZ hown (wq hw 32 rfl) rfl c22_1 (hb hby d4_49) fun T23 X23 e23 => ?_
  obtain ⟨_, _, ⟨T24, L24, k24, n24⟩, -, X24, ⟨Lc24, hQ24, l24, y24, z24⟩, st24⟩ := Jvm.LawKit.callS X23 hx (y := y5) hown (wz hZ hw 47 rfl) (wz hZ hw 48 rfl) (wz hZ hw 49 rfl) (wz hZ hw 50 rfl) (by decide) (backOf (W := 0) (rm5 l Z a0 hw [] (vA + 2 + 5 * 1 + 3) dI 3 ((own_rs f dI 7) 1 3) T21.heap n0 Z21 (Gr21.cell 1 3 (by decide) (by decide)) (Nat.le_trans ha4 (show vA ≤ (vA + 2 + 5 * 1 + 3) by omega))) hZ (wq hw 50 rfl) (wq hw 49 rfl) (by decide) (by decide)) (g := (mkF m 52 #[sR o0, sR vA, sI 2, sI 1, sR (vA + 1 + 5 * 1), sR (vA + 1 + 5 * 1), sI 4, sI 3, sR (vA + 2 + 5 * 1 + 3)] [(.double dI), (.ref (vA + 2 + 5 * 1 + 3))])) rfl (by rw [hml]; rfl) (argsL := [(.ref (vA + 2 + 5 * 1 + 3)), (.double dI)]) (rest := []) (lenOf pd_4 rfl) rfl (leW rfl) (hb hby d4_52) (fun _ _ => ⟨rfl, e23, (by decide : 0 + 0 + 0 + 0 + 0 + 0 + 0 + 0 + 0 ≤ _), (by decide : 0 + 0 + 0 + 0 + 0 + 0 + 0 + 0 + 0 ≤ _)⟩)
  dsimp only [Pt.U, Pt.locs, Pt.cells, Pt.slots] at X24 l24 y24 z24 st24 hQ24
  subst l24 y24 z24
  obtain ⟨rfl, N24q, Kq24, f24_0⟩ := hQ24
  have c25_0 := c22_0.keep Kq24
  have c25_1 := c22_1.keep Kq24 (ninS (own_na (by omega)) nin0)
  have c25_2 := c22_2.keep Kq24 (ninS (own_na (by omega)) nin0)
  have c25_3 := Gr21
  have K24 : Keep h0 T24.heap [(vA + 2 + 5 * 0 + 0), (vA + 2 + 5 * 0 + 1), (vA + 2 + 5 * 0 + 2), (vA + 2 + 5 * 0 + 3), (vA + 2 + 5 * 1 + 0), (vA + 2 + 5 * 1 + 1), (vA + 2 + 5 * 1 + 2), (vA + 2 + 5 * 1 + 3)] := K21.trans Kq24 (allS (Or.inl (by simp)) all0)
  have Z24 := Nat.le_trans Z21 Kq24.1
  have N24 := Fr.app N21 N24q
  refine Go.via st24 ?_
  have Gr24 : Gd Z T24.heap vA (own_rs f dI 8) := (Gd.setK Gr21 1 3 (by decide) (by decide) Kq24 f24_0).congr (own_rs_step rfl (by decide))
  refine Vi (T24.setTop (mkF m 67 #[sR o0, sR vA, sI 2, sI 2, sR (vA + 1 + 5 * 1), sR (vA + 1 + 5 * 1), sI 4, sI 4, sR (vA + 2 + 5 * 1 + 3)] [])) (fun tZ kZ => ?_) ?_
  · refine XS.iinc X24.here hx rfl (hb hby d4_55) rfl (l' := #[sR o0, sR vA, sI 2, sI 1, sR (vA + 1 + 5 * 1), sR (vA + 1 + 5 * 1), sI 4, sI 4, sR (vA + 2 + 5 * 1 + 3)]) rfl ?_
    refine XS.goto X24.here hx rfl (pc0 := 58) (pc' := 32) rfl (hb hby d4_58) (by decide) (by decide) ?_
    refine XS.iload X24.here hx rfl (hb hby d4_32) rfl ?_
    refine XS.iload X24.here hx rfl (hb hby d4_34) rfl ?_
    refine XS.icmpYes X24.here hx rfl (pc0 := 36) (pc' := 61) rfl (hb hby d4_36) rfl (flt (by decide)).2.1 (by decide) (by decide) ?_
    refine XS.iinc X24.here hx rfl (hb hby d4_61) rfl (l' := #[sR o0, sR vA, sI 2, sI 2, sR (vA + 1 + 5 * 1), sR (vA + 1 + 5 * 1), sI 4, sI 4, sR (vA + 2 + 5 * 1 + 3)]) rfl ?_
    refine XS.goto X24.here hx rfl (pc0 := 64) (pc' := 10) rfl (hb hby d4_64) (by decide) (by decide) ?_
    refine XS.iloadN X24.here hx rfl (hb hby d4_10) rfl ?_
    refine XS.iloadN X24.here hx rfl (hb hby d4_11) rfl ?_
    refine XS.icmpYes X24.here hx rfl (pc0 := 12) (pc' := 67) rfl (hb hby d4_12) rfl (flt (by decide)).2.1 (by decide) (by decide) ?_
    exact kZ
  have Ge : Gd Z T24.heap vA (fun _ _ _ => dI) := Gr24.congr own_rs_end
  refine Go.retV X24 hx Bd.notSynchronized Bd.returns (hb hby d4_67) (by decide) (by decide) ?_
  exact ⟨rfl, N24, K24, c25_0, c25_1, c25_2, Ge⟩
def own_b2 (a b : Nat) : Nat → Value := fun k => if k = 0 then .ref a else .ref b
theorem own_b20 {a b : Nat} : own_b2 a b (0 : Int32).toNatClampNeg = .ref a := rfl
theorem own_b21 {a b : Nat} : own_b2 a b (1 : Int32).toNatClampNeg = .ref b := rfl
def own_2 (a b : Int32) : Nat → Int32 := fun k => if k = 0 then a else b
theorem own_xb {x : Int32} (h : x = 0 ∨ x = 1) : ¬ x < 0 ∧ x.toNatClampNeg < 2 := by rcases h with rfl | rfl <;> decide
theorem own_x3 {x : Int32} (h : x = 0 ∨ x = 1 ∨ x = 2) : ¬ x < 0 ∧ x.toNatClampNeg < 3 := by rcases h with rfl | rfl | rfl <;> decide
theorem own_p1 {x : Int32} (h : x = 0 ∨ x = 1 ∨ x = 2) : ¬ x + 1 < 0 ∧ (x + 1).toNatClampNeg < 4 := by rcases h with rfl | rfl | rfl <;> decide
theorem d3_0 : DC B3 0 (.aload_n 0) 1 := by decide +kernel
theorem d3_1 : DC B3 1 (.invokespecial 1) 3 := by decide +kernel
theorem d3_4 : DC B3 4 (.aload_n 0) 1 := by decide +kernel
theorem d3_5 : DC B3 5 (.dload_n 3) 1 := by decide +kernel
theorem d3_6 : DC B3 6 (.putfield 7) 3 := by decide +kernel
theorem d3_9 : DC B3 9 (.aload_n 0) 1 := by decide +kernel
theorem d3_10 : DC B3 10 (.iload_n 1) 1 := by decide +kernel
theorem d3_11 : DC B3 11 (.iload_n 2) 1 := by decide +kernel
theorem d3_12 : DC B3 12 (.iconst 1) 1 := by decide +kernel
theorem d3_13 : DC B3 13 (.iadd) 1 := by decide +kernel
theorem d3_14 : DC B3 14 (.iload_n 2) 1 := by decide +kernel
theorem d3_15 : DC B3 15 (.multianewarray 13 3) 4 := by decide +kernel
theorem d3_19 : DC B3 19 (.putfield 15) 3 := by decide +kernel
theorem d3_22 : DC B3 22 (.aload_n 0) 1 := by decide +kernel
theorem d3_23 : DC B3 23 (.iload_n 1) 1 := by decide +kernel
theorem d3_24 : DC B3 24 (.iload_n 2) 1 := by decide +kernel
theorem d3_25 : DC B3 25 (.iconst 1) 1 := by decide +kernel
theorem d3_26 : DC B3 26 (.iadd) 1 := by decide +kernel
theorem d3_27 : DC B3 27 (.iload_n 2) 1 := by decide +kernel
theorem d3_28 : DC B3 28 (.multianewarray 13 3) 4 := by decide +kernel
theorem d3_32 : DC B3 32 (.putfield 18) 3 := by decide +kernel
theorem d3_35 : DC B3 35 (.aload_n 0) 1 := by decide +kernel
theorem pd_1 : parseMethodDescriptor "()V" = some ⟨[], none⟩ := by decide +kernel
theorem d3_36 : DC B3 36 (.invokevirtual 21) 3 := by decide +kernel
theorem d3_39 : DC B3 39 (.return_) 1 := by decide +kernel
def Q3 (Z : State) (o0 : Nat) (d3 : UInt64) (h0 : Heap) (n0 : Nat) (v : Option Value) (h : Heap) (L : List Loc) : Prop := v = none ∧ Fr n0 L ∧ ∃ b4 : Nat, ∃ b8 : Nat, h0.size ≤ b4 ∧ h0.size ≤ b8 ∧ b4 ≠ b8 ∧ Keep h0 h [o0] ∧ Exa Z h o0 "com/example/muster/muster/solvers/Pheromone" ∧ Fld Z h o0 "com/example/muster/muster/solvers/Pheromone" "initial" "D" (.double d3) ∧ Fld Z h o0 "com/example/muster/muster/solvers/Pheromone" "value" "[[[D" (.ref b4) ∧ Fld Z h o0 "com/example/muster/muster/solvers/Pheromone" "deposited" "[[[D" (.ref b8) ∧ Gd Z h b4 (fun _ _ _ => d3) ∧ Gd Z h b8 (fun _ _ _ => (0 : UInt64)) ∧ b4 + 11 ≤ b8
abbrev RM_2_22_68_36 : Room := { frames := 2, cells := 22, slots := 68, locals := 36 }
theorem ef_3_aaaa (m : MethodId) (x0 : Nat) (x1 : Int32) (x2 : Int32) (x3 : UInt64) : entryFrame m #[(.ref x0), (.int x1), (.int x2), (.double x3)] 5 = mkF m 0 #[.val (.ref x0), .val (.int x1), .val (.int x2), .val (.double x3), .second] [] := by first | (simp [entryFrame, mkF, argsToLocals, Value.category]; done) | rfl
theorem rm3 (l : Launch) (Z : State) (a0 : Array Value) (hw : HW a0 Z) (ws : List Jvm.Cond) (o0 : Nat) (d3 : UInt64) (h0 : Heap) (n0 : Nat) (Z0 : n0 ≤ h0.size) (ha0 : Exa Z h0 o0 "com/example/muster/muster/solvers/Pheromone") (ha1 : Fld Z h0 o0 "com/example/muster/muster/solvers/Pheromone" "initial" "D" (.double 0)) (ha2 : Fld Z h0 o0 "com/example/muster/muster/solvers/Pheromone" "value" "[[[D" .null) (ha3 : Fld Z h0 o0 "com/example/muster/muster/solvers/Pheromone" "deposited" "[[[D" .null) (ha4 : n0 ≤ o0) :
    MetFree l y3 (head1 (Jvm.Cond.code y3 prog_48_method_1_code 5 none :: ws) RM_2_22_68_36) (fun a U => a = #[(.ref o0), (.int 2), (.int 3), (.double d3)] ∧ Z.Warmed39 U.vm ∧ U.heap = h0) (fun _ _ _ _ _ => True) (fun _ U o U' => ∃ v L, o = .returned v ∧ Q3 Z o0 d3 h0 n0 v U'.heap L ∧ FrameEnd U o U' L RM_2_22_68_36.cells RM_2_22_68_36.slots) := by
  refine MetFree.of_bodySF (plainFor_of_name pn_1) hisR ?_
  intro p e s m args below meth c s₁ Bd hml0 hP hK
  obtain ⟨rfl, hZ, hh⟩ := hP
  have hx := Bd.exec
  have hby := Bd.bytes
  have hml : c.maxLocals = 5 := hml0
  have hown : s.vm.findClass "com/example/muster/muster/solvers/Pheromone" = some m.cls := findClass_of_methodNamed Bd.named
  have hnm := (name_of_methodNamed Bd.named Bd.method).1
  have X0 : Stand p l e RM_2_22_68_36 s m _ below meth c s₁ [] 0 0 := Stand.of_body Bd
  have e0 : s₁.heap = h0 := by rw [← hh, Bd.state]; rfl
  have N0 := Fr.nil n0
  refine Go.into (P := fun oo uu => ∃ v L, oo = .returned v ∧ Q3 Z o0 d3 h0 n0 v uu.heap L ∧ FrameEnd s oo uu L RM_2_22_68_36.cells RM_2_22_68_36.slots) (ef_3_aaaa m o0 (2 : Int32) (3 : Int32) d3) ?_
  show Go p e below _ (s₁.setTop (mkF m 0 #[sR o0, sI 2, sI 3, .val (.double d3), .second] []))
  refine Vi (s₁.setTop (mkF m 1 #[sR o0, sI 2, sI 3, .val (.double d3), .second] [(.ref o0)])) (fun tZ kZ => ?_) ?_
  · refine XS.aloadN X0.here hx rfl (hb hby d3_0) rfl rfl ?_
    exact kZ
  obtain ⟨T1, X1, e1, st1⟩ := initO X0 hx hZ hown (wq hw 31 rfl) (wq hw 13 rfl) (wq hw 14 rfl) e0 (g := (mkF m 1 #[sR o0, sI 2, sI 3, .val (.double d3), .second] [(.ref o0)])) rfl (by rw [hml]; rfl) rfl (hb hby d3_1) (by decide) (W := 0) (by show 2 * 0 + _ ≤ _; exact Nat.le_of_eq rfl) (by decide)
  refine Go.via st1 ?_
  refine Vi (T1.setTop (mkF m 6 #[sR o0, sI 2, sI 3, .val (.double d3), .second] [(.double d3), (.ref o0)])) (fun tZ kZ => ?_) ?_
  · refine XS.aloadN X1.here hx rfl (hb hby d3_4) rfl rfl ?_
    refine XS.dloadN X1.here hx rfl (hb hby d3_5) rfl ?_
    exact kZ
  obtain ⟨T2, h2, X2, e2, W2, st2⟩ := putF X1 hx hZ hown (host := "") (Or.inl (wq hw 32 rfl)) Via.refl e1 ha1 ha0 (Or.inr ⟨(wq hw 33 rfl), rfl, hnm⟩) (wq hw 26 rfl) (ty := .double) (by decide) rfl rfl (g := (mkF m 6 #[sR o0, sI 2, sI 3, .val (.double d3), .second] [(.double d3), (.ref o0)])) rfl rfl (hb hby d3_6)
  have N2 := Fr.snoc X2 N0 ha4
  have c3_0 := ha0.wr W2
  have c3_2 := ha2.other W2 (sn (Or.inr (wq hw 39 rfl)) (Or.inr (wq hw 33 rfl)))
  have c3_3 := ha3.other W2 (sn (Or.inr (wq hw 41 rfl)) (Or.inr (wq hw 33 rfl)))
  have K2 : Keep h0 h2 [o0] := (Keep.refl h0 [o0]).wr W2 (Or.inl (by simp))
  have Z2 := Nat.le_trans Z0 (Keep.of_wr W2).1
  have Fw2 := ha1.same W2
  refine Go.via st2 ?_
  refine Vi (T2.setTop (mkF m 15 #[sR o0, sI 2, sI 3, .val (.double d3), .second] [(.int 3), (.int 4), (.int 2), (.ref o0)])) (fun tZ kZ => ?_) ?_
  · refine XS.aloadN X2.here hx rfl (hb hby d3_9) rfl rfl ?_
    refine XS.iloadN X2.here hx rfl (hb hby d3_10) rfl ?_
    refine XS.iloadN X2.here hx rfl (hb hby d3_11) rfl ?_
    refine XS.iconst X2.here hx rfl (hb hby d3_12) ?_
    refine XS.iadd X2.here hx rfl (hb hby d3_13) rfl ?_
    refine XS.iloadN X2.here hx rfl (hb hby d3_14) rfl ?_
    exact kZ
  obtain ⟨T4, h4, X4, e4, E4, s4, A4, B4, C4, st4⟩ := own_multi3 X2 hx hZ hown (wq hw 34 rfl) (wq hw 35 rfl) (wq hw 36 rfl) (wq hw 37 rfl) e2 (g := (mkF m 15 #[sR o0, sI 2, sI 3, .val (.double d3), .second] [(.int 3), (.int 4), (.int 2), (.ref o0)])) rfl (hb hby d3_15) rfl (by decide) (by decide) (by decide) (N := 2) (M := 4) (K := 3) rfl rfl rfl (by decide) (by decide) (by decide) (by decide) (by decide)
  obtain ⟨b4, g4⟩ : ∃ z, z = h2.size := ⟨_, rfl⟩
  rw [← g4] at s4 A4 B4 C4 st4
  have Gn4 : Gd Z h4 b4 (fun _ _ _ => 0) := Gd.new A4 B4 C4
  have g_b4 : n0 ≤ b4 := Nat.le_trans Z2 (Nat.le_of_eq g4.symm)
  have sz_b4 : h0.size ≤ b4 := Nat.le_trans (K2).1 (Nat.le_of_eq g4.symm)
  have ne_o0_b4 : o0 ≠ b4 := Nat.ne_of_lt (Nat.lt_of_lt_of_le c3_0.lt (Nat.le_of_eq g4.symm))
  have lt_o0_b4 : (o0 : Nat) < b4 := Nat.lt_of_lt_of_le c3_0.lt (Nat.le_of_eq g4.symm)
  have c5_0 := c3_0.ext E4
  have c5_1 := Fw2.ext E4
  have c5_2 := c3_2.ext E4
  have c5_3 := c3_3.ext E4
  have K4 : Keep h0 h4 [o0] := K2.ext E4
  have Z4 := Nat.le_trans Z2 E4.1
  refine Go.via st4 ?_
  obtain ⟨T6, h6, X6, e6, W6, st6⟩ := putF X4 hx hZ hown (host := "") (Or.inl (wq hw 38 rfl)) Via.refl e4 c5_2 c5_0 (Or.inr ⟨(wq hw 39 rfl), rfl, hnm⟩) (wq hw 26 rfl) (ty := (.array (.array (.array .double)))) (by decide) rfl rfl (g := (mkF m 19 #[sR o0, sI 2, sI 3, .val (.double d3), .second] [(.ref b4), (.ref o0)])) rfl rfl (hb hby d3_19)
  have N6 := Fr.snoc X6 N2 ha4
  have c7_0 := c5_0.wr W6
  have c7_1 := c5_1.other W6 (sn (Or.inr (wq hw 33 rfl)) (Or.inr (wq hw 39 rfl)))
  have c7_3 := c5_3.other W6 (sn (Or.inr (wq hw 41 rfl)) (Or.inr (wq hw 39 rfl)))
  have c7_6 := Gn4.other W6 (by omega)
  have K6 : Keep h0 h6 [o0] := K4.wr W6 (Or.inl (by simp))
  have Z6 := Nat.le_trans Z4 (Keep.of_wr W6).1
  have Fw6 := c5_2.same W6
  refine Go.via st6 ?_
  refine Vi (T6.setTop (mkF m 28 #[sR o0, sI 2, sI 3, .val (.double d3), .second] [(.int 3), (.int 4), (.int 2), (.ref o0)])) (fun tZ kZ => ?_) ?_
  · refine XS.aloadN X6.here hx rfl (hb hby d3_22) rfl rfl ?_
    refine XS.iloadN X6.here hx rfl (hb hby d3_23) rfl ?_
    refine XS.iloadN X6.here hx rfl (hb hby d3_24) rfl ?_
    refine XS.iconst X6.here hx rfl (hb hby d3_25) ?_
    refine XS.iadd X6.here hx rfl (hb hby d3_26) rfl ?_
    refine XS.iloadN X6.here hx rfl (hb hby d3_27) rfl ?_
    exact kZ
  obtain ⟨T8, h8, X8, e8, E8, s8, A8, B8, C8, st8⟩ := own_multi3 X6 hx hZ hown (wq hw 34 rfl) (wq hw 35 rfl) (wq hw 36 rfl) (wq hw 37 rfl) e6 (g := (mkF m 28 #[sR o0, sI 2, sI 3, .val (.double d3), .second] [(.int 3), (.int 4), (.int 2), (.ref o0)])) rfl (hb hby d3_28) rfl (by decide) (by decide) (by decide) (N := 2) (M := 4) (K := 3) rfl rfl rfl (by decide) (by decide) (by decide) (by decide) (by decide)
  obtain ⟨b8, g8⟩ : ∃ z, z = h6.size := ⟨_, rfl⟩
  rw [← g8] at s8 A8 B8 C8 st8
  have Gn8 : Gd Z h8 b8 (fun _ _ _ => 0) := Gd.new A8 B8 C8
  have g_b8 : n0 ≤ b8 := Nat.le_trans Z6 (Nat.le_of_eq g8.symm)
  have sz_b8 : h0.size ≤ b8 := Nat.le_trans (K6).1 (Nat.le_of_eq g8.symm)
  have ne_o0_b8 : o0 ≠ b8 := Nat.ne_of_lt (Nat.lt_of_lt_of_le c7_0.lt (Nat.le_of_eq g8.symm))
  have lt_o0_b8 : (o0 : Nat) < b8 := Nat.lt_of_lt_of_le c7_0.lt (Nat.le_of_eq g8.symm)
  have lt_b4_b8 : (b4 : Nat) + 11 ≤ b8 := Nat.le_trans c7_6.lt (Nat.le_of_eq g8.symm)
  have c9_0 := c7_0.ext E8
  have c9_1 := c7_1.ext E8
  have c9_2 := Fw6.ext E8
  have c9_3 := c7_3.ext E8
  have c9_6 := c7_6.ext E8
  have K8 : Keep h0 h8 [o0] := K6.ext E8
  have Z8 := Nat.le_trans Z6 E8.1
  refine Go.via st8 ?_
  obtain ⟨T10, h10, X10, e10, W10, st10⟩ := putF X8 hx hZ hown (host := "") (Or.inl (wq hw 40 rfl)) Via.refl e8 c9_3 c9_0 (Or.inr ⟨(wq hw 41 rfl), rfl, hnm⟩) (wq hw 26 rfl) (ty := (.array (.array (.array .double)))) (by decide) rfl rfl (g := (mkF m 32 #[sR o0, sI 2, sI 3, .val (.double d3), .second] [(.ref b8), (.ref o0)])) rfl rfl (hb hby d3_32)
  have N10 := Fr.snoc X10 N6 ha4
  have c11_0 := c9_0.wr W10
  have c11_1 := c9_1.other W10 (sn (Or.inr (wq hw 33 rfl)) (Or.inr (wq hw 41 rfl)))
  have c11_2 := c9_2.other W10 (sn (Or.inr (wq hw 39 rfl)) (Or.inr (wq hw 41 rfl)))
  have c11_6 := c9_6.other W10 (by omega)
  have c11_8 := Gn8.other W10 (by omega)
  have c11_9 := lt_b4_b8
  have K10 : Keep h0 h10 [o0] := K8.wr W10 (Or.inl (by simp))
  have Z10 := Nat.le_trans Z8 (Keep.of_wr W10).1
  have Fw10 := c9_3.same W10
  refine Go.via st10 ?_
  refine Vi (T10.setTop (mkF m 36 #[sR o0, sI 2, sI 3, .val (.double d3), .second] [(.ref o0)])) (fun tZ kZ => ?_) ?_
  · refine XS.aloadN X10.here hx rfl (hb hby d3_35) rfl rfl ?_
    exact kZ
  obtain ⟨cq12, kq12, q12a, q12b, q12c⟩ := isOf hZ e10 c11_0
  obtain ⟨_, _, ⟨T12, L12, k12, n12⟩, -, X12, ⟨Lc12, hQ12, l12, y12, z12⟩, st12⟩ := X10.virtualBack hx (y := y4) (z := y4) hown (wz hZ hw 42 rfl) (wz hZ hw 43 rfl) (notFace_of_selects (args := #[]) (wz hZ hw 45 rfl)) (wz hZ hw 45 rfl) (wz hZ hw 44 rfl) (by decide) (backOf (W := 0) (rm4 l Z a0 hw [] o0 d3 b4 (fun _ _ _ => (0 : UInt64)) h10 n0 Z10 c11_0 c11_1 c11_2 c11_6 g_b4 (by omega)) hZ (wq hw 46 rfl) (wq hw 27 rfl) (by decide) (by decide)) q12a q12c (g := (mkF m 36 #[sR o0, sI 2, sI 3, .val (.double d3), .second] [(.ref o0)])) rfl (by rw [hml]; rfl) (Steps.refl _) (argsL := []) (rest := []) (lenOf pd_1 rfl) rfl (leW rfl) (hb hby d3_36) (fun _ _ => ⟨rfl, e10, (by decide : 0 + 11 + 11 + 0 ≤ _), (by decide : 0 + 34 + 34 + 0 ≤ _)⟩)
  dsimp only [Pt.U, Pt.locs, Pt.cells, Pt.slots] at X12 l12 y12 z12 st12 hQ12
  subst l12 y12 z12
  obtain ⟨rfl, N12q, Kq12, f12_0, f12_1, f12_2, f12_3⟩ := hQ12
  have c13_3 := Fw10.keep Kq12 (ninS (own_na (by omega)) (ninS (own_na (by omega)) (ninS (own_na (by omega)) (ninS (own_na (by omega)) (ninS (own_na (by omega)) (ninS (own_na (by omega)) (ninS (own_na (by omega)) (ninS (own_na (by omega)) nin0))))))))
  have c13_8 := c11_8.keep Kq12 (allS (by omega) (allS (by omega) (allS (by omega) (allS (by omega) (allS (by omega) (allS (by omega) (allS (by omega) (allS (by omega) all0))))))))
  have c13_9 := c11_9
  have K12 : Keep h0 T12.heap [o0] := K10.trans Kq12 (allS (Or.inr (Nat.le_trans sz_b4 (show b4 ≤ (b4 + 2 + 5 * 0 + 0) by omega))) (allS (Or.inr (Nat.le_trans sz_b4 (show b4 ≤ (b4 + 2 + 5 * 0 + 1) by omega))) (allS (Or.inr (Nat.le_trans sz_b4 (show b4 ≤ (b4 + 2 + 5 * 0 + 2) by omega))) (allS (Or.inr (Nat.le_trans sz_b4 (show b4 ≤ (b4 + 2 + 5 * 0 + 3) by omega))) (allS (Or.inr (Nat.le_trans sz_b4 (show b4 ≤ (b4 + 2 + 5 * 1 + 0) by omega))) (allS (Or.inr (Nat.le_trans sz_b4 (show b4 ≤ (b4 + 2 + 5 * 1 + 1) by omega))) (allS (Or.inr (Nat.le_trans sz_b4 (show b4 ≤ (b4 + 2 + 5 * 1 + 2) by omega))) (allS (Or.inr (Nat.le_trans sz_b4 (show b4 ≤ (b4 + 2 + 5 * 1 + 3) by omega))) all0))))))))
  have Z12 := Nat.le_trans Z10 Kq12.1
  have N12 := Fr.app N10 N12q
  refine Go.via (fun t k => st12.trans k) ?_
  refine Go.retV X12 hx Bd.notSynchronized Bd.returns (hb hby d3_39) (by decide) (by decide) ?_
  exact ⟨rfl, N12, b4, b8, sz_b4, sz_b8, (own_na (by omega)), K12, f12_0, f12_1, f12_2, c13_3, f12_3, c13_8, c13_9⟩
theorem d8_0 : DC B8 0 (.aload_n 0) 1 := by decide +kernel
theorem d8_1 : DC B8 1 (.getfield 9) 3 := by decide +kernel
theorem d8_4 : DC B8 4 (.arraylength) 1 := by decide +kernel
theorem d8_5 : DC B8 5 (.ireturn) 1 := by decide +kernel
def f8 (o0 : Nat) (qA : Nat) (cA : Nat) (eA : Nat) : Int32 := (2 : Int32)
def Q8 (o0 : Nat) (qA : Nat) (cA : Nat) (eA : Nat) (h0 : Heap) (n0 : Nat) (v : Option Value) (h : Heap) (L : List Loc) : Prop := v = some (.int (f8 o0 qA cA eA)) ∧ Fr n0 L ∧ h = h0
theorem pn_2 : plainName "com/example/muster/muster/core/MpdaPlan" = true := by first | (simp [plainName, overriddenIn]; done) | decide +kernel
theorem ef_8_a (m : MethodId) (x0 : Nat) : entryFrame m #[(.ref x0)] 1 = mkF m 0 #[.val (.ref x0)] [] := by first | (simp [entryFrame, mkF, argsToLocals, Value.category]; done) | rfl
theorem rm8 (l : Launch) (Z : State) (a0 : Array Value) (hw : HW a0 Z) (ws : List Jvm.Cond) (o0 : Nat) (qA : Nat) (cA : Nat) (eA : Nat) (h0 : Heap) (n0 : Nat) (Z0 : n0 ≤ h0.size) (ha0 : Exa Z h0 o0 "com/example/muster/muster/core/MpdaPlan") (ha1 : Fld Z h0 o0 "com/example/muster/muster/core/MpdaPlan" "routes" "[[I" (.ref qA)) (ha2 : AV Z h0 qA (.array .int) 2 (own_b2 cA eA)) :
    MetFree l y8 (head1 (Jvm.Cond.code y8 prog_25_method_2_code 1 (some .int) :: ws) RM_0_0_0_0) (fun a U => a = #[(.ref o0)] ∧ Z.Warmed39 U.vm ∧ U.heap = h0) (fun _ _ _ _ _ => True) (fun _ U o U' => ∃ v L, o = .returned v ∧ Q8 o0 qA cA eA h0 n0 v U'.heap L ∧ FrameEnd U o U' L RM_0_0_0_0.cells RM_0_0_0_0.slots) := by
  refine MetFree.of_bodySF (plainFor_of_name pn_2) hisR ?_
  intro p e s m args below meth c s₁ Bd hml0 hP hK
  obtain ⟨rfl, hZ, hh⟩ := hP
  have hx := Bd.exec
  have hby := Bd.bytes
  have hml : c.maxLocals = 1 := hml0
  have hown : s.vm.findClass "com/example/muster/muster/core/MpdaPlan" = some m.cls := findClass_of_methodNamed Bd.named
  have X0 : Stand p l e RM_0_0_0_0 s m _ below meth c s₁ [] 0 0 := Stand.of_body Bd
  have e0 : s₁.heap = h0 := by rw [← hh, Bd.state]; rfl
  have N0 := Fr.nil n0
  refine Go.into (P := fun oo uu => ∃ v L, oo = .returned v ∧ Q8 o0 qA cA eA h0 n0 v uu.heap L ∧ FrameEnd s oo uu L RM_0_0_0_0.cells RM_0_0_0_0.slots) (ef_8_a m o0) ?_
  show Go p e below _ (s₁.setTop (mkF m 0 #[sR o0] []))
  refine Vi (s₁.setTop (mkF m 1 #[sR o0] [(.ref o0)])) (fun tZ kZ => ?_) ?_
  · refine XS.aloadN X0.here hx rfl (hb hby d8_0) rfl rfl ?_
    exact kZ
  refine GF X0 hx hZ hown (wq hw 16 rfl) e0 ha1 (hb hby d8_1) fun T1 X1 e1 => ?_
  refine Vi (T1.setTop (mkF m 5 #[sR o0] [(.int 2)])) (fun tZ kZ => ?_) ?_
  · refine AV.len ha2 X1 hx hZ e1 (hb hby d8_4) ?_
    exact kZ
  refine Go.retI X1 hx Bd.notSynchronized Bd.returns (hb hby d8_5) (by decide) (by decide) ?_
  refine ⟨?_, N0, e1⟩
  show some ((.int 2) : Value) = some (.int (f8 o0 qA cA eA))
  rfl
theorem d1_0 : DC B1 0 (.aload_n 0) 1 := by decide +kernel
theorem d1_1 : DC B1 1 (.invokespecial 1) 3 := by decide +kernel
theorem d1_4 : DC B1 4 (.aload_n 0) 1 := by decide +kernel
theorem d1_5 : DC B1 5 (.aload_n 1) 1 := by decide +kernel
theorem d1_6 : DC B1 6 (.arraylength) 1 := by decide +kernel
theorem d1_7 : DC B1 7 (.anewarray 7) 3 := by decide +kernel
theorem d1_10 : DC B1 10 (.putfield 9) 3 := by decide +kernel
theorem d1_13 : DC B1 13 (.iconst 0) 1 := by decide +kernel
theorem d1_14 : DC B1 14 (.istore_n 2) 1 := by decide +kernel
theorem d1_15 : DC B1 15 (.iload_n 2) 1 := by decide +kernel
theorem d1_16 : DC B1 16 (.aload_n 1) 1 := by decide +kernel
theorem d1_17 : DC B1 17 (.arraylength) 1 := by decide +kernel
theorem d1_18 : DC B1 18 (.if_icmp .ge 24) 3 := by decide +kernel
theorem d1_21 : DC B1 21 (.aload_n 0) 1 := by decide +kernel
theorem d1_22 : DC B1 22 (.getfield 9) 3 := by decide +kernel
theorem d1_25 : DC B1 25 (.iload_n 2) 1 := by decide +kernel
theorem d1_26 : DC B1 26 (.aload_n 1) 1 := by decide +kernel
theorem d1_27 : DC B1 27 (.iload_n 2) 1 := by decide +kernel
theorem d1_28 : DC B1 28 (.aaload) 1 := by decide +kernel
theorem d1_29 : DC B1 29 (.invokevirtual 15) 3 := by decide +kernel
theorem d1_32 : DC B1 32 (.checkcast 7) 3 := by decide +kernel
theorem d1_35 : DC B1 35 (.aastore) 1 := by decide +kernel
theorem d1_36 : DC B1 36 (.iinc 2 1) 3 := by decide +kernel
theorem d1_39 : DC B1 39 (.goto (-24)) 3 := by decide +kernel
theorem d1_42 : DC B1 42 (.return_) 1 := by decide +kernel
def Q1a (Z : State) (o0 : Nat) (o1 : Nat) (rA : Nat) (sA : Nat) (xa : Int32) (xb : Int32) (xc : Int32) (h0 : Heap) (n0 : Nat) (v : Option Value) (h : Heap) (L : List Loc) : Prop := v = none ∧ Fr n0 L ∧ ∃ b2 : Nat, ∃ b7 : Nat, ∃ b13 : Nat, h0.size ≤ b2 ∧ h0.size ≤ b7 ∧ h0.size ≤ b13 ∧ b2 ≠ b7 ∧ b2 ≠ b13 ∧ b7 ≠ b13 ∧ Keep h0 h [o0] ∧ Exa Z h o0 "com/example/muster/muster/core/MpdaPlan" ∧ Fld Z h o0 "com/example/muster/muster/core/MpdaPlan" "routes" "[[I" (.ref b2) ∧ Exa Z h rA "[I" ∧ Exa Z h sA "[I" ∧ AV Z h o1 (.array .int) 2 (own_b2 rA sA) ∧ AV Z h rA .int 2 (fun k => .int ((own_2 xa xb) k)) ∧ AV Z h sA .int 1 (fun k => .int ((fun _ => xc) k)) ∧ AV Z h b2 (.array .int) 2 (up (up (fun _ => Value.null) (0 : Int32).toNatClampNeg (.ref b7)) (1 : Int32).toNatClampNeg (.ref b13)) ∧ Exa Z h b2 "[[I" ∧ OV Z h b2 .int "[I" ∧ AV Z h b7 .int 2 (fun k => .int ((own_2 xa xb) k)) ∧ Exa Z h b7 "[I" ∧ AV Z h b13 .int 1 (fun k => .int ((fun _ => xc) k)) ∧ Exa Z h b13 "[I"
abbrev RM_1_3_6_16 : Room := { frames := 1, cells := 3, slots := 6, locals := 16 }
theorem ef_1_aa (m : MethodId) (x0 : Nat) (x1 : Nat) : entryFrame m #[(.ref x0), (.ref x1)] 3 = mkF m 0 #[.val (.ref x0), .val (.ref x1), .unset] [] := by first | (simp [entryFrame, mkF, argsToLocals, Value.category]; done) | rfl
theorem rm1a (l : Launch) (Z : State) (a0 : Array Value) (hw : HW a0 Z) (ws : List Jvm.Cond) (o0 : Nat) (o1 : Nat) (rA : Nat) (sA : Nat) (xa : Int32) (xb : Int32) (xc : Int32) (h0 : Heap) (n0 : Nat) (Z0 : n0 ≤ h0.size) (ha0 : Exa Z h0 o0 "com/example/muster/muster/core/MpdaPlan") (ha1 : Fld Z h0 o0 "com/example/muster/muster/core/MpdaPlan" "routes" "[[I" .null) (ha2 : n0 ≤ o0) (ha3 : Exa Z h0 rA "[I") (ha4 : Exa Z h0 sA "[I") (ha5 : AV Z h0 o1 (.array .int) 2 (own_b2 rA sA)) (ha6 : AV Z h0 rA .int 2 (fun k => .int ((own_2 xa xb) k))) (ha7 : AV Z h0 sA .int 1 (fun k => .int ((fun _ => xc) k))) (hne_o0_o1 : o0 ≠ o1) (hne_o0_rA : o0 ≠ rA) (hne_o0_sA : o0 ≠ sA) (hne_o1_rA : o1 ≠ rA) (hne_o1_sA : o1 ≠ sA) (hne_rA_sA : rA ≠ sA) :
    MetFree l y1 (head1 (Jvm.Cond.code y1 prog_25_method_1_code 3 none :: ws) RM_1_3_6_16) (fun a U => a = #[(.ref o0), (.ref o1)] ∧ Z.Warmed39 U.vm ∧ U.heap = h0) (fun _ _ _ _ _ => True) (fun _ U o U' => ∃ v L, o = .returned v ∧ Q1a Z o0 o1 rA sA xa xb xc h0 n0 v U'.heap L ∧ FrameEnd U o U' L RM_1_3_6_16.cells RM_1_3_6_16.slots) := by
  refine MetFree.of_bodySF (plainFor_of_name pn_2) hisR ?_
  intro p e s m args below meth c s₁ Bd hml0 hP hK
  obtain ⟨rfl, hZ, hh⟩ := hP
  have hx := Bd.exec
  have hby := Bd.bytes
  have hml : c.maxLocals = 3 := hml0
  have hown : s.vm.findClass "com/example/muster/muster/core/MpdaPlan" = some m.cls := findClass_of_methodNamed Bd.named
  have hnm := (name_of_methodNamed Bd.named Bd.method).1
  have X0 : Stand p l e RM_1_3_6_16 s m _ below meth c s₁ [] 0 0 := Stand.of_body Bd
  have e0 : s₁.heap = h0 := by rw [← hh, Bd.state]; rfl
  have N0 := Fr.nil n0
  refine Go.into (P := fun oo uu => ∃ v L, oo = .returned v ∧ Q1a Z o0 o1 rA sA xa xb xc h0 n0 v uu.heap L ∧ FrameEnd s oo uu L RM_1_3_6_16.cells RM_1_3_6_16.slots) (ef_1_aa m o0 o1) ?_
  show Go p e below _ (s₁.setTop (mkF m 0 #[sR o0, sR o1, .unset] []))
  refine Vi (s₁.setTop (mkF m 1 #[sR o0, sR o1, .unset] [(.ref o0)])) (fun tZ kZ => ?_) ?_
  · refine XS.aloadN X0.here hx rfl (hb hby d1_0) rfl rfl ?_
    exact kZ
  obtain ⟨T1, X1, e1, st1⟩ := initO X0 hx hZ hown (wq hw 12 rfl) (wq hw 13 rfl) (wq hw 14 rfl) e0 (g := (mkF m 1 #[sR o0, sR o1, .unset] [(.ref o0)])) rfl (by rw [hml]; rfl) rfl (hb hby d1_1) (by decide) (W := 0) (by show 2 * 0 + _ ≤ _; exact Nat.le_of_eq rfl) (by decide)
  refine Go.via st1 ?_
  refine Vi (T1.setTop (mkF m 7 #[sR o0, sR o1, .unset] [(.int 2), (.ref o0)])) (fun tZ kZ => ?_) ?_
  · refine XS.aloadN X1.here hx rfl (hb hby d1_4) rfl rfl ?_
    refine XS.aloadN X1.here hx rfl (hb hby d1_5) rfl rfl ?_
    refine AV.len ha5 X1 hx hZ e1 (hb hby d1_6) ?_
    exact kZ
  obtain ⟨T2, h2, k2, X2, e2, E2, A2, B2, O2, st2⟩ := newRA X1 hx hZ hown (C := "[I") (ty := .int) rfl (wq hw 15 rfl) (wq hw 4 rfl) e1 (g := (mkF m 7 #[sR o0, sR o1, .unset] [(.int 2), (.ref o0)])) rfl (hb hby d1_7) rfl (by decide) (cap := 2) (by decide) (by decide) (by decide) (by decide) (ad := "[[I") rfl
  obtain ⟨b2, g2⟩ : ∃ z, z = h0.size := ⟨_, rfl⟩
  rw [← g2] at A2 B2 st2
  have g_b2 : n0 ≤ b2 := Nat.le_trans Z0 (Nat.le_of_eq g2.symm)
  have sz_b2 : h0.size ≤ b2 := Nat.le_trans ((Keep.refl h0 [o0])).1 (Nat.le_of_eq g2.symm)
  have ne_o0_b2 : o0 ≠ b2 := Nat.ne_of_lt (Nat.lt_of_lt_of_le ha0.lt (Nat.le_of_eq g2.symm))
  have ne_rA_b2 : rA ≠ b2 := Nat.ne_of_lt (Nat.lt_of_lt_of_le ha3.lt (Nat.le_of_eq g2.symm))
  have ne_sA_b2 : sA ≠ b2 := Nat.ne_of_lt (Nat.lt_of_lt_of_le ha4.lt (Nat.le_of_eq g2.symm))
  have ne_o1_b2 : o1 ≠ b2 := Nat.ne_of_lt (Nat.lt_of_lt_of_le ha5.lt (Nat.le_of_eq g2.symm))
  have lt_o1_b2 : (o1 : Nat) < b2 := Nat.lt_of_lt_of_le ha5.lt (Nat.le_of_eq g2.symm)
  have lt_o0_b2 : (o0 : Nat) < b2 := Nat.lt_of_lt_of_le ha0.lt (Nat.le_of_eq g2.symm)
  have lt_rA_b2 : (rA : Nat) < b2 := Nat.lt_of_lt_of_le ha3.lt (Nat.le_of_eq g2.symm)
  have lt_sA_b2 : (sA : Nat) < b2 := Nat.lt_of_lt_of_le ha4.lt (Nat.le_of_eq g2.symm)
  have c3_0 := ha0.ext E2
  have c3_1 := ha1.ext E2
  have c3_3 := ha3.ext E2
  have c3_4 := ha4.ext E2
  have c3_5 := ha5.ext E2
  have c3_6 := ha6.ext E2
  have c3_7 := ha7.ext E2
  have K2 : Keep h0 h2 [o0] := (Keep.refl h0 [o0]).ext E2
  have Z2 := Nat.le_trans Z0 E2.1
  have V2 : AV Z h2 b2 (.array .int) 2 (fun _ => Value.null) := by have q := AV.new A2; exact q
  have OV2 : OV Z h2 b2 .int "[I" := ⟨_, A2.1, O2⟩
  refine Go.via st2 ?_
  obtain ⟨T4, h4, X4, e4, W4, st4⟩ := putF X2 hx hZ hown (host := "") (Or.inl (wq hw 16 rfl)) Via.refl e2 c3_1 c3_0 (Or.inr ⟨(wq hw 17 rfl), rfl, hnm⟩) (wq hw 7 rfl) (ty := (.array (.array .int))) (by decide) rfl rfl (g := (mkF m 10 #[sR o0, sR o1, .unset] [(.ref b2), (.ref o0)])) rfl rfl (hb hby d1_10)
  have N4 := Fr.snoc X4 N0 ha2
  have c5_0 := c3_0.wr W4
  have c5_3 := c3_3.wr W4
  have c5_4 := c3_4.wr W4
  have c5_5 := c3_5.other W4 (Ne.symm hne_o0_o1)
  have c5_6 := c3_6.other W4 (Ne.symm hne_o0_rA)
  have c5_7 := c3_7.other W4 (Ne.symm hne_o0_sA)
  have c5_9 := V2.other W4 (Ne.symm ne_o0_b2)
  have c5_10 := B2.wr W4
  have c5_11 := OV2.wr W4
  have K4 : Keep h0 h4 [o0] := K2.wr W4 (Or.inl (by simp))
  have Z4 := Nat.le_trans Z2 (Keep.of_wr W4).1
  have Fw4 := c3_1.same W4
  refine Go.via st4 ?_
  refine Vi (T4.setTop (mkF m 22 #[sR o0, sR o1, sI 0] [(.ref o0)])) (fun tZ kZ => ?_) ?_
  · refine XS.iconst X4.here hx rfl (hb hby d1_13) ?_
    refine XS.istoreN X4.here hx rfl (hb hby d1_14) rfl (l' := #[sR o0, sR o1, sI 0]) rfl ?_
    refine XS.iloadN X4.here hx rfl (hb hby d1_15) rfl ?_
    refine XS.aloadN X4.here hx rfl (hb hby d1_16) rfl rfl ?_
    refine AV.len c5_5 X4 hx hZ e4 (hb hby d1_17) ?_
    refine XS.icmpNo X4.here hx rfl (hb hby d1_18) rfl (tlt (by decide)).2.1 ?_
    refine XS.aloadN X4.here hx rfl (hb hby d1_21) rfl rfl ?_
    exact kZ
  refine GF X4 hx hZ hown (wq hw 16 rfl) e4 Fw4 (hb hby d1_22) fun T6 X6 e6 => ?_
  refine Vi (T6.setTop (mkF m 29 #[sR o0, sR o1, sI 0] [(.ref rA), (.int 0), (.ref b2)])) (fun tZ kZ => ?_) ?_
  · refine XS.iloadN X6.here hx rfl (hb hby d1_25) rfl ?_
    refine XS.aloadN X6.here hx rfl (hb hby d1_26) rfl rfl ?_
    refine XS.iloadN X6.here hx rfl (hb hby d1_27) rfl ?_
    refine AV.aaload c5_5 rfl X6 hx hZ e6 (j := (0 : Int32)) (by decide) (hb hby d1_28) ?_
    rw [own_b20]
    exact kZ
  obtain ⟨T7, h7, X7, e7, E7, V7, B7, st7⟩ := AV.clone c5_6 (fun _ _ => rfl) X6 hx hZ hown (wq hw 18 rfl) (wq hw 19 rfl) (wq hw 23 rfl) (wq hw 21 rfl) (wq hw 22 rfl) (wq hw 24 rfl) e6 c5_3 (g := (mkF m 29 #[sR o0, sR o1, sI 0] [(.ref rA), (.int 0), (.ref b2)])) rfl (by rw [hml]; rfl) (rest := [(.int 0), (.ref b2)]) rfl (hb hby d1_29) (by decide) (W := 2) (cap := 2) (by show 2 * 0 + _ ≤ _; exact Nat.le_of_eq rfl) (by decide) (by decide) (by decide) (by decide)
  obtain ⟨b7, g7⟩ : ∃ z, z = h4.size := ⟨_, rfl⟩
  rw [← g7] at V7 B7 st7
  have g_b7 : n0 ≤ b7 := Nat.le_trans Z4 (Nat.le_of_eq g7.symm)
  have sz_b7 : h0.size ≤ b7 := Nat.le_trans (K4).1 (Nat.le_of_eq g7.symm)
  have ne_o0_b7 : o0 ≠ b7 := Nat.ne_of_lt (Nat.lt_of_lt_of_le c5_0.lt (Nat.le_of_eq g7.symm))
  have ne_rA_b7 : rA ≠ b7 := Nat.ne_of_lt (Nat.lt_of_lt_of_le c5_3.lt (Nat.le_of_eq g7.symm))
  have ne_sA_b7 : sA ≠ b7 := Nat.ne_of_lt (Nat.lt_of_lt_of_le c5_4.lt (Nat.le_of_eq g7.symm))
  have ne_o1_b7 : o1 ≠ b7 := Nat.ne_of_lt (Nat.lt_of_lt_of_le c5_5.lt (Nat.le_of_eq g7.symm))
  have ne_b2_b7 : b2 ≠ b7 := Nat.ne_of_lt (Nat.lt_of_lt_of_le c5_9.lt (Nat.le_of_eq g7.symm))
  have lt_o0_b7 : (o0 : Nat) < b7 := Nat.lt_of_lt_of_le c5_0.lt (Nat.le_of_eq g7.symm)
  have lt_sA_b7 : (sA : Nat) < b7 := Nat.lt_of_lt_of_le c5_4.lt (Nat.le_of_eq g7.symm)
  have lt_o1_b7 : (o1 : Nat) < b7 := Nat.lt_of_lt_of_le c5_5.lt (Nat.le_of_eq g7.symm)
  have lt_rA_b7 : (rA : Nat) < b7 := Nat.lt_of_lt_of_le c5_3.lt (Nat.le_of_eq g7.symm)
  have lt_b2_b7 : (b2 : Nat) < b7 := Nat.lt_of_lt_of_le c5_9.lt (Nat.le_of_eq g7.symm)
  have c8_0 := c5_0.ext E7
  have c8_1 := Fw4.ext E7
  have c8_3 := c5_3.ext E7
  have c8_4 := c5_4.ext E7
  have c8_5 := c5_5.ext E7
  have c8_6 := c5_6.ext E7
  have c8_7 := c5_7.ext E7
  have c8_9 := c5_9.ext E7
  have c8_10 := c5_10.ext E7
  have c8_11 := c5_11.ext E7
  have K7 : Keep h0 h7 [o0] := K4.ext E7
  have Z7 := Nat.le_trans Z4 E7.1
  refine Go.via st7 ?_
  obtain ⟨T9, X9, e9, st9⟩ := castY X7 hx hZ hown (wq hw 15 rfl) e7 (Ins.self B7) (g := (mkF m 32 #[sR o0, sR o1, sI 0] [(.ref b7), (.int 0), (.ref b2)])) rfl rfl (hb hby d1_32)
  refine Go.via st9 ?_
  obtain ⟨T10, h10, X10, e10, W10, V10, st10⟩ := AV.aastore c8_9 rfl (OV.sto c8_11 c8_9 (Ins.self B7)) X9 hx hZ e9 (j := (0 : Int32)) (by decide) (Ls := #[sR o0, sR o1, sI 0]) (rest := []) (hb hby d1_35) (v := (.ref b7))
  have N10 := Fr.snoc X10 N4 g_b2
  have c11_0 := c8_0.wr W10
  have c11_1 := c8_1.other W10 (Or.inl ne_o0_b2)
  have c11_3 := c8_3.wr W10
  have c11_4 := c8_4.wr W10
  have c11_5 := c8_5.other W10 ne_o1_b2
  have c11_6 := c8_6.other W10 ne_rA_b2
  have c11_7 := c8_7.other W10 ne_sA_b2
  have c11_10 := c8_10.wr W10
  have c11_11 := c8_11.wr W10
  have c11_13 := V7.other W10 (Ne.symm ne_b2_b7)
  have c11_14 := B7.wr W10
  have K10 : Keep h0 h10 [o0] := K7.wr W10 (Or.inr sz_b2)
  have Z10 := Nat.le_trans Z7 (Keep.of_wr W10).1
  refine Go.via st10 ?_
  refine Vi (T10.setTop (mkF m 22 #[sR o0, sR o1, sI 1] [(.ref o0)])) (fun tZ kZ => ?_) ?_
  · refine XS.iinc X10.here hx rfl (hb hby d1_36) rfl (l' := #[sR o0, sR o1, sI 1]) rfl ?_
    refine XS.goto X10.here hx rfl (pc0 := 39) (pc' := 15) rfl (hb hby d1_39) (by decide) (by decide) ?_
    refine XS.iloadN X10.here hx rfl (hb hby d1_15) rfl ?_
    refine XS.aloadN X10.here hx rfl (hb hby d1_16) rfl rfl ?_
    refine AV.len c11_5 X10 hx hZ e10 (hb hby d1_17) ?_
    refine XS.icmpNo X10.here hx rfl (hb hby d1_18) rfl (tlt (by decide)).2.1 ?_
    refine XS.aloadN X10.here hx rfl (hb hby d1_21) rfl rfl ?_
    exact kZ
  refine GF X10 hx hZ hown (wq hw 16 rfl) e10 c11_1 (hb hby d1_22) fun T12 X12 e12 => ?_
  refine Vi (T12.setTop (mkF m 29 #[sR o0, sR o1, sI 1] [(.ref sA), (.int 1), (.ref b2)])) (fun tZ kZ => ?_) ?_
  · refine XS.iloadN X12.here hx rfl (hb hby d1_25) rfl ?_
    refine XS.aloadN X12.here hx rfl (hb hby d1_26) rfl rfl ?_
    refine XS.iloadN X12.here hx rfl (hb hby d1_27) rfl ?_
    refine AV.aaload c11_5 rfl X12 hx hZ e12 (j := (1 : Int32)) (by decide) (hb hby d1_28) ?_
    rw [own_b21]
    exact kZ
  obtain ⟨T13, h13, X13, e13, E13, V13, B13, st13⟩ := AV.clone c11_7 (fun _ _ => rfl) X12 hx hZ hown (wq hw 18 rfl) (wq hw 19 rfl) (wq hw 23 rfl) (wq hw 21 rfl) (wq hw 22 rfl) (wq hw 24 rfl) e12 c11_4 (g := (mkF m 29 #[sR o0, sR o1, sI 1] [(.ref sA), (.int 1), (.ref b2)])) rfl (by rw [hml]; rfl) (rest := [(.int 1), (.ref b2)]) rfl (hb hby d1_29) (by decide) (W := 2) (cap := 1) (by show 2 * 0 + _ ≤ _; exact Nat.le_of_eq rfl) (by decide) (by decide) (by decide) (by decide)
  obtain ⟨b13, g13⟩ : ∃ z, z = h10.size := ⟨_, rfl⟩
  rw [← g13] at V13 B13 st13
  have g_b13 : n0 ≤ b13 := Nat.le_trans Z10 (Nat.le_of_eq g13.symm)
  have sz_b13 : h0.size ≤ b13 := Nat.le_trans (K10).1 (Nat.le_of_eq g13.symm)
  have ne_o0_b13 : o0 ≠ b13 := Nat.ne_of_lt (Nat.lt_of_lt_of_le c11_0.lt (Nat.le_of_eq g13.symm))
  have ne_rA_b13 : rA ≠ b13 := Nat.ne_of_lt (Nat.lt_of_lt_of_le c11_3.lt (Nat.le_of_eq g13.symm))
  have ne_sA_b13 : sA ≠ b13 := Nat.ne_of_lt (Nat.lt_of_lt_of_le c11_4.lt (Nat.le_of_eq g13.symm))
  have ne_o1_b13 : o1 ≠ b13 := Nat.ne_of_lt (Nat.lt_of_lt_of_le c11_5.lt (Nat.le_of_eq g13.symm))
  have ne_b2_b13 : b2 ≠ b13 := Nat.ne_of_lt (Nat.lt_of_lt_of_le V10.lt (Nat.le_of_eq g13.symm))
  have ne_b7_b13 : b7 ≠ b13 := Nat.ne_of_lt (Nat.lt_of_lt_of_le c11_13.lt (Nat.le_of_eq g13.symm))
  have lt_o0_b13 : (o0 : Nat) < b13 := Nat.lt_of_lt_of_le c11_0.lt (Nat.le_of_eq g13.symm)
  have lt_sA_b13 : (sA : Nat) < b13 := Nat.lt_of_lt_of_le c11_4.lt (Nat.le_of_eq g13.symm)
  have lt_o1_b13 : (o1 : Nat) < b13 := Nat.lt_of_lt_of_le c11_5.lt (Nat.le_of_eq g13.symm)
  have lt_b7_b13 : (b7 : Nat) < b13 := Nat.lt_of_lt_of_le c11_13.lt (Nat.le_of_eq g13.symm)
  have lt_rA_b13 : (rA : Nat) < b13 := Nat.lt_of_lt_of_le c11_3.lt (Nat.le_of_eq g13.symm)
  have lt_b2_b13 : (b2 : Nat) < b13 := Nat.lt_of_lt_of_le V10.lt (Nat.le_of_eq g13.symm)
  have c14_0 := c11_0.ext E13
  have c14_1 := c11_1.ext E13
  have c14_3 := c11_3.ext E13
  have c14_4 := c11_4.ext E13
  have c14_5 := c11_5.ext E13
  have c14_6 := c11_6.ext E13
  have c14_7 := c11_7.ext E13
  have c14_9 := V10.ext E13
  have c14_10 := c11_10.ext E13
  have c14_11 := c11_11.ext E13
  have c14_13 := c11_13.ext E13
  have c14_14 := c11_14.ext E13
  have K13 : Keep h0 h13 [o0] := K10.ext E13
  have Z13 := Nat.le_trans Z10 E13.1
  refine Go.via st13 ?_
  obtain ⟨T15, X15, e15, st15⟩ := castY X13 hx hZ hown (wq hw 15 rfl) e13 (Ins.self B13) (g := (mkF m 32 #[sR o0, sR o1, sI 1] [(.ref b13), (.int 1), (.ref b2)])) rfl rfl (hb hby d1_32)
  refine Go.via st15 ?_
  obtain ⟨T16, h16, X16, e16, W16, V16, st16⟩ := AV.aastore c14_9 rfl (OV.sto c14_11 c14_9 (Ins.self B13)) X15 hx hZ e15 (j := (1 : Int32)) (by decide) (Ls := #[sR o0, sR o1, sI 1]) (rest := []) (hb hby d1_35) (v := (.ref b13))
  have N16 := Fr.snoc X16 N10 g_b2
  have c17_0 := c14_0.wr W16
  have c17_1 := c14_1.other W16 (Or.inl ne_o0_b2)
  have c17_3 := c14_3.wr W16
  have c17_4 := c14_4.wr W16
  have c17_5 := c14_5.other W16 ne_o1_b2
  have c17_6 := c14_6.other W16 ne_rA_b2
  have c17_7 := c14_7.other W16 ne_sA_b2
  have c17_10 := c14_10.wr W16
  have c17_11 := c14_11.wr W16
  have c17_13 := c14_13.other W16 (Ne.symm ne_b2_b7)
  have c17_14 := c14_14.wr W16
  have c17_16 := V13.other W16 (Ne.symm ne_b2_b13)
  have c17_17 := B13.wr W16
  have K16 : Keep h0 h16 [o0] := K13.wr W16 (Or.inr sz_b2)
  have Z16 := Nat.le_trans Z13 (Keep.of_wr W16).1
  refine Go.via st16 ?_
  refine Vi (T16.setTop (mkF m 42 #[sR o0, sR o1, sI 2] [])) (fun tZ kZ => ?_) ?_
  · refine XS.iinc X16.here hx rfl (hb hby d1_36) rfl (l' := #[sR o0, sR o1, sI 2]) rfl ?_
    refine XS.goto X16.here hx rfl (pc0 := 39) (pc' := 15) rfl (hb hby d1_39) (by decide) (by decide) ?_
    refine XS.iloadN X16.here hx rfl (hb hby d1_15) rfl ?_
    refine XS.aloadN X16.here hx rfl (hb hby d1_16) rfl rfl ?_
    refine AV.len c17_5 X16 hx hZ e16 (hb hby d1_17) ?_
    refine XS.icmpYes X16.here hx rfl (pc0 := 18) (pc' := 42) rfl (hb hby d1_18) rfl (flt (by decide)).2.1 (by decide) (by decide) ?_
    exact kZ
  refine Go.retV X16 hx Bd.notSynchronized Bd.returns (hb hby d1_42) (by decide) (by decide) ?_
  rw [e16]
  exact ⟨rfl, N16, b2, b7, b13, sz_b2, sz_b7, sz_b13, ne_b2_b7, ne_b2_b13, ne_b7_b13, K16, c17_0, c17_1, c17_3, c17_4, c17_5, c17_6, c17_7, V16, c17_10, c17_11, c17_13, c17_14, c17_16, c17_17⟩
theorem d9_0 : DC B9 0 (.aload_n 0) 1 := by decide +kernel
theorem d9_1 : DC B9 1 (.getfield 9) 3 := by decide +kernel
theorem d9_4 : DC B9 4 (.iload_n 1) 1 := by decide +kernel
theorem d9_5 : DC B9 5 (.aaload) 1 := by decide +kernel
theorem d9_6 : DC B9 6 (.invokevirtual 15) 3 := by decide +kernel
theorem d9_9 : DC B9 9 (.checkcast 7) 3 := by decide +kernel
theorem d9_12 : DC B9 12 (.areturn) 1 := by decide +kernel
def Q90a (Z : State) (o0 : Nat) (qA : Nat) (cA : Nat) (eA : Nat) (xa : Int32) (xb : Int32) (xc : Int32) (h0 : Heap) (n0 : Nat) (v : Option Value) (h : Heap) (L : List Loc) : Prop := ∃ b2 : Nat, v = some (.ref b2) ∧ Fr n0 L ∧ h0.size ≤ b2 ∧ Keep h0 h [] ∧ Exa Z h o0 "com/example/muster/muster/core/MpdaPlan" ∧ Fld Z h o0 "com/example/muster/muster/core/MpdaPlan" "routes" "[[I" (.ref qA) ∧ AV Z h qA (.array .int) 2 (own_b2 cA eA) ∧ Exa Z h cA "[I" ∧ AV Z h cA .int 2 (fun k => .int ((own_2 xa xb) k)) ∧ Exa Z h eA "[I" ∧ AV Z h eA .int 1 (fun k => .int ((fun _ => xc) k)) ∧ AV Z h b2 .int 2 (fun k => .int ((own_2 xa xb) k)) ∧ Exa Z h b2 "[I"
abbrev RM_1_1_2_14 : Room := { frames := 1, cells := 1, slots := 2, locals := 14 }
theorem ef_9_aa (m : MethodId) (x0 : Nat) (x1 : Int32) : entryFrame m #[(.ref x0), (.int x1)] 2 = mkF m 0 #[.val (.ref x0), .val (.int x1)] [] := by first | (simp [entryFrame, mkF, argsToLocals, Value.category]; done) | rfl
theorem rm90a (l : Launch) (Z : State) (a0 : Array Value) (hw : HW a0 Z) (ws : List Jvm.Cond) (o0 : Nat) (qA : Nat) (cA : Nat) (eA : Nat) (xa : Int32) (xb : Int32) (xc : Int32) (h0 : Heap) (n0 : Nat) (Z0 : n0 ≤ h0.size) (ha0 : Exa Z h0 o0 "com/example/muster/muster/core/MpdaPlan") (ha1 : Fld Z h0 o0 "com/example/muster/muster/core/MpdaPlan" "routes" "[[I" (.ref qA)) (ha2 : AV Z h0 qA (.array .int) 2 (own_b2 cA eA)) (ha3 : Exa Z h0 cA "[I") (ha4 : AV Z h0 cA .int 2 (fun k => .int ((own_2 xa xb) k))) (ha5 : Exa Z h0 eA "[I") (ha6 : AV Z h0 eA .int 1 (fun k => .int ((fun _ => xc) k))) :
    MetFree l y9 (head1 (Jvm.Cond.code y9 prog_25_method_3_code 2 (some (.array .int)) :: ws) RM_1_1_2_14) (fun a U => a = #[(.ref o0), (.int 0)] ∧ Z.Warmed39 U.vm ∧ U.heap = h0) (fun _ _ _ _ _ => True) (fun _ U o U' => ∃ v L, o = .returned v ∧ Q90a Z o0 qA cA eA xa xb xc h0 n0 v U'.heap L ∧ FrameEnd U o U' L RM_1_1_2_14.cells RM_1_1_2_14.slots) := by
  refine MetFree.of_bodySF (plainFor_of_name pn_2) hisR ?_
  intro p e s m args below meth c s₁ Bd hml0 hP hK
  obtain ⟨rfl, hZ, hh⟩ := hP
  have hx := Bd.exec
  have hby := Bd.bytes
  have hml : c.maxLocals = 2 := hml0
  have hown : s.vm.findClass "com/example/muster/muster/core/MpdaPlan" = some m.cls := findClass_of_methodNamed Bd.named
  have X0 : Stand p l e RM_1_1_2_14 s m _ below meth c s₁ [] 0 0 := Stand.of_body Bd
  have e0 : s₁.heap = h0 := by rw [← hh, Bd.state]; rfl
  have N0 := Fr.nil n0
  refine Go.into (P := fun oo uu => ∃ v L, oo = .returned v ∧ Q90a Z o0 qA cA eA xa xb xc h0 n0 v uu.heap L ∧ FrameEnd s oo uu L RM_1_1_2_14.cells RM_1_1_2_14.slots) (ef_9_aa m o0 (0 : Int32)) ?_
  show Go p e below _ (s₁.setTop (mkF m 0 #[sR o0, sI 0] []))
  refine Vi (s₁.setTop (mkF m 1 #[sR o0, sI 0] [(.ref o0)])) (fun tZ kZ => ?_) ?_
  · refine XS.aloadN X0.here hx rfl (hb hby d9_0) rfl rfl ?_
    exact kZ
  refine GF X0 hx hZ hown (wq hw 16 rfl) e0 ha1 (hb hby d9_1) fun T1 X1 e1 => ?_
  refine Vi (T1.setTop (mkF m 6 #[sR o0, sI 0] [(.ref cA)])) (fun tZ kZ => ?_) ?_
  · refine XS.iloadN X1.here hx rfl (hb hby d9_4) rfl ?_
    refine AV.aaload ha2 rfl X1 hx hZ e1 (j := (0 : Int32)) (by decide) (hb hby d9_5) ?_
    rw [own_b20]
    exact kZ
  obtain ⟨T2, h2, X2, e2, E2, V2, B2, st2⟩ := AV.clone ha4 (fun _ _ => rfl) X1 hx hZ hown (wq hw 18 rfl) (wq hw 19 rfl) (wq hw 23 rfl) (wq hw 21 rfl) (wq hw 22 rfl) (wq hw 24 rfl) e1 ha3 (g := (mkF m 6 #[sR o0, sI 0] [(.ref cA)])) rfl (by rw [hml]; rfl) (rest := []) rfl (hb hby d9_6) (by decide) (W := 0) (cap := 2) (by show 2 * 0 + _ ≤ _; exact Nat.le_of_eq rfl) (by decide) (by decide) (by decide) (by decide)
  obtain ⟨b2, g2⟩ : ∃ z, z = h0.size := ⟨_, rfl⟩
  rw [← g2] at V2 B2 st2
  have g_b2 : n0 ≤ b2 := Nat.le_trans Z0 (Nat.le_of_eq g2.symm)
  have sz_b2 : h0.size ≤ b2 := Nat.le_trans ((Keep.refl h0 [])).1 (Nat.le_of_eq g2.symm)
  have ne_o0_b2 : o0 ≠ b2 := Nat.ne_of_lt (Nat.lt_of_lt_of_le ha0.lt (Nat.le_of_eq g2.symm))
  have ne_qA_b2 : qA ≠ b2 := Nat.ne_of_lt (Nat.lt_of_lt_of_le ha2.lt (Nat.le_of_eq g2.symm))
  have ne_cA_b2 : cA ≠ b2 := Nat.ne_of_lt (Nat.lt_of_lt_of_le ha3.lt (Nat.le_of_eq g2.symm))
  have ne_eA_b2 : eA ≠ b2 := Nat.ne_of_lt (Nat.lt_of_lt_of_le ha5.lt (Nat.le_of_eq g2.symm))
  have lt_o0_b2 : (o0 : Nat) < b2 := Nat.lt_of_lt_of_le ha0.lt (Nat.le_of_eq g2.symm)
  have lt_cA_b2 : (cA : Nat) < b2 := Nat.lt_of_lt_of_le ha3.lt (Nat.le_of_eq g2.symm)
  have lt_eA_b2 : (eA : Nat) < b2 := Nat.lt_of_lt_of_le ha5.lt (Nat.le_of_eq g2.symm)
  have lt_qA_b2 : (qA : Nat) < b2 := Nat.lt_of_lt_of_le ha2.lt (Nat.le_of_eq g2.symm)
  have c3_0 := ha0.ext E2
  have c3_1 := ha1.ext E2
  have c3_2 := ha2.ext E2
  have c3_3 := ha3.ext E2
  have c3_4 := ha4.ext E2
  have c3_5 := ha5.ext E2
  have c3_6 := ha6.ext E2
  have K2 : Keep h0 h2 [] := (Keep.refl h0 []).ext E2
  have Z2 := Nat.le_trans Z0 E2.1
  refine Go.via st2 ?_
  obtain ⟨T4, X4, e4, st4⟩ := castY X2 hx hZ hown (wq hw 15 rfl) e2 (Ins.self B2) (g := (mkF m 9 #[sR o0, sI 0] [(.ref b2)])) rfl rfl (hb hby d9_9)
  refine Go.via st4 ?_
  refine Go.retR X4 hx Bd.notSynchronized Bd.returns rfl rfl (hb hby d9_12) (by decide) (by decide) ?_
  rw [e4]
  exact ⟨b2, rfl, N0, sz_b2, K2, c3_0, c3_1, c3_2, c3_3, c3_4, c3_5, c3_6, V2, B2⟩
def Q91a (Z : State) (o0 : Nat) (qA : Nat) (cA : Nat) (eA : Nat) (xa : Int32) (xb : Int32) (xc : Int32) (h0 : Heap) (n0 : Nat) (v : Option Value) (h : Heap) (L : List Loc) : Prop := ∃ b2 : Nat, v = some (.ref b2) ∧ Fr n0 L ∧ h0.size ≤ b2 ∧ Keep h0 h [] ∧ Exa Z h o0 "com/example/muster/muster/core/MpdaPlan" ∧ Fld Z h o0 "com/example/muster/muster/core/MpdaPlan" "routes" "[[I" (.ref qA) ∧ AV Z h qA (.array .int) 2 (own_b2 cA eA) ∧ Exa Z h cA "[I" ∧ AV Z h cA .int 2 (fun k => .int ((own_2 xa xb) k)) ∧ Exa Z h eA "[I" ∧ AV Z h eA .int 1 (fun k => .int ((fun _ => xc) k)) ∧ AV Z h b2 .int 1 (fun k => .int ((fun _ => xc) k)) ∧ Exa Z h b2 "[I"
theorem rm91a (l : Launch) (Z : State) (a0 : Array Value) (hw : HW a0 Z) (ws : List Jvm.Cond) (o0 : Nat) (qA : Nat) (cA : Nat) (eA : Nat) (xa : Int32) (xb : Int32) (xc : Int32) (h0 : Heap) (n0 : Nat) (Z0 : n0 ≤ h0.size) (ha0 : Exa Z h0 o0 "com/example/muster/muster/core/MpdaPlan") (ha1 : Fld Z h0 o0 "com/example/muster/muster/core/MpdaPlan" "routes" "[[I" (.ref qA)) (ha2 : AV Z h0 qA (.array .int) 2 (own_b2 cA eA)) (ha3 : Exa Z h0 cA "[I") (ha4 : AV Z h0 cA .int 2 (fun k => .int ((own_2 xa xb) k))) (ha5 : Exa Z h0 eA "[I") (ha6 : AV Z h0 eA .int 1 (fun k => .int ((fun _ => xc) k))) :
    MetFree l y9 (head1 (Jvm.Cond.code y9 prog_25_method_3_code 2 (some (.array .int)) :: ws) RM_1_1_2_14) (fun a U => a = #[(.ref o0), (.int 1)] ∧ Z.Warmed39 U.vm ∧ U.heap = h0) (fun _ _ _ _ _ => True) (fun _ U o U' => ∃ v L, o = .returned v ∧ Q91a Z o0 qA cA eA xa xb xc h0 n0 v U'.heap L ∧ FrameEnd U o U' L RM_1_1_2_14.cells RM_1_1_2_14.slots) := by
  refine MetFree.of_bodySF (plainFor_of_name pn_2) hisR ?_
  intro p e s m args below meth c s₁ Bd hml0 hP hK
  obtain ⟨rfl, hZ, hh⟩ := hP
  have hx := Bd.exec
  have hby := Bd.bytes
  have hml : c.maxLocals = 2 := hml0
  have hown : s.vm.findClass "com/example/muster/muster/core/MpdaPlan" = some m.cls := findClass_of_methodNamed Bd.named
  have X0 : Stand p l e RM_1_1_2_14 s m _ below meth c s₁ [] 0 0 := Stand.of_body Bd
  have e0 : s₁.heap = h0 := by rw [← hh, Bd.state]; rfl
  have N0 := Fr.nil n0
  refine Go.into (P := fun oo uu => ∃ v L, oo = .returned v ∧ Q91a Z o0 qA cA eA xa xb xc h0 n0 v uu.heap L ∧ FrameEnd s oo uu L RM_1_1_2_14.cells RM_1_1_2_14.slots) (ef_9_aa m o0 (1 : Int32)) ?_
  show Go p e below _ (s₁.setTop (mkF m 0 #[sR o0, sI 1] []))
  refine Vi (s₁.setTop (mkF m 1 #[sR o0, sI 1] [(.ref o0)])) (fun tZ kZ => ?_) ?_
  · refine XS.aloadN X0.here hx rfl (hb hby d9_0) rfl rfl ?_
    exact kZ
  refine GF X0 hx hZ hown (wq hw 16 rfl) e0 ha1 (hb hby d9_1) fun T1 X1 e1 => ?_
  refine Vi (T1.setTop (mkF m 6 #[sR o0, sI 1] [(.ref eA)])) (fun tZ kZ => ?_) ?_
  · refine XS.iloadN X1.here hx rfl (hb hby d9_4) rfl ?_
    refine AV.aaload ha2 rfl X1 hx hZ e1 (j := (1 : Int32)) (by decide) (hb hby d9_5) ?_
    rw [own_b21]
    exact kZ
  obtain ⟨T2, h2, X2, e2, E2, V2, B2, st2⟩ := AV.clone ha6 (fun _ _ => rfl) X1 hx hZ hown (wq hw 18 rfl) (wq hw 19 rfl) (wq hw 23 rfl) (wq hw 21 rfl) (wq hw 22 rfl) (wq hw 24 rfl) e1 ha5 (g := (mkF m 6 #[sR o0, sI 1] [(.ref eA)])) rfl (by rw [hml]; rfl) (rest := []) rfl (hb hby d9_6) (by decide) (W := 0) (cap := 1) (by show 2 * 0 + _ ≤ _; exact Nat.le_of_eq rfl) (by decide) (by decide) (by decide) (by decide)
  obtain ⟨b2, g2⟩ : ∃ z, z = h0.size := ⟨_, rfl⟩
  rw [← g2] at V2 B2 st2
  have g_b2 : n0 ≤ b2 := Nat.le_trans Z0 (Nat.le_of_eq g2.symm)
  have sz_b2 : h0.size ≤ b2 := Nat.le_trans ((Keep.refl h0 [])).1 (Nat.le_of_eq g2.symm)
  have ne_o0_b2 : o0 ≠ b2 := Nat.ne_of_lt (Nat.lt_of_lt_of_le ha0.lt (Nat.le_of_eq g2.symm))
  have ne_qA_b2 : qA ≠ b2 := Nat.ne_of_lt (Nat.lt_of_lt_of_le ha2.lt (Nat.le_of_eq g2.symm))
  have ne_cA_b2 : cA ≠ b2 := Nat.ne_of_lt (Nat.lt_of_lt_of_le ha3.lt (Nat.le_of_eq g2.symm))
  have ne_eA_b2 : eA ≠ b2 := Nat.ne_of_lt (Nat.lt_of_lt_of_le ha5.lt (Nat.le_of_eq g2.symm))
  have lt_o0_b2 : (o0 : Nat) < b2 := Nat.lt_of_lt_of_le ha0.lt (Nat.le_of_eq g2.symm)
  have lt_cA_b2 : (cA : Nat) < b2 := Nat.lt_of_lt_of_le ha3.lt (Nat.le_of_eq g2.symm)
  have lt_eA_b2 : (eA : Nat) < b2 := Nat.lt_of_lt_of_le ha5.lt (Nat.le_of_eq g2.symm)
  have lt_qA_b2 : (qA : Nat) < b2 := Nat.lt_of_lt_of_le ha2.lt (Nat.le_of_eq g2.symm)
  have c3_0 := ha0.ext E2
  have c3_1 := ha1.ext E2
  have c3_2 := ha2.ext E2
  have c3_3 := ha3.ext E2
  have c3_4 := ha4.ext E2
  have c3_5 := ha5.ext E2
  have c3_6 := ha6.ext E2
  have K2 : Keep h0 h2 [] := (Keep.refl h0 []).ext E2
  have Z2 := Nat.le_trans Z0 E2.1
  refine Go.via st2 ?_
  obtain ⟨T4, X4, e4, st4⟩ := castY X2 hx hZ hown (wq hw 15 rfl) e2 (Ins.self B2) (g := (mkF m 9 #[sR o0, sI 1] [(.ref b2)])) rfl rfl (hb hby d9_9)
  refine Go.via st4 ?_
  refine Go.retR X4 hx Bd.notSynchronized Bd.returns rfl rfl (hb hby d9_12) (by decide) (by decide) ?_
  rw [e4]
  exact ⟨b2, rfl, N0, sz_b2, K2, c3_0, c3_1, c3_2, c3_3, c3_4, c3_5, c3_6, V2, B2⟩
def Q1b (Z : State) (o0 : Nat) (o1 : Nat) (rA : Nat) (sA : Nat) (xa : Int32) (xb : Int32) (h0 : Heap) (n0 : Nat) (v : Option Value) (h : Heap) (L : List Loc) : Prop := v = none ∧ Fr n0 L ∧ ∃ b2 : Nat, ∃ b7 : Nat, ∃ b13 : Nat, h0.size ≤ b2 ∧ h0.size ≤ b7 ∧ h0.size ≤ b13 ∧ b2 ≠ b7 ∧ b2 ≠ b13 ∧ b7 ≠ b13 ∧ Keep h0 h [o0] ∧ Exa Z h o0 "com/example/muster/muster/core/MpdaPlan" ∧ Fld Z h o0 "com/example/muster/muster/core/MpdaPlan" "routes" "[[I" (.ref b2) ∧ Exa Z h rA "[I" ∧ Exa Z h sA "[I" ∧ AV Z h o1 (.array .int) 2 (own_b2 rA sA) ∧ AV Z h rA .int 2 (fun k => .int ((own_2 xa xb) k)) ∧ AV Z h sA .int 0 (fun k => .int ((fun _ => (0 : Int32)) k)) ∧ AV Z h b2 (.array .int) 2 (up (up (fun _ => Value.null) (0 : Int32).toNatClampNeg (.ref b7)) (1 : Int32).toNatClampNeg (.ref b13)) ∧ Exa Z h b2 "[[I" ∧ OV Z h b2 .int "[I" ∧ AV Z h b7 .int 2 (fun k => .int ((own_2 xa xb) k)) ∧ Exa Z h b7 "[I" ∧ AV Z h b13 .int 0 (fun k => .int ((fun _ => (0 : Int32)) k)) ∧ Exa Z h b13 "[I"
theorem rm1b (l : Launch) (Z : State) (a0 : Array Value) (hw : HW a0 Z) (ws : List Jvm.Cond) (o0 : Nat) (o1 : Nat) (rA : Nat) (sA : Nat) (xa : Int32) (xb : Int32) (h0 : Heap) (n0 : Nat) (Z0 : n0 ≤ h0.size) (ha0 : Exa Z h0 o0 "com/example/muster/muster/core/MpdaPlan") (ha1 : Fld Z h0 o0 "com/example/muster/muster/core/MpdaPlan" "routes" "[[I" .null) (ha2 : n0 ≤ o0) (ha3 : Exa Z h0 rA "[I") (ha4 : Exa Z h0 sA "[I") (ha5 : AV Z h0 o1 (.array .int) 2 (own_b2 rA sA)) (ha6 : AV Z h0 rA .int 2 (fun k => .int ((own_2 xa xb) k))) (ha7 : AV Z h0 sA .int 0 (fun k => .int ((fun _ => (0 : Int32)) k))) (hne_o0_o1 : o0 ≠ o1) (hne_o0_rA : o0 ≠ rA) (hne_o0_sA : o0 ≠ sA) (hne_o1_rA : o1 ≠ rA) (hne_o1_sA : o1 ≠ sA) (hne_rA_sA : rA ≠ sA) :
    MetFree l y1 (head1 (Jvm.Cond.code y1 prog_25_method_1_code 3 none :: ws) RM_1_3_6_16) (fun a U => a = #[(.ref o0), (.ref o1)] ∧ Z.Warmed39 U.vm ∧ U.heap = h0) (fun _ _ _ _ _ => True) (fun _ U o U' => ∃ v L, o = .returned v ∧ Q1b Z o0 o1 rA sA xa xb h0 n0 v U'.heap L ∧ FrameEnd U o U' L RM_1_3_6_16.cells RM_1_3_6_16.slots) := by
  refine MetFree.of_bodySF (plainFor_of_name pn_2) hisR ?_
  intro p e s m args below meth c s₁ Bd hml0 hP hK
  obtain ⟨rfl, hZ, hh⟩ := hP
  have hx := Bd.exec
  have hby := Bd.bytes
  have hml : c.maxLocals = 3 := hml0
  have hown : s.vm.findClass "com/example/muster/muster/core/MpdaPlan" = some m.cls := findClass_of_methodNamed Bd.named
  have hnm := (name_of_methodNamed Bd.named Bd.method).1
  have X0 : Stand p l e RM_1_3_6_16 s m _ below meth c s₁ [] 0 0 := Stand.of_body Bd
  have e0 : s₁.heap = h0 := by rw [← hh, Bd.state]; rfl
  have N0 := Fr.nil n0
  refine Go.into (P := fun oo uu => ∃ v L, oo = .returned v ∧ Q1b Z o0 o1 rA sA xa xb h0 n0 v uu.heap L ∧ FrameEnd s oo uu L RM_1_3_6_16.cells RM_1_3_6_16.slots) (ef_1_aa m o0 o1) ?_
  show Go p e below _ (s₁.setTop (mkF m 0 #[sR o0, sR o1, .unset] []))
  refine Vi (s₁.setTop (mkF m 1 #[sR o0, sR o1, .unset] [(.ref o0)])) (fun tZ kZ => ?_) ?_
  · refine XS.aloadN X0.here hx rfl (hb hby d1_0) rfl rfl ?_
    exact kZ
  obtain ⟨T1, X1, e1, st1⟩ := initO X0 hx hZ hown (wq hw 12 rfl) (wq hw 13 rfl) (wq hw 14 rfl) e0 (g := (mkF m 1 #[sR o0, sR o1, .unset] [(.ref o0)])) rfl (by rw [hml]; rfl) rfl (hb hby d1_1) (by decide) (W := 0) (by show 2 * 0 + _ ≤ _; exact Nat.le_of_eq rfl) (by decide)
  refine Go.via st1 ?_
  refine Vi (T1.setTop (mkF m 7 #[sR o0, sR o1, .unset] [(.int 2), (.ref o0)])) (fun tZ kZ => ?_) ?_
  · refine XS.aloadN X1.here hx rfl (hb hby d1_4) rfl rfl ?_
    refine XS.aloadN X1.here hx rfl (hb hby d1_5) rfl rfl ?_
    refine AV.len ha5 X1 hx hZ e1 (hb hby d1_6) ?_
    exact kZ
  obtain ⟨T2, h2, k2, X2, e2, E2, A2, B2, O2, st2⟩ := newRA X1 hx hZ hown (C := "[I") (ty := .int) rfl (wq hw 15 rfl) (wq hw 4 rfl) e1 (g := (mkF m 7 #[sR o0, sR o1, .unset] [(.int 2), (.ref o0)])) rfl (hb hby d1_7) rfl (by decide) (cap := 2) (by decide) (by decide) (by decide) (by decide) (ad := "[[I") rfl
  obtain ⟨b2, g2⟩ : ∃ z, z = h0.size := ⟨_, rfl⟩
  rw [← g2] at A2 B2 st2
  have g_b2 : n0 ≤ b2 := Nat.le_trans Z0 (Nat.le_of_eq g2.symm)
  have sz_b2 : h0.size ≤ b2 := Nat.le_trans ((Keep.refl h0 [o0])).1 (Nat.le_of_eq g2.symm)
  have ne_o0_b2 : o0 ≠ b2 := Nat.ne_of_lt (Nat.lt_of_lt_of_le ha0.lt (Nat.le_of_eq g2.symm))
  have ne_rA_b2 : rA ≠ b2 := Nat.ne_of_lt (Nat.lt_of_lt_of_le ha3.lt (Nat.le_of_eq g2.symm))
  have ne_sA_b2 : sA ≠ b2 := Nat.ne_of_lt (Nat.lt_of_lt_of_le ha4.lt (Nat.le_of_eq g2.symm))
  have ne_o1_b2 : o1 ≠ b2 := Nat.ne_of_lt (Nat.lt_of_lt_of_le ha5.lt (Nat.le_of_eq g2.symm))
  have lt_o1_b2 : (o1 : Nat) < b2 := Nat.lt_of_lt_of_le ha5.lt (Nat.le_of_eq g2.symm)
  have lt_o0_b2 : (o0 : Nat) < b2 := Nat.lt_of_lt_of_le ha0.lt (Nat.le_of_eq g2.symm)
  have lt_rA_b2 : (rA : Nat) < b2 := Nat.lt_of_lt_of_le ha3.lt (Nat.le_of_eq g2.symm)
  have lt_sA_b2 : (sA : Nat) < b2 := Nat.lt_of_lt_of_le ha4.lt (Nat.le_of_eq g2.symm)
  have c3_0 := ha0.ext E2
  have c3_1 := ha1.ext E2
  have c3_3 := ha3.ext E2
  have c3_4 := ha4.ext E2
  have c3_5 := ha5.ext E2
  have c3_6 := ha6.ext E2
  have c3_7 := ha7.ext E2
  have K2 : Keep h0 h2 [o0] := (Keep.refl h0 [o0]).ext E2
  have Z2 := Nat.le_trans Z0 E2.1
  have V2 : AV Z h2 b2 (.array .int) 2 (fun _ => Value.null) := by have q := AV.new A2; exact q
  have OV2 : OV Z h2 b2 .int "[I" := ⟨_, A2.1, O2⟩
  refine Go.via st2 ?_
  obtain ⟨T4, h4, X4, e4, W4, st4⟩ := putF X2 hx hZ hown (host := "") (Or.inl (wq hw 16 rfl)) Via.refl e2 c3_1 c3_0 (Or.inr ⟨(wq hw 17 rfl), rfl, hnm⟩) (wq hw 7 rfl) (ty := (.array (.array .int))) (by decide) rfl rfl (g := (mkF m 10 #[sR o0, sR o1, .unset] [(.ref b2), (.ref o0)])) rfl rfl (hb hby d1_10)
  have N4 := Fr.snoc X4 N0 ha2
  have c5_0 := c3_0.wr W4
  have c5_3 := c3_3.wr W4
  have c5_4 := c3_4.wr W4
  have c5_5 := c3_5.other W4 (Ne.symm hne_o0_o1)
  have c5_6 := c3_6.other W4 (Ne.symm hne_o0_rA)
  have c5_7 := c3_7.other W4 (Ne.symm hne_o0_sA)
  have c5_9 := V2.other W4 (Ne.symm ne_o0_b2)
  have c5_10 := B2.wr W4
  have c5_11 := OV2.wr W4
  have K4 : Keep h0 h4 [o0] := K2.wr W4 (Or.inl (by simp))
  have Z4 := Nat.le_trans Z2 (Keep.of_wr W4).1
  have Fw4 := c3_1.same W4
  refine Go.via st4 ?_
  refine Vi (T4.setTop (mkF m 22 #[sR o0, sR o1, sI 0] [(.ref o0)])) (fun tZ kZ => ?_) ?_
  · refine XS.iconst X4.here hx rfl (hb hby d1_13) ?_
    refine XS.istoreN X4.here hx rfl (hb hby d1_14) rfl (l' := #[sR o0, sR o1, sI 0]) rfl ?_
    refine XS.iloadN X4.here hx rfl (hb hby d1_15) rfl ?_
    refine XS.aloadN X4.here hx rfl (hb hby d1_16) rfl rfl ?_
    refine AV.len c5_5 X4 hx hZ e4 (hb hby d1_17) ?_
    refine XS.icmpNo X4.here hx rfl (hb hby d1_18) rfl (tlt (by decide)).2.1 ?_
    refine XS.aloadN X4.here hx rfl (hb hby d1_21) rfl rfl ?_
    exact kZ
  refine GF X4 hx hZ hown (wq hw 16 rfl) e4 Fw4 (hb hby d1_22) fun T6 X6 e6 => ?_
  refine Vi (T6.setTop (mkF m 29 #[sR o0, sR o1, sI 0] [(.ref rA), (.int 0), (.ref b2)])) (fun tZ kZ => ?_) ?_
  · refine XS.iloadN X6.here hx rfl (hb hby d1_25) rfl ?_
    refine XS.aloadN X6.here hx rfl (hb hby d1_26) rfl rfl ?_
    refine XS.iloadN X6.here hx rfl (hb hby d1_27) rfl ?_
    refine AV.aaload c5_5 rfl X6 hx hZ e6 (j := (0 : Int32)) (by decide) (hb hby d1_28) ?_
    rw [own_b20]
    exact kZ
  obtain ⟨T7, h7, X7, e7, E7, V7, B7, st7⟩ := AV.clone c5_6 (fun _ _ => rfl) X6 hx hZ hown (wq hw 18 rfl) (wq hw 19 rfl) (wq hw 23 rfl) (wq hw 21 rfl) (wq hw 22 rfl) (wq hw 24 rfl) e6 c5_3 (g := (mkF m 29 #[sR o0, sR o1, sI 0] [(.ref rA), (.int 0), (.ref b2)])) rfl (by rw [hml]; rfl) (rest := [(.int 0), (.ref b2)]) rfl (hb hby d1_29) (by decide) (W := 2) (cap := 2) (by show 2 * 0 + _ ≤ _; exact Nat.le_of_eq rfl) (by decide) (by decide) (by decide) (by decide)
  obtain ⟨b7, g7⟩ : ∃ z, z = h4.size := ⟨_, rfl⟩
  rw [← g7] at V7 B7 st7
  have g_b7 : n0 ≤ b7 := Nat.le_trans Z4 (Nat.le_of_eq g7.symm)
  have sz_b7 : h0.size ≤ b7 := Nat.le_trans (K4).1 (Nat.le_of_eq g7.symm)
  have ne_o0_b7 : o0 ≠ b7 := Nat.ne_of_lt (Nat.lt_of_lt_of_le c5_0.lt (Nat.le_of_eq g7.symm))
  have ne_rA_b7 : rA ≠ b7 := Nat.ne_of_lt (Nat.lt_of_lt_of_le c5_3.lt (Nat.le_of_eq g7.symm))
  have ne_sA_b7 : sA ≠ b7 := Nat.ne_of_lt (Nat.lt_of_lt_of_le c5_4.lt (Nat.le_of_eq g7.symm))
  have ne_o1_b7 : o1 ≠ b7 := Nat.ne_of_lt (Nat.lt_of_lt_of_le c5_5.lt (Nat.le_of_eq g7.symm))
  have ne_b2_b7 : b2 ≠ b7 := Nat.ne_of_lt (Nat.lt_of_lt_of_le c5_9.lt (Nat.le_of_eq g7.symm))
  have lt_o0_b7 : (o0 : Nat) < b7 := Nat.lt_of_lt_of_le c5_0.lt (Nat.le_of_eq g7.symm)
  have lt_sA_b7 : (sA : Nat) < b7 := Nat.lt_of_lt_of_le c5_4.lt (Nat.le_of_eq g7.symm)
  have lt_o1_b7 : (o1 : Nat) < b7 := Nat.lt_of_lt_of_le c5_5.lt (Nat.le_of_eq g7.symm)
  have lt_rA_b7 : (rA : Nat) < b7 := Nat.lt_of_lt_of_le c5_3.lt (Nat.le_of_eq g7.symm)
  have lt_b2_b7 : (b2 : Nat) < b7 := Nat.lt_of_lt_of_le c5_9.lt (Nat.le_of_eq g7.symm)
  have c8_0 := c5_0.ext E7
  have c8_1 := Fw4.ext E7
  have c8_3 := c5_3.ext E7
  have c8_4 := c5_4.ext E7
  have c8_5 := c5_5.ext E7
  have c8_6 := c5_6.ext E7
  have c8_7 := c5_7.ext E7
  have c8_9 := c5_9.ext E7
  have c8_10 := c5_10.ext E7
  have c8_11 := c5_11.ext E7
  have K7 : Keep h0 h7 [o0] := K4.ext E7
  have Z7 := Nat.le_trans Z4 E7.1
  refine Go.via st7 ?_
  obtain ⟨T9, X9, e9, st9⟩ := castY X7 hx hZ hown (wq hw 15 rfl) e7 (Ins.self B7) (g := (mkF m 32 #[sR o0, sR o1, sI 0] [(.ref b7), (.int 0), (.ref b2)])) rfl rfl (hb hby d1_32)
  refine Go.via st9 ?_
  obtain ⟨T10, h10, X10, e10, W10, V10, st10⟩ := AV.aastore c8_9 rfl (OV.sto c8_11 c8_9 (Ins.self B7)) X9 hx hZ e9 (j := (0 : Int32)) (by decide) (Ls := #[sR o0, sR o1, sI 0]) (rest := []) (hb hby d1_35) (v := (.ref b7))
  have N10 := Fr.snoc X10 N4 g_b2
  have c11_0 := c8_0.wr W10
  have c11_1 := c8_1.other W10 (Or.inl ne_o0_b2)
  have c11_3 := c8_3.wr W10
  have c11_4 := c8_4.wr W10
  have c11_5 := c8_5.other W10 ne_o1_b2
  have c11_6 := c8_6.other W10 ne_rA_b2
  have c11_7 := c8_7.other W10 ne_sA_b2
  have c11_10 := c8_10.wr W10
  have c11_11 := c8_11.wr W10
  have c11_13 := V7.other W10 (Ne.symm ne_b2_b7)
  have c11_14 := B7.wr W10
  have K10 : Keep h0 h10 [o0] := K7.wr W10 (Or.inr sz_b2)
  have Z10 := Nat.le_trans Z7 (Keep.of_wr W10).1
  refine Go.via st10 ?_
  refine Vi (T10.setTop (mkF m 22 #[sR o0, sR o1, sI 1] [(.ref o0)])) (fun tZ kZ => ?_) ?_
  · refine XS.iinc X10.here hx rfl (hb hby d1_36) rfl (l' := #[sR o0, sR o1, sI 1]) rfl ?_
    refine XS.goto X10.here hx rfl (pc0 := 39) (pc' := 15) rfl (hb hby d1_39) (by decide) (by decide) ?_
    refine XS.iloadN X10.here hx rfl (hb hby d1_15) rfl ?_
    refine XS.aloadN X10.here hx rfl (hb hby d1_16) rfl rfl ?_
    refine AV.len c11_5 X10 hx hZ e10 (hb hby d1_17) ?_
    refine XS.icmpNo X10.here hx rfl (hb hby d1_18) rfl (tlt (by decide)).2.1 ?_
    refine XS.aloadN X10.here hx rfl (hb hby d1_21) rfl rfl ?_
    exact kZ
  refine GF X10 hx hZ hown (wq hw 16 rfl) e10 c11_1 (hb hby d1_22) fun T12 X12 e12 => ?_
  refine Vi (T12.setTop (mkF m 29 #[sR o0, sR o1, sI 1] [(.ref sA), (.int 1), (.ref b2)])) (fun tZ kZ => ?_) ?_
  · refine XS.iloadN X12.here hx rfl (hb hby d1_25) rfl ?_
    refine XS.aloadN X12.here hx rfl (hb hby d1_26) rfl rfl ?_
    refine XS.iloadN X12.here hx rfl (hb hby d1_27) rfl ?_
    refine AV.aaload c11_5 rfl X12 hx hZ e12 (j := (1 : Int32)) (by decide) (hb hby d1_28) ?_
    rw [own_b21]
    exact kZ
  obtain ⟨T13, h13, X13, e13, E13, V13, B13, st13⟩ := AV.clone c11_7 (fun _ _ => rfl) X12 hx hZ hown (wq hw 18 rfl) (wq hw 19 rfl) (wq hw 23 rfl) (wq hw 21 rfl) (wq hw 22 rfl) (wq hw 24 rfl) e12 c11_4 (g := (mkF m 29 #[sR o0, sR o1, sI 1] [(.ref sA), (.int 1), (.ref b2)])) rfl (by rw [hml]; rfl) (rest := [(.int 1), (.ref b2)]) rfl (hb hby d1_29) (by decide) (W := 2) (cap := 0) (by show 2 * 0 + _ ≤ _; exact Nat.le_of_eq rfl) (by decide) (by decide) (by decide) (by decide)
  obtain ⟨b13, g13⟩ : ∃ z, z = h10.size := ⟨_, rfl⟩
  rw [← g13] at V13 B13 st13
  have g_b13 : n0 ≤ b13 := Nat.le_trans Z10 (Nat.le_of_eq g13.symm)
  have sz_b13 : h0.size ≤ b13 := Nat.le_trans (K10).1 (Nat.le_of_eq g13.symm)
  have ne_o0_b13 : o0 ≠ b13 := Nat.ne_of_lt (Nat.lt_of_lt_of_le c11_0.lt (Nat.le_of_eq g13.symm))
  have ne_rA_b13 : rA ≠ b13 := Nat.ne_of_lt (Nat.lt_of_lt_of_le c11_3.lt (Nat.le_of_eq g13.symm))
  have ne_sA_b13 : sA ≠ b13 := Nat.ne_of_lt (Nat.lt_of_lt_of_le c11_4.lt (Nat.le_of_eq g13.symm))
  have ne_o1_b13 : o1 ≠ b13 := Nat.ne_of_lt (Nat.lt_of_lt_of_le c11_5.lt (Nat.le_of_eq g13.symm))
  have ne_b2_b13 : b2 ≠ b13 := Nat.ne_of_lt (Nat.lt_of_lt_of_le V10.lt (Nat.le_of_eq g13.symm))
  have ne_b7_b13 : b7 ≠ b13 := Nat.ne_of_lt (Nat.lt_of_lt_of_le c11_13.lt (Nat.le_of_eq g13.symm))
  have lt_o0_b13 : (o0 : Nat) < b13 := Nat.lt_of_lt_of_le c11_0.lt (Nat.le_of_eq g13.symm)
  have lt_sA_b13 : (sA : Nat) < b13 := Nat.lt_of_lt_of_le c11_4.lt (Nat.le_of_eq g13.symm)
  have lt_o1_b13 : (o1 : Nat) < b13 := Nat.lt_of_lt_of_le c11_5.lt (Nat.le_of_eq g13.symm)
  have lt_b7_b13 : (b7 : Nat) < b13 := Nat.lt_of_lt_of_le c11_13.lt (Nat.le_of_eq g13.symm)
  have lt_rA_b13 : (rA : Nat) < b13 := Nat.lt_of_lt_of_le c11_3.lt (Nat.le_of_eq g13.symm)
  have lt_b2_b13 : (b2 : Nat) < b13 := Nat.lt_of_lt_of_le V10.lt (Nat.le_of_eq g13.symm)
  have c14_0 := c11_0.ext E13
  have c14_1 := c11_1.ext E13
  have c14_3 := c11_3.ext E13
  have c14_4 := c11_4.ext E13
  have c14_5 := c11_5.ext E13
  have c14_6 := c11_6.ext E13
  have c14_7 := c11_7.ext E13
  have c14_9 := V10.ext E13
  have c14_10 := c11_10.ext E13
  have c14_11 := c11_11.ext E13
  have c14_13 := c11_13.ext E13
  have c14_14 := c11_14.ext E13
  have K13 : Keep h0 h13 [o0] := K10.ext E13
  have Z13 := Nat.le_trans Z10 E13.1
  refine Go.via st13 ?_
  obtain ⟨T15, X15, e15, st15⟩ := castY X13 hx hZ hown (wq hw 15 rfl) e13 (Ins.self B13) (g := (mkF m 32 #[sR o0, sR o1, sI 1] [(.ref b13), (.int 1), (.ref b2)])) rfl rfl (hb hby d1_32)
  refine Go.via st15 ?_
  obtain ⟨T16, h16, X16, e16, W16, V16, st16⟩ := AV.aastore c14_9 rfl (OV.sto c14_11 c14_9 (Ins.self B13)) X15 hx hZ e15 (j := (1 : Int32)) (by decide) (Ls := #[sR o0, sR o1, sI 1]) (rest := []) (hb hby d1_35) (v := (.ref b13))
  have N16 := Fr.snoc X16 N10 g_b2
  have c17_0 := c14_0.wr W16
  have c17_1 := c14_1.other W16 (Or.inl ne_o0_b2)
  have c17_3 := c14_3.wr W16
  have c17_4 := c14_4.wr W16
  have c17_5 := c14_5.other W16 ne_o1_b2
  have c17_6 := c14_6.other W16 ne_rA_b2
  have c17_7 := c14_7.other W16 ne_sA_b2
  have c17_10 := c14_10.wr W16
  have c17_11 := c14_11.wr W16
  have c17_13 := c14_13.other W16 (Ne.symm ne_b2_b7)
  have c17_14 := c14_14.wr W16
  have c17_16 := V13.other W16 (Ne.symm ne_b2_b13)
  have c17_17 := B13.wr W16
  have K16 : Keep h0 h16 [o0] := K13.wr W16 (Or.inr sz_b2)
  have Z16 := Nat.le_trans Z13 (Keep.of_wr W16).1
  refine Go.via st16 ?_
  refine Vi (T16.setTop (mkF m 42 #[sR o0, sR o1, sI 2] [])) (fun tZ kZ => ?_) ?_
  · refine XS.iinc X16.here hx rfl (hb hby d1_36) rfl (l' := #[sR o0, sR o1, sI 2]) rfl ?_
    refine XS.goto X16.here hx rfl (pc0 := 39) (pc' := 15) rfl (hb hby d1_39) (by decide) (by decide) ?_
    refine XS.iloadN X16.here hx rfl (hb hby d1_15) rfl ?_
    refine XS.aloadN X16.here hx rfl (hb hby d1_16) rfl rfl ?_
    refine AV.len c17_5 X16 hx hZ e16 (hb hby d1_17) ?_
    refine XS.icmpYes X16.here hx rfl (pc0 := 18) (pc' := 42) rfl (hb hby d1_18) rfl (flt (by decide)).2.1 (by decide) (by decide) ?_
    exact kZ
  refine Go.retV X16 hx Bd.notSynchronized Bd.returns (hb hby d1_42) (by decide) (by decide) ?_
  rw [e16]
  exact ⟨rfl, N16, b2, b7, b13, sz_b2, sz_b7, sz_b13, ne_b2_b7, ne_b2_b13, ne_b7_b13, K16, c17_0, c17_1, c17_3, c17_4, c17_5, c17_6, c17_7, V16, c17_10, c17_11, c17_13, c17_14, c17_16, c17_17⟩
def Q90b (Z : State) (o0 : Nat) (qA : Nat) (cA : Nat) (eA : Nat) (xa : Int32) (xb : Int32) (h0 : Heap) (n0 : Nat) (v : Option Value) (h : Heap) (L : List Loc) : Prop := ∃ b2 : Nat, v = some (.ref b2) ∧ Fr n0 L ∧ h0.size ≤ b2 ∧ Keep h0 h [] ∧ Exa Z h o0 "com/example/muster/muster/core/MpdaPlan" ∧ Fld Z h o0 "com/example/muster/muster/core/MpdaPlan" "routes" "[[I" (.ref qA) ∧ AV Z h qA (.array .int) 2 (own_b2 cA eA) ∧ Exa Z h cA "[I" ∧ AV Z h cA .int 2 (fun k => .int ((own_2 xa xb) k)) ∧ Exa Z h eA "[I" ∧ AV Z h eA .int 0 (fun k => .int ((fun _ => (0 : Int32)) k)) ∧ AV Z h b2 .int 2 (fun k => .int ((own_2 xa xb) k)) ∧ Exa Z h b2 "[I"
theorem rm90b (l : Launch) (Z : State) (a0 : Array Value) (hw : HW a0 Z) (ws : List Jvm.Cond) (o0 : Nat) (qA : Nat) (cA : Nat) (eA : Nat) (xa : Int32) (xb : Int32) (h0 : Heap) (n0 : Nat) (Z0 : n0 ≤ h0.size) (ha0 : Exa Z h0 o0 "com/example/muster/muster/core/MpdaPlan") (ha1 : Fld Z h0 o0 "com/example/muster/muster/core/MpdaPlan" "routes" "[[I" (.ref qA)) (ha2 : AV Z h0 qA (.array .int) 2 (own_b2 cA eA)) (ha3 : Exa Z h0 cA "[I") (ha4 : AV Z h0 cA .int 2 (fun k => .int ((own_2 xa xb) k))) (ha5 : Exa Z h0 eA "[I") (ha6 : AV Z h0 eA .int 0 (fun k => .int ((fun _ => (0 : Int32)) k))) :
    MetFree l y9 (head1 (Jvm.Cond.code y9 prog_25_method_3_code 2 (some (.array .int)) :: ws) RM_1_1_2_14) (fun a U => a = #[(.ref o0), (.int 0)] ∧ Z.Warmed39 U.vm ∧ U.heap = h0) (fun _ _ _ _ _ => True) (fun _ U o U' => ∃ v L, o = .returned v ∧ Q90b Z o0 qA cA eA xa xb h0 n0 v U'.heap L ∧ FrameEnd U o U' L RM_1_1_2_14.cells RM_1_1_2_14.slots) := by
  refine MetFree.of_bodySF (plainFor_of_name pn_2) hisR ?_
  intro p e s m args below meth c s₁ Bd hml0 hP hK
  obtain ⟨rfl, hZ, hh⟩ := hP
  have hx := Bd.exec
  have hby := Bd.bytes
  have hml : c.maxLocals = 2 := hml0
  have hown : s.vm.findClass "com/example/muster/muster/core/MpdaPlan" = some m.cls := findClass_of_methodNamed Bd.named
  have X0 : Stand p l e RM_1_1_2_14 s m _ below meth c s₁ [] 0 0 := Stand.of_body Bd
  have e0 : s₁.heap = h0 := by rw [← hh, Bd.state]; rfl
  have N0 := Fr.nil n0
  refine Go.into (P := fun oo uu => ∃ v L, oo = .returned v ∧ Q90b Z o0 qA cA eA xa xb h0 n0 v uu.heap L ∧ FrameEnd s oo uu L RM_1_1_2_14.cells RM_1_1_2_14.slots) (ef_9_aa m o0 (0 : Int32)) ?_
  show Go p e below _ (s₁.setTop (mkF m 0 #[sR o0, sI 0] []))
  refine Vi (s₁.setTop (mkF m 1 #[sR o0, sI 0] [(.ref o0)])) (fun tZ kZ => ?_) ?_
  · refine XS.aloadN X0.here hx rfl (hb hby d9_0) rfl rfl ?_
    exact kZ
  refine GF X0 hx hZ hown (wq hw 16 rfl) e0 ha1 (hb hby d9_1) fun T1 X1 e1 => ?_
  refine Vi (T1.setTop (mkF m 6 #[sR o0, sI 0] [(.ref cA)])) (fun tZ kZ => ?_) ?_
  · refine XS.iloadN X1.here hx rfl (hb hby d9_4) rfl ?_
    refine AV.aaload ha2 rfl X1 hx hZ e1 (j := (0 : Int32)) (by decide) (hb hby d9_5) ?_
    rw [own_b20]
    exact kZ
  obtain ⟨T2, h2, X2, e2, E2, V2, B2, st2⟩ := AV.clone ha4 (fun _ _ => rfl) X1 hx hZ hown (wq hw 18 rfl) (wq hw 19 rfl) (wq hw 23 rfl) (wq hw 21 rfl) (wq hw 22 rfl) (wq hw 24 rfl) e1 ha3 (g := (mkF m 6 #[sR o0, sI 0] [(.ref cA)])) rfl (by rw [hml]; rfl) (rest := []) rfl (hb hby d9_6) (by decide) (W := 0) (cap := 2) (by show 2 * 0 + _ ≤ _; exact Nat.le_of_eq rfl) (by decide) (by decide) (by decide) (by decide)
  obtain ⟨b2, g2⟩ : ∃ z, z = h0.size := ⟨_, rfl⟩
  rw [← g2] at V2 B2 st2
  have g_b2 : n0 ≤ b2 := Nat.le_trans Z0 (Nat.le_of_eq g2.symm)
  have sz_b2 : h0.size ≤ b2 := Nat.le_trans ((Keep.refl h0 [])).1 (Nat.le_of_eq g2.symm)
  have ne_o0_b2 : o0 ≠ b2 := Nat.ne_of_lt (Nat.lt_of_lt_of_le ha0.lt (Nat.le_of_eq g2.symm))
  have ne_qA_b2 : qA ≠ b2 := Nat.ne_of_lt (Nat.lt_of_lt_of_le ha2.lt (Nat.le_of_eq g2.symm))
  have ne_cA_b2 : cA ≠ b2 := Nat.ne_of_lt (Nat.lt_of_lt_of_le ha3.lt (Nat.le_of_eq g2.symm))
  have ne_eA_b2 : eA ≠ b2 := Nat.ne_of_lt (Nat.lt_of_lt_of_le ha5.lt (Nat.le_of_eq g2.symm))
  have lt_o0_b2 : (o0 : Nat) < b2 := Nat.lt_of_lt_of_le ha0.lt (Nat.le_of_eq g2.symm)
  have lt_cA_b2 : (cA : Nat) < b2 := Nat.lt_of_lt_of_le ha3.lt (Nat.le_of_eq g2.symm)
  have lt_eA_b2 : (eA : Nat) < b2 := Nat.lt_of_lt_of_le ha5.lt (Nat.le_of_eq g2.symm)
  have lt_qA_b2 : (qA : Nat) < b2 := Nat.lt_of_lt_of_le ha2.lt (Nat.le_of_eq g2.symm)
  have c3_0 := ha0.ext E2
  have c3_1 := ha1.ext E2
  have c3_2 := ha2.ext E2
  have c3_3 := ha3.ext E2
  have c3_4 := ha4.ext E2
  have c3_5 := ha5.ext E2
  have c3_6 := ha6.ext E2
  have K2 : Keep h0 h2 [] := (Keep.refl h0 []).ext E2
  have Z2 := Nat.le_trans Z0 E2.1
  refine Go.via st2 ?_
  obtain ⟨T4, X4, e4, st4⟩ := castY X2 hx hZ hown (wq hw 15 rfl) e2 (Ins.self B2) (g := (mkF m 9 #[sR o0, sI 0] [(.ref b2)])) rfl rfl (hb hby d9_9)
  refine Go.via st4 ?_
  refine Go.retR X4 hx Bd.notSynchronized Bd.returns rfl rfl (hb hby d9_12) (by decide) (by decide) ?_
  rw [e4]
  exact ⟨b2, rfl, N0, sz_b2, K2, c3_0, c3_1, c3_2, c3_3, c3_4, c3_5, c3_6, V2, B2⟩
def Q91b (Z : State) (o0 : Nat) (qA : Nat) (cA : Nat) (eA : Nat) (xa : Int32) (xb : Int32) (h0 : Heap) (n0 : Nat) (v : Option Value) (h : Heap) (L : List Loc) : Prop := ∃ b2 : Nat, v = some (.ref b2) ∧ Fr n0 L ∧ h0.size ≤ b2 ∧ Keep h0 h [] ∧ Exa Z h o0 "com/example/muster/muster/core/MpdaPlan" ∧ Fld Z h o0 "com/example/muster/muster/core/MpdaPlan" "routes" "[[I" (.ref qA) ∧ AV Z h qA (.array .int) 2 (own_b2 cA eA) ∧ Exa Z h cA "[I" ∧ AV Z h cA .int 2 (fun k => .int ((own_2 xa xb) k)) ∧ Exa Z h eA "[I" ∧ AV Z h eA .int 0 (fun k => .int ((fun _ => (0 : Int32)) k)) ∧ AV Z h b2 .int 0 (fun k => .int ((fun _ => (0 : Int32)) k)) ∧ Exa Z h b2 "[I"
theorem rm91b (l : Launch) (Z : State) (a0 : Array Value) (hw : HW a0 Z) (ws : List Jvm.Cond) (o0 : Nat) (qA : Nat) (cA : Nat) (eA : Nat) (xa : Int32) (xb : Int32) (h0 : Heap) (n0 : Nat) (Z0 : n0 ≤ h0.size) (ha0 : Exa Z h0 o0 "com/example/muster/muster/core/MpdaPlan") (ha1 : Fld Z h0 o0 "com/example/muster/muster/core/MpdaPlan" "routes" "[[I" (.ref qA)) (ha2 : AV Z h0 qA (.array .int) 2 (own_b2 cA eA)) (ha3 : Exa Z h0 cA "[I") (ha4 : AV Z h0 cA .int 2 (fun k => .int ((own_2 xa xb) k))) (ha5 : Exa Z h0 eA "[I") (ha6 : AV Z h0 eA .int 0 (fun k => .int ((fun _ => (0 : Int32)) k))) :
    MetFree l y9 (head1 (Jvm.Cond.code y9 prog_25_method_3_code 2 (some (.array .int)) :: ws) RM_1_1_2_14) (fun a U => a = #[(.ref o0), (.int 1)] ∧ Z.Warmed39 U.vm ∧ U.heap = h0) (fun _ _ _ _ _ => True) (fun _ U o U' => ∃ v L, o = .returned v ∧ Q91b Z o0 qA cA eA xa xb h0 n0 v U'.heap L ∧ FrameEnd U o U' L RM_1_1_2_14.cells RM_1_1_2_14.slots) := by
  refine MetFree.of_bodySF (plainFor_of_name pn_2) hisR ?_
  intro p e s m args below meth c s₁ Bd hml0 hP hK
  obtain ⟨rfl, hZ, hh⟩ := hP
  have hx := Bd.exec
  have hby := Bd.bytes
  have hml : c.maxLocals = 2 := hml0
  have hown : s.vm.findClass "com/example/muster/muster/core/MpdaPlan" = some m.cls := findClass_of_methodNamed Bd.named
  have X0 : Stand p l e RM_1_1_2_14 s m _ below meth c s₁ [] 0 0 := Stand.of_body Bd
  have e0 : s₁.heap = h0 := by rw [← hh, Bd.state]; rfl
  have N0 := Fr.nil n0
  refine Go.into (P := fun oo uu => ∃ v L, oo = .returned v ∧ Q91b Z o0 qA cA eA xa xb h0 n0 v uu.heap L ∧ FrameEnd s oo uu L RM_1_1_2_14.cells RM_1_1_2_14.slots) (ef_9_aa m o0 (1 : Int32)) ?_
  show Go p e below _ (s₁.setTop (mkF m 0 #[sR o0, sI 1] []))
  refine Vi (s₁.setTop (mkF m 1 #[sR o0, sI 1] [(.ref o0)])) (fun tZ kZ => ?_) ?_
  · refine XS.aloadN X0.here hx rfl (hb hby d9_0) rfl rfl ?_
    exact kZ
  refine GF X0 hx hZ hown (wq hw 16 rfl) e0 ha1 (hb hby d9_1) fun T1 X1 e1 => ?_
  refine Vi (T1.setTop (mkF m 6 #[sR o0, sI 1] [(.ref eA)])) (fun tZ kZ => ?_) ?_
  · refine XS.iloadN X1.here hx rfl (hb hby d9_4) rfl ?_
    refine AV.aaload ha2 rfl X1 hx hZ e1 (j := (1 : Int32)) (by decide) (hb hby d9_5) ?_
    rw [own_b21]
    exact kZ
  obtain ⟨T2, h2, X2, e2, E2, V2, B2, st2⟩ := AV.clone ha6 (fun _ _ => rfl) X1 hx hZ hown (wq hw 18 rfl) (wq hw 19 rfl) (wq hw 23 rfl) (wq hw 21 rfl) (wq hw 22 rfl) (wq hw 24 rfl) e1 ha5 (g := (mkF m 6 #[sR o0, sI 1] [(.ref eA)])) rfl (by rw [hml]; rfl) (rest := []) rfl (hb hby d9_6) (by decide) (W := 0) (cap := 0) (by show 2 * 0 + _ ≤ _; exact Nat.le_of_eq rfl) (by decide) (by decide) (by decide) (by decide)
  obtain ⟨b2, g2⟩ : ∃ z, z = h0.size := ⟨_, rfl⟩
  rw [← g2] at V2 B2 st2
  have g_b2 : n0 ≤ b2 := Nat.le_trans Z0 (Nat.le_of_eq g2.symm)
  have sz_b2 : h0.size ≤ b2 := Nat.le_trans ((Keep.refl h0 [])).1 (Nat.le_of_eq g2.symm)
  have ne_o0_b2 : o0 ≠ b2 := Nat.ne_of_lt (Nat.lt_of_lt_of_le ha0.lt (Nat.le_of_eq g2.symm))
  have ne_qA_b2 : qA ≠ b2 := Nat.ne_of_lt (Nat.lt_of_lt_of_le ha2.lt (Nat.le_of_eq g2.symm))
  have ne_cA_b2 : cA ≠ b2 := Nat.ne_of_lt (Nat.lt_of_lt_of_le ha3.lt (Nat.le_of_eq g2.symm))
  have ne_eA_b2 : eA ≠ b2 := Nat.ne_of_lt (Nat.lt_of_lt_of_le ha5.lt (Nat.le_of_eq g2.symm))
  have lt_o0_b2 : (o0 : Nat) < b2 := Nat.lt_of_lt_of_le ha0.lt (Nat.le_of_eq g2.symm)
  have lt_cA_b2 : (cA : Nat) < b2 := Nat.lt_of_lt_of_le ha3.lt (Nat.le_of_eq g2.symm)
  have lt_eA_b2 : (eA : Nat) < b2 := Nat.lt_of_lt_of_le ha5.lt (Nat.le_of_eq g2.symm)
  have lt_qA_b2 : (qA : Nat) < b2 := Nat.lt_of_lt_of_le ha2.lt (Nat.le_of_eq g2.symm)
  have c3_0 := ha0.ext E2
  have c3_1 := ha1.ext E2
  have c3_2 := ha2.ext E2
  have c3_3 := ha3.ext E2
  have c3_4 := ha4.ext E2
  have c3_5 := ha5.ext E2
  have c3_6 := ha6.ext E2
  have K2 : Keep h0 h2 [] := (Keep.refl h0 []).ext E2
  have Z2 := Nat.le_trans Z0 E2.1
  refine Go.via st2 ?_
  obtain ⟨T4, X4, e4, st4⟩ := castY X2 hx hZ hown (wq hw 15 rfl) e2 (Ins.self B2) (g := (mkF m 9 #[sR o0, sI 1] [(.ref b2)])) rfl rfl (hb hby d9_9)
  refine Go.via st4 ?_
  refine Go.retR X4 hx Bd.notSynchronized Bd.returns rfl rfl (hb hby d9_12) (by decide) (by decide) ?_
  rw [e4]
  exact ⟨b2, rfl, N0, sz_b2, K2, c3_0, c3_1, c3_2, c3_3, c3_4, c3_5, c3_6, V2, B2⟩
open Jvm.Free.Fl in
def GB (K : Nat) (f : Nat → Nat → Nat → UInt64) : Prop := ∀ i j k, Mag64 K (f i j k)
open Jvm.Free.Fl in
theorem GB.upd {K : Nat} {f : Nat → Nat → Nat → UInt64} (h : GB K f) (i j k : Nat) {v : UInt64} (hv : Mag64 (K + 2) v) : GB (K + 2) (own_upd f i j (up (f i j) k v)) := by
  intro i' j' k'
  unfold own_upd
  split
  · show Mag64 _ (if k' = k then v else f i j k')
    split
    · exact hv
    · exact (h i j k').mono (by omega)
  · exact (h i' j' k').mono (by omega)
def own_d1 (g : Nat → Nat → Nat → UInt64) (i j k : Nat) (d : UInt64) : Nat → Nat → Nat → UInt64 := own_upd g i j (up (g i j) k (FP.dadd (g i j k) d))
open Jvm.Free.Fl in
theorem GB.d1 {K : Nat} {f : Nat → Nat → Nat → UInt64} (h : GB K f) (i j k : Nat) {d : UInt64} (hd : Mag64 K d) (hK : K ≤ 2047) : GB (K + 2) (own_d1 f i j k d) := h.upd i j k (dadd_mag (h i j k) hd hK)
open Jvm.Free.Fl in
theorem own_add {K : Nat} {x y : UInt64} (hx : Mag64 K x) (hy : Mag64 K y) (hK : K + 2 ≤ 2047) : NoNaN64 (FP.dadd x y) := ((dadd_mag hx hy (by omega)).fin (by omega)).noNaN
theorem d7_0 : DC B7 0 (.iconst 0) 1 := by decide +kernel
theorem d7_1 : DC B7 1 (.istore 4) 2 := by decide +kernel
theorem d7_3 : DC B7 3 (.iload 4) 2 := by decide +kernel
theorem d7_5 : DC B7 5 (.aload_n 1) 1 := by decide +kernel
theorem pd_7 : parseMethodDescriptor "()I" = some ⟨[], some .int⟩ := by decide +kernel
theorem d7_6 : DC B7 6 (.invokevirtual 30) 3 := by decide +kernel
theorem d7_9 : DC B7 9 (.if_icmp .ge 71) 3 := by decide +kernel
theorem d7_12 : DC B7 12 (.iconst (-1)) 1 := by decide +kernel
theorem d7_13 : DC B7 13 (.istore 5) 2 := by decide +kernel
theorem d7_15 : DC B7 15 (.aload_n 1) 1 := by decide +kernel
theorem d7_16 : DC B7 16 (.iload 4) 2 := by decide +kernel
theorem pd_8 : parseMethodDescriptor "(I)[I" = some ⟨[.int], some (.array .int)⟩ := by decide +kernel
theorem d7_18 : DC B7 18 (.invokevirtual 38) 3 := by decide +kernel
theorem d7_21 : DC B7 21 (.astore 6) 2 := by decide +kernel
theorem d7_23 : DC B7 23 (.aload 6) 2 := by decide +kernel
theorem d7_25 : DC B7 25 (.arraylength) 1 := by decide +kernel
theorem d7_26 : DC B7 26 (.istore 7) 2 := by decide +kernel
theorem d7_28 : DC B7 28 (.iconst 0) 1 := by decide +kernel
theorem d7_29 : DC B7 29 (.istore 8) 2 := by decide +kernel
theorem d7_31 : DC B7 31 (.iload 8) 2 := by decide +kernel
theorem d7_33 : DC B7 33 (.iload 7) 2 := by decide +kernel
theorem d7_35 : DC B7 35 (.if_icmp .ge 39) 3 := by decide +kernel
theorem d7_38 : DC B7 38 (.aload 6) 2 := by decide +kernel
theorem d7_40 : DC B7 40 (.iload 8) 2 := by decide +kernel
theorem d7_42 : DC B7 42 (.iaload) 1 := by decide +kernel
theorem d7_43 : DC B7 43 (.istore 9) 2 := by decide +kernel
theorem d7_45 : DC B7 45 (.aload_n 0) 1 := by decide +kernel
theorem d7_46 : DC B7 46 (.getfield 18) 3 := by decide +kernel
theorem d7_49 : DC B7 49 (.iload 4) 2 := by decide +kernel
theorem d7_51 : DC B7 51 (.aaload) 1 := by decide +kernel
theorem d7_52 : DC B7 52 (.iload 5) 2 := by decide +kernel
theorem d7_54 : DC B7 54 (.iconst 1) 1 := by decide +kernel
theorem d7_55 : DC B7 55 (.iadd) 1 := by decide +kernel
theorem d7_56 : DC B7 56 (.aaload) 1 := by decide +kernel
theorem d7_57 : DC B7 57 (.iload 9) 2 := by decide +kernel
theorem d7_59 : DC B7 59 (.dup2) 1 := by decide +kernel
theorem d7_60 : DC B7 60 (.daload) 1 := by decide +kernel
theorem d7_61 : DC B7 61 (.dload_n 2) 1 := by decide +kernel
theorem d7_62 : DC B7 62 (.dadd) 1 := by decide +kernel
theorem d7_63 : DC B7 63 (.dastore) 1 := by decide +kernel
theorem d7_64 : DC B7 64 (.iload 9) 2 := by decide +kernel
theorem d7_66 : DC B7 66 (.istore 5) 2 := by decide +kernel
theorem d7_68 : DC B7 68 (.iinc 8 1) 3 := by decide +kernel
theorem d7_71 : DC B7 71 (.goto (-40)) 3 := by decide +kernel
theorem d7_74 : DC B7 74 (.iinc 4 1) 3 := by decide +kernel
theorem d7_77 : DC B7 77 (.goto (-74)) 3 := by decide +kernel
theorem d7_80 : DC B7 80 (.return_) 1 := by decide +kernel
def Q7a (Z : State) (o0 : Nat) (o1 : Nat) (d2 : UInt64) (dA : Nat) (g : Nat → Nat → Nat → UInt64) (qA : Nat) (cA : Nat) (eA : Nat) (xa : Int32) (xb : Int32) (xc : Int32) (h0 : Heap) (n0 : Nat) (v : Option Value) (h : Heap) (L : List Loc) : Prop := v = none ∧ Fr n0 L ∧ Keep h0 h [(dA + 2 + 5 * 0 + 0), (dA + 2 + 5 * 0 + (xa + (1 : Int32)).toNatClampNeg), (dA + 2 + 5 * 1 + 0)] ∧ Exa Z h o0 "com/example/muster/muster/solvers/Pheromone" ∧ Fld Z h o0 "com/example/muster/muster/solvers/Pheromone" "deposited" "[[[D" (.ref dA) ∧ Gd Z h dA (own_d1 (own_d1 (own_d1 g 0 0 xa.toNatClampNeg d2) 0 (xa + (1 : Int32)).toNatClampNeg xb.toNatClampNeg d2) 1 0 xc.toNatClampNeg d2) ∧ Exa Z h o1 "com/example/muster/muster/core/MpdaPlan" ∧ Fld Z h o1 "com/example/muster/muster/core/MpdaPlan" "routes" "[[I" (.ref qA) ∧ AV Z h qA (.array .int) 2 (own_b2 cA eA) ∧ Exa Z h cA "[I" ∧ AV Z h cA .int 2 (fun k => .int ((own_2 xa xb) k)) ∧ Exa Z h eA "[I" ∧ AV Z h eA .int 1 (fun k => .int ((fun _ => xc) k))
abbrev RM_2_2_4_27 : Room := { frames := 2, cells := 2, slots := 4, locals := 27 }
theorem ef_7_aaa (m : MethodId) (x0 : Nat) (x1 : Nat) (x2 : UInt64) : entryFrame m #[(.ref x0), (.ref x1), (.double x2)] 10 = mkF m 0 #[.val (.ref x0), .val (.ref x1), .val (.double x2), .second, .unset, .unset, .unset, .unset, .unset, .unset] [] := by first | (simp [entryFrame, mkF, argsToLocals, Value.category]; done) | rfl
theorem rm7a (l : Launch) (Z : State) (a0 : Array Value) (hw : HW a0 Z) (ws : List Jvm.Cond) (o0 : Nat) (o1 : Nat) (d2 : UInt64) (dA : Nat) (g : Nat → Nat → Nat → UInt64) (qA : Nat) (cA : Nat) (eA : Nat) (xa : Int32) (xb : Int32) (xc : Int32) (h0 : Heap) (n0 : Nat) (Z0 : n0 ≤ h0.size) (ha0 : Exa Z h0 o0 "com/example/muster/muster/solvers/Pheromone") (ha1 : Fld Z h0 o0 "com/example/muster/muster/solvers/Pheromone" "deposited" "[[[D" (.ref dA)) (ha2 : Gd Z h0 dA g) (ha3 : n0 ≤ dA) (ha4 : Exa Z h0 o1 "com/example/muster/muster/core/MpdaPlan") (ha5 : Fld Z h0 o1 "com/example/muster/muster/core/MpdaPlan" "routes" "[[I" (.ref qA)) (ha6 : AV Z h0 qA (.array .int) 2 (own_b2 cA eA)) (ha7 : Exa Z h0 cA "[I") (ha8 : AV Z h0 cA .int 2 (fun k => .int ((own_2 xa xb) k))) (ha9 : Exa Z h0 eA "[I") (ha10 : AV Z h0 eA .int 1 (fun k => .int ((fun _ => xc) k))) (ha : xa = 0 ∨ xa = 1 ∨ xa = 2) (hb_ : xb = 0 ∨ xb = 1 ∨ xb = 2) (hc_ : xc = 0 ∨ xc = 1 ∨ xc = 2) (ho0 : o0 < dA ∨ dA + 11 ≤ o0) (ho_o1 : o1 < dA ∨ dA + 11 ≤ o1) (ho_qA : qA < dA ∨ dA + 11 ≤ qA) (ho_cA : cA < dA ∨ dA + 11 ≤ cA) (ho_eA : eA < dA ∨ dA + 11 ≤ eA) (hg0 : GB 1060 g) (hamt : Jvm.Free.Fl.Mag64 1060 d2) :
    MetFree l y7 (head1 (Jvm.Cond.code y7 prog_48_method_4_code 10 none :: ws) RM_2_2_4_27) (fun a U => a = #[(.ref o0), (.ref o1), (.double d2)] ∧ Z.Warmed39 U.vm ∧ U.heap = h0) (fun _ _ _ _ _ => True) (fun _ U o U' => ∃ v L, o = .returned v ∧ Q7a Z o0 o1 d2 dA g qA cA eA xa xb xc h0 n0 v U'.heap L ∧ FrameEnd U o U' L RM_2_2_4_27.cells RM_2_2_4_27.slots) := by
  refine MetFree.of_bodySF (plainFor_of_name pn_1) hisR ?_
  intro p e s m args below meth c s₁ Bd hml0 hP hK
  obtain ⟨rfl, hZ, hh⟩ := hP
  have hx := Bd.exec
  have hby := Bd.bytes
  have hml : c.maxLocals = 10 := hml0
  have hown : s.vm.findClass "com/example/muster/muster/solvers/Pheromone" = some m.cls := findClass_of_methodNamed Bd.named
  have X0 : Stand p l e RM_2_2_4_27 s m _ below meth c s₁ [] 0 0 := Stand.of_body Bd
  have e0 : s₁.heap = h0 := by rw [← hh, Bd.state]; rfl
  have N0 := Fr.nil n0
  refine Go.into (P := fun oo uu => ∃ v L, oo = .returned v ∧ Q7a Z o0 o1 d2 dA g qA cA eA xa xb xc h0 n0 v uu.heap L ∧ FrameEnd s oo uu L RM_2_2_4_27.cells RM_2_2_4_27.slots) (ef_7_aaa m o0 o1 d2) ?_
  show Go p e below _ (s₁.setTop (mkF m 0 #[sR o0, sR o1, .val (.double d2), .second, .unset, .unset, .unset, .unset, .unset, .unset] []))
  have q1 := (own_p1 ha).2
  refine Vi (s₁.setTop (mkF m 6 #[sR o0, sR o1, .val (.double d2), .second, sI 0, .unset, .unset, .unset, .unset, .unset] [(.ref o1), (.int 0)])) (fun tZ kZ => ?_) ?_
  · refine XS.iconst X0.here hx rfl (hb hby d7_0) ?_
    refine XS.istore X0.here hx rfl (hb hby d7_1) rfl (l' := #[sR o0, sR o1, .val (.double d2), .second, sI 0, .unset, .unset, .unset, .unset, .unset]) rfl ?_
    refine XS.iload X0.here hx rfl (hb hby d7_3) rfl ?_
    refine XS.aloadN X0.here hx rfl (hb hby d7_5) rfl rfl ?_
    exact kZ
  obtain ⟨cq1, kq1, q1a, q1b, q1c⟩ := isOf hZ e0 ha4
  obtain ⟨_, _, ⟨T1, L1, k1, n1⟩, -, X1, ⟨Lc1, hQ1, l1, y1, z1⟩, st1⟩ := X0.virtualBack hx (y := y8) (z := y8) hown (wz hZ hw 61 rfl) (wz hZ hw 62 rfl) (notFace_of_selects (args := #[]) (wz hZ hw 64 rfl)) (wz hZ hw 64 rfl) (wz hZ hw 63 rfl) (by decide) (backOf (W := 1) (rm8 l Z a0 hw [] o1 qA cA eA h0 n0 Z0 ha4 ha5 ha6) hZ (wq hw 65 rfl) (wq hw 8 rfl) (by decide) (by decide)) q1a q1c (g := (mkF m 6 #[sR o0, sR o1, .val (.double d2), .second, sI 0, .unset, .unset, .unset, .unset, .unset] [(.ref o1), (.int 0)])) rfl (by rw [hml]; rfl) (Steps.refl _) (argsL := []) (rest := [(.int 0)]) (lenOf pd_7 rfl) rfl (leW rfl) (hb hby d7_6) (fun _ _ => ⟨rfl, e0, (by decide : 0 + 0 ≤ _), (by decide : 0 + 0 ≤ _)⟩)
  dsimp only [Pt.U, Pt.locs, Pt.cells, Pt.slots] at X1 l1 y1 z1 st1 hQ1
  subst l1 y1 z1
  obtain ⟨rfl, N1q, e1⟩ := hQ1
  have N1 := Fr.app N0 N1q
  refine Go.via (fun t k => st1.trans k) ?_
  refine Vi (T1.setTop (mkF m 18 #[sR o0, sR o1, .val (.double d2), .second, sI 0, sI (-1), .unset, .unset, .unset, .unset] [(.int 0), (.ref o1)])) (fun tZ kZ => ?_) ?_
  · refine XS.icmpNo X1.here hx rfl (hb hby d7_9) rfl (tlt (by show (0 : Int32) < 2; decide)).2.1 ?_
    refine XS.iconst X1.here hx rfl (hb hby d7_12) ?_
    refine XS.istore X1.here hx rfl (hb hby d7_13) rfl (l' := #[sR o0, sR o1, .val (.double d2), .second, sI 0, sI (-1), .unset, .unset, .unset, .unset]) rfl ?_
    refine XS.aloadN X1.here hx rfl (hb hby d7_15) rfl rfl ?_
    refine XS.iload X1.here hx rfl (hb hby d7_16) rfl ?_
    exact kZ
  obtain ⟨cq2, kq2, q2a, q2b, q2c⟩ := isOf hZ e1 ha4
  obtain ⟨_, _, ⟨T2, L2, k2, n2⟩, -, X2, ⟨Lc2, hQ2, l2, y2, z2⟩, st2⟩ := X1.virtualBack hx (y := y9) (z := y9) hown (wz hZ hw 66 rfl) (wz hZ hw 67 rfl) (notFace_of_selects (args := #[]) (wz hZ hw 69 rfl)) (wz hZ hw 69 rfl) (wz hZ hw 68 rfl) (by decide) (backOf (W := 0) (rm90a l Z a0 hw [] o1 qA cA eA xa xb xc h0 n0 Z0 ha4 ha5 ha6 ha7 ha8 ha9 ha10) hZ (wq hw 70 rfl) (wq hw 8 rfl) (by decide) (by decide)) q2a q2c (g := (mkF m 18 #[sR o0, sR o1, .val (.double d2), .second, sI 0, sI (-1), .unset, .unset, .unset, .unset] [(.int 0), (.ref o1)])) rfl (by rw [hml]; rfl) (Steps.refl _) (argsL := [(.int 0)]) (rest := []) (lenOf pd_8 rfl) rfl (leW rfl) (hb hby d7_18) (fun _ _ => ⟨rfl, e1, (by decide : 0 + 0 + 1 ≤ _), (by decide : 0 + 0 + 2 ≤ _)⟩)
  dsimp only [Pt.U, Pt.locs, Pt.cells, Pt.slots] at X2 l2 y2 z2 st2 hQ2
  subst l2 y2 z2
  obtain ⟨b2_0, rfl, N2q, hz_b2_0, Kq2, f2_0, f2_1, f2_2, f2_3, f2_4, f2_5, f2_6, f2_7, f2_8⟩ := hQ2
  have g_b2_0 : n0 ≤ b2_0 := Nat.le_trans Z0 hz_b2_0
  have sz_b2_0 : h0.size ≤ b2_0 := Nat.le_trans ((Keep.refl h0 [(dA + 2 + 5 * 0 + 0), (dA + 2 + 5 * 0 + (xa + (1 : Int32)).toNatClampNeg), (dA + 2 + 5 * 1 + 0)])).1 hz_b2_0
  have ne_o0_b2_0 : o0 ≠ b2_0 := Nat.ne_of_lt (Nat.lt_of_lt_of_le ha0.lt hz_b2_0)
  have ne_o1_b2_0 : o1 ≠ b2_0 := Nat.ne_of_lt (Nat.lt_of_lt_of_le ha4.lt hz_b2_0)
  have ne_qA_b2_0 : qA ≠ b2_0 := Nat.ne_of_lt (Nat.lt_of_lt_of_le ha6.lt hz_b2_0)
  have ne_cA_b2_0 : cA ≠ b2_0 := Nat.ne_of_lt (Nat.lt_of_lt_of_le ha7.lt hz_b2_0)
  have ne_eA_b2_0 : eA ≠ b2_0 := Nat.ne_of_lt (Nat.lt_of_lt_of_le ha9.lt hz_b2_0)
  have lt_o0_b2_0 : (o0 : Nat) < b2_0 := Nat.lt_of_lt_of_le ha0.lt hz_b2_0
  have lt_dA_b2_0 : (dA : Nat) + 11 ≤ b2_0 := Nat.le_trans ha2.lt hz_b2_0
  have lt_o1_b2_0 : (o1 : Nat) < b2_0 := Nat.lt_of_lt_of_le ha4.lt hz_b2_0
  have lt_qA_b2_0 : (qA : Nat) < b2_0 := Nat.lt_of_lt_of_le ha6.lt hz_b2_0
  have lt_cA_b2_0 : (cA : Nat) < b2_0 := Nat.lt_of_lt_of_le ha7.lt hz_b2_0
  have lt_eA_b2_0 : (eA : Nat) < b2_0 := Nat.lt_of_lt_of_le ha9.lt hz_b2_0
  have c3_0 := ha0.keep Kq2
  have c3_1 := ha1.keep Kq2 nin0
  have c3_2 := ha2.keep Kq2 all0
  have K2 : Keep h0 T2.heap [(dA + 2 + 5 * 0 + 0), (dA + 2 + 5 * 0 + (xa + (1 : Int32)).toNatClampNeg), (dA + 2 + 5 * 1 + 0)] := (Keep.refl h0 [(dA + 2 + 5 * 0 + 0), (dA + 2 + 5 * 0 + (xa + (1 : Int32)).toNatClampNeg), (dA + 2 + 5 * 1 + 0)]).trans Kq2 all0
  have Z2 := Nat.le_trans Z0 Kq2.1
  have N2 := Fr.app N1 N2q
  refine Go.via (fun t k => st2.trans k) ?_
  refine Vi (T2.setTop (mkF m 45 #[sR o0, sR o1, .val (.double d2), .second, sI 0, sI (-1), sR b2_0, sI 2, sI 0, sI ((own_2 xa xb) (0 : Int32).toNatClampNeg)] [])) (fun tZ kZ => ?_) ?_
  · refine XS.astore X2.here hx rfl (hb hby d7_21) rfl rfl (l' := #[sR o0, sR o1, .val (.double d2), .second, sI 0, sI (-1), sR b2_0, .unset, .unset, .unset]) rfl ?_
    refine XS.aload X2.here hx rfl (hb hby d7_23) rfl rfl ?_
    refine AV.len f2_7 X2 hx hZ rfl (hb hby d7_25) ?_
    refine XS.istore X2.here hx rfl (hb hby d7_26) rfl (l' := #[sR o0, sR o1, .val (.double d2), .second, sI 0, sI (-1), sR b2_0, sI 2, .unset, .unset]) rfl ?_
    refine XS.iconst X2.here hx rfl (hb hby d7_28) ?_
    refine XS.istore X2.here hx rfl (hb hby d7_29) rfl (l' := #[sR o0, sR o1, .val (.double d2), .second, sI 0, sI (-1), sR b2_0, sI 2, sI 0, .unset]) rfl ?_
    refine XS.iload X2.here hx rfl (hb hby d7_31) rfl ?_
    refine XS.iload X2.here hx rfl (hb hby d7_33) rfl ?_
    refine XS.icmpNo X2.here hx rfl (hb hby d7_35) rfl (tlt (by decide)).2.1 ?_
    refine XS.aload X2.here hx rfl (hb hby d7_38) rfl rfl ?_
    refine XS.iload X2.here hx rfl (hb hby d7_40) rfl ?_
    refine AV.iaload f2_7 X2 hx hZ rfl (j := (0 : Int32)) (by decide) (hb hby d7_42) ?_
    refine XS.istore X2.here hx rfl (hb hby d7_43) rfl (l' := #[sR o0, sR o1, .val (.double d2), .second, sI 0, sI (-1), sR b2_0, sI 2, sI 0, sI ((own_2 xa xb) (0 : Int32).toNatClampNeg)]) rfl ?_
    exact kZ
  show Go p e below _ (T2.setTop (mkF m 45 #[sR o0, sR o1, .val (.double d2), .second, sI 0, sI (-1), sR b2_0, sI 2, sI 0, sI xa] []))
  refine Vi (T2.setTop (mkF m 46 #[sR o0, sR o1, .val (.double d2), .second, sI 0, sI (-1), sR b2_0, sI 2, sI 0, sI xa] [(.ref o0)])) (fun tZ kZ => ?_) ?_
  · refine XS.aloadN X2.here hx rfl (hb hby d7_45) rfl rfl ?_
    exact kZ
  refine GF X2 hx hZ hown (wq hw 40 rfl) rfl c3_1 (hb hby d7_46) fun T4 X4 e4 => ?_
  refine Vi (T4.setTop (mkF m 63 #[sR o0, sR o1, .val (.double d2), .second, sI 0, sI (-1), sR b2_0, sI 2, sI 0, sI xa] [(.double (FP.dadd ((g 0 0) xa.toNatClampNeg) d2)), (.int xa), (.ref (dA + 2 + 5 * 0 + 0))])) (fun tZ kZ => ?_) ?_
  · refine XS.iload X4.here hx rfl (hb hby d7_49) rfl ?_
    refine AV.aaload c3_2.top rfl X4 hx hZ e4 (j := (0 : Int32)) (by decide) (hb hby d7_51) ?_
    refine XS.iload X4.here hx rfl (hb hby d7_52) rfl ?_
    refine XS.iconst X4.here hx rfl (hb hby d7_54) ?_
    refine XS.iadd X4.here hx rfl (hb hby d7_55) rfl ?_
    refine AV.aaload (c3_2.row 0 (by decide)) rfl X4 hx hZ e4 (j := (0 : Int32)) (by decide) (hb hby d7_56) ?_
    refine XS.iload X4.here hx rfl (hb hby d7_57) rfl ?_
    refine Jvm.Free.XT.dup2 X4.here hx rfl (hb hby d7_59) rfl rfl rfl ?_
    refine AV.daload (c3_2.cell 0 0 (by decide) (by decide)) X4 hx hZ e4 (j := xa) (own_x3 ha) (hb hby d7_60) ?_
    refine XS.dloadN X4.here hx rfl (hb hby d7_61) rfl ?_
    refine XS.daddS X4.here hx rfl (hb hby d7_62) rfl (own_add (hg0 _ _ _) (hamt.mono (by decide)) (by decide)) rfl ?_
    exact kZ
  obtain ⟨T5, h5, X5, e5, W5, V5, st5⟩ := AV.dastore (c3_2.cell 0 0 (by decide) (by decide)) X4 hx hZ e4 (j := xa) (own_x3 ha) (Ls := #[sR o0, sR o1, .val (.double d2), .second, sI 0, sI (-1), sR b2_0, sI 2, sI 0, sI xa]) (rest := []) (hb hby d7_63) (x := (FP.dadd ((g 0 0) xa.toNatClampNeg) d2))
  have N5 := Fr.snoc X5 N2 (Nat.le_trans ha3 (show dA ≤ (dA + 2 + 5 * 0 + 0) by omega))
  have c6_0 := c3_0.wr W5
  have c6_1 := c3_1.other W5 (Or.inl (own_na (by omega)))
  have c6_2 := c3_2
  have c6_4 := f2_0.wr W5
  have c6_5 := f2_1.other W5 (Or.inl (own_na (by omega)))
  have c6_6 := f2_2.other W5 (own_na (by omega))
  have c6_7 := f2_3.wr W5
  have c6_8 := f2_4.other W5 (own_na (by omega))
  have c6_9 := f2_5.wr W5
  have c6_10 := f2_6.other W5 (own_na (by omega))
  have c6_11 := f2_7.other W5 (own_na (by omega))
  have c6_12 := f2_8.wr W5
  have K5 : Keep h0 h5 [(dA + 2 + 5 * 0 + 0), (dA + 2 + 5 * 0 + (xa + (1 : Int32)).toNatClampNeg), (dA + 2 + 5 * 1 + 0)] := K2.wr W5 (Or.inl (by simp))
  have Z5 := Nat.le_trans Z2 (Keep.of_wr W5).1
  have gb6 : GB 1062 (own_d1 g 0 0 xa.toNatClampNeg d2) := hg0.d1 _ _ _ (hamt.mono (by decide)) (by decide)
  have Gw5 : Gd Z h5 dA (own_d1 g 0 0 xa.toNatClampNeg d2) := (Gd.set c3_2 0 0 (by decide) (by decide) W5 V5).congr (fun _ _ _ _ _ _ => rfl)
  refine Go.via st5 ?_
  refine Vi (T5.setTop (mkF m 45 #[sR o0, sR o1, .val (.double d2), .second, sI 0, sI xa, sR b2_0, sI 2, sI 1, sI ((own_2 xa xb) (1 : Int32).toNatClampNeg)] [])) (fun tZ kZ => ?_) ?_
  · refine XS.iload X5.here hx rfl (hb hby d7_64) rfl ?_
    refine XS.istore X5.here hx rfl (hb hby d7_66) rfl (l' := #[sR o0, sR o1, .val (.double d2), .second, sI 0, sI xa, sR b2_0, sI 2, sI 0, sI xa]) rfl ?_
    refine XS.iinc X5.here hx rfl (hb hby d7_68) rfl (l' := #[sR o0, sR o1, .val (.double d2), .second, sI 0, sI xa, sR b2_0, sI 2, sI 1, sI xa]) rfl ?_
    refine XS.goto X5.here hx rfl (pc0 := 71) (pc' := 31) rfl (hb hby d7_71) (by decide) (by decide) ?_
    refine XS.iload X5.here hx rfl (hb hby d7_31) rfl ?_
    refine XS.iload X5.here hx rfl (hb hby d7_33) rfl ?_
    refine XS.icmpNo X5.here hx rfl (hb hby d7_35) rfl (tlt (by decide)).2.1 ?_
    refine XS.aload X5.here hx rfl (hb hby d7_38) rfl rfl ?_
    refine XS.iload X5.here hx rfl (hb hby d7_40) rfl ?_
    refine AV.iaload c6_11 X5 hx hZ e5 (j := (1 : Int32)) (by decide) (hb hby d7_42) ?_
    refine XS.istore X5.here hx rfl (hb hby d7_43) rfl (l' := #[sR o0, sR o1, .val (.double d2), .second, sI 0, sI xa, sR b2_0, sI 2, sI 1, sI ((own_2 xa xb) (1 : Int32).toNatClampNeg)]) rfl ?_
    exact kZ
  show Go p e below _ (T5.setTop (mkF m 45 #[sR o0, sR o1, .val (.double d2), .second, sI 0, sI xa, sR b2_0, sI 2, sI 1, sI xb] []))
  refine Vi (T5.setTop (mkF m 46 #[sR o0, sR o1, .val (.double d2), .second, sI 0, sI xa, sR b2_0, sI 2, sI 1, sI xb] [(.ref o0)])) (fun tZ kZ => ?_) ?_
  · refine XS.aloadN X5.here hx rfl (hb hby d7_45) rfl rfl ?_
    exact kZ
  refine GF X5 hx hZ hown (wq hw 40 rfl) e5 c6_1 (hb hby d7_46) fun T7 X7 e7 => ?_
  refine Vi (T7.setTop (mkF m 63 #[sR o0, sR o1, .val (.double d2), .second, sI 0, sI xa, sR b2_0, sI 2, sI 1, sI xb] [(.double (FP.dadd (((own_d1 g 0 0 xa.toNatClampNeg d2) 0 (xa + (1 : Int32)).toNatClampNeg) xb.toNatClampNeg) d2)), (.int xb), (.ref (dA + 2 + 5 * 0 + (xa + (1 : Int32)).toNatClampNeg))])) (fun tZ kZ => ?_) ?_
  · refine XS.iload X7.here hx rfl (hb hby d7_49) rfl ?_
    refine AV.aaload Gw5.top rfl X7 hx hZ e7 (j := (0 : Int32)) (by decide) (hb hby d7_51) ?_
    refine XS.iload X7.here hx rfl (hb hby d7_52) rfl ?_
    refine XS.iconst X7.here hx rfl (hb hby d7_54) ?_
    refine XS.iadd X7.here hx rfl (hb hby d7_55) rfl ?_
    refine AV.aaload (Gw5.row 0 (by decide)) rfl X7 hx hZ e7 (j := (xa + (1 : Int32))) (own_p1 ha) (hb hby d7_56) ?_
    refine XS.iload X7.here hx rfl (hb hby d7_57) rfl ?_
    refine Jvm.Free.XT.dup2 X7.here hx rfl (hb hby d7_59) rfl rfl rfl ?_
    refine AV.daload (Gw5.cell 0 (xa + (1 : Int32)).toNatClampNeg (by decide) (own_p1 ha).2) X7 hx hZ e7 (j := xb) (own_x3 hb_) (hb hby d7_60) ?_
    refine XS.dloadN X7.here hx rfl (hb hby d7_61) rfl ?_
    refine XS.daddS X7.here hx rfl (hb hby d7_62) rfl (own_add (gb6 _ _ _) (hamt.mono (by decide)) (by decide)) rfl ?_
    exact kZ
  obtain ⟨T8, h8, X8, e8, W8, V8, st8⟩ := AV.dastore (Gw5.cell 0 (xa + (1 : Int32)).toNatClampNeg (by decide) (own_p1 ha).2) X7 hx hZ e7 (j := xb) (own_x3 hb_) (Ls := #[sR o0, sR o1, .val (.double d2), .second, sI 0, sI xa, sR b2_0, sI 2, sI 1, sI xb]) (rest := []) (hb hby d7_63) (x := (FP.dadd (((own_d1 g 0 0 xa.toNatClampNeg d2) 0 (xa + (1 : Int32)).toNatClampNeg) xb.toNatClampNeg) d2))
  have N8 := Fr.snoc X8 N5 (Nat.le_trans ha3 (show dA ≤ (dA + 2 + 5 * 0 + (xa + (1 : Int32)).toNatClampNeg) by omega))
  have c9_0 := c6_0.wr W8
  have c9_1 := c6_1.other W8 (Or.inl (own_na (by omega)))
  have c9_2 := Gw5
  have c9_4 := c6_4.wr W8
  have c9_5 := c6_5.other W8 (Or.inl (own_na (by omega)))
  have c9_6 := c6_6.other W8 (own_na (by omega))
  have c9_7 := c6_7.wr W8
  have c9_8 := c6_8.other W8 (own_na (by omega))
  have c9_9 := c6_9.wr W8
  have c9_10 := c6_10.other W8 (own_na (by omega))
  have c9_11 := c6_11.other W8 (own_na (by omega))
  have c9_12 := c6_12.wr W8
  have K8 : Keep h0 h8 [(dA + 2 + 5 * 0 + 0), (dA + 2 + 5 * 0 + (xa + (1 : Int32)).toNatClampNeg), (dA + 2 + 5 * 1 + 0)] := K5.wr W8 (Or.inl (by simp))
  have Z8 := Nat.le_trans Z5 (Keep.of_wr W8).1
  have gb9 : GB 1064 (own_d1 (own_d1 g 0 0 xa.toNatClampNeg d2) 0 (xa + (1 : Int32)).toNatClampNeg xb.toNatClampNeg d2) := gb6.d1 _ _ _ (hamt.mono (by decide)) (by decide)
  have Gw8 : Gd Z h8 dA (own_d1 (own_d1 g 0 0 xa.toNatClampNeg d2) 0 (xa + (1 : Int32)).toNatClampNeg xb.toNatClampNeg d2) := (Gd.set Gw5 0 (xa + (1 : Int32)).toNatClampNeg (by decide) (own_p1 ha).2 W8 V8).congr (fun _ _ _ _ _ _ => rfl)
  refine Go.via st8 ?_
  refine Vi (T8.setTop (mkF m 6 #[sR o0, sR o1, .val (.double d2), .second, sI 1, sI xb, sR b2_0, sI 2, sI 2, sI xb] [(.ref o1), (.int 1)])) (fun tZ kZ => ?_) ?_
  · refine XS.iload X8.here hx rfl (hb hby d7_64) rfl ?_
    refine XS.istore X8.here hx rfl (hb hby d7_66) rfl (l' := #[sR o0, sR o1, .val (.double d2), .second, sI 0, sI xb, sR b2_0, sI 2, sI 1, sI xb]) rfl ?_
    refine XS.iinc X8.here hx rfl (hb hby d7_68) rfl (l' := #[sR o0, sR o1, .val (.double d2), .second, sI 0, sI xb, sR b2_0, sI 2, sI 2, sI xb]) rfl ?_
    refine XS.goto X8.here hx rfl (pc0 := 71) (pc' := 31) rfl (hb hby d7_71) (by decide) (by decide) ?_
    refine XS.iload X8.here hx rfl (hb hby d7_31) rfl ?_
    refine XS.iload X8.here hx rfl (hb hby d7_33) rfl ?_
    refine XS.icmpYes X8.here hx rfl (pc0 := 35) (pc' := 74) rfl (hb hby d7_35) rfl (flt (by decide)).2.1 (by decide) (by decide) ?_
    refine XS.iinc X8.here hx rfl (hb hby d7_74) rfl (l' := #[sR o0, sR o1, .val (.double d2), .second, sI 1, sI xb, sR b2_0, sI 2, sI 2, sI xb]) rfl ?_
    refine XS.goto X8.here hx rfl (pc0 := 77) (pc' := 3) rfl (hb hby d7_77) (by decide) (by decide) ?_
    refine XS.iload X8.here hx rfl (hb hby d7_3) rfl ?_
    refine XS.aloadN X8.here hx rfl (hb hby d7_5) rfl rfl ?_
    exact kZ
  obtain ⟨cq10, kq10, q10a, q10b, q10c⟩ := isOf hZ e8 c9_4
  obtain ⟨_, _, ⟨T10, L10, k10, n10⟩, -, X10, ⟨Lc10, hQ10, l10, y10, z10⟩, st10⟩ := X8.virtualBack hx (y := y8) (z := y8) hown (wz hZ hw 61 rfl) (wz hZ hw 62 rfl) (notFace_of_selects (args := #[]) (wz hZ hw 64 rfl)) (wz hZ hw 64 rfl) (wz hZ hw 63 rfl) (by decide) (backOf (W := 1) (rm8 l Z a0 hw [] o1 qA cA eA h8 n0 Z8 c9_4 c9_5 c9_6) hZ (wq hw 65 rfl) (wq hw 8 rfl) (by decide) (by decide)) q10a q10c (g := (mkF m 6 #[sR o0, sR o1, .val (.double d2), .second, sI 1, sI xb, sR b2_0, sI 2, sI 2, sI xb] [(.ref o1), (.int 1)])) rfl (by rw [hml]; rfl) (Steps.refl _) (argsL := []) (rest := [(.int 1)]) (lenOf pd_7 rfl) rfl (leW rfl) (hb hby d7_6) (fun _ _ => ⟨rfl, e8, (by decide : 0 + 0 + 1 + 0 ≤ _), (by decide : 0 + 0 + 2 + 0 ≤ _)⟩)
  dsimp only [Pt.U, Pt.locs, Pt.cells, Pt.slots] at X10 l10 y10 z10 st10 hQ10
  subst l10 y10 z10
  obtain ⟨rfl, N10q, e10⟩ := hQ10
  have N10 := Fr.app N8 N10q
  refine Go.via (fun t k => st10.trans k) ?_
  refine Vi (T10.setTop (mkF m 18 #[sR o0, sR o1, .val (.double d2), .second, sI 1, sI (-1), sR b2_0, sI 2, sI 2, sI xb] [(.int 1), (.ref o1)])) (fun tZ kZ => ?_) ?_
  · refine XS.icmpNo X10.here hx rfl (hb hby d7_9) rfl (tlt (by show (1 : Int32) < 2; decide)).2.1 ?_
    refine XS.iconst X10.here hx rfl (hb hby d7_12) ?_
    refine XS.istore X10.here hx rfl (hb hby d7_13) rfl (l' := #[sR o0, sR o1, .val (.double d2), .second, sI 1, sI (-1), sR b2_0, sI 2, sI 2, sI xb]) rfl ?_
    refine XS.aloadN X10.here hx rfl (hb hby d7_15) rfl rfl ?_
    refine XS.iload X10.here hx rfl (hb hby d7_16) rfl ?_
    exact kZ
  obtain ⟨cq11, kq11, q11a, q11b, q11c⟩ := isOf hZ e10 c9_4
  obtain ⟨_, _, ⟨T11, L11, k11, n11⟩, -, X11, ⟨Lc11, hQ11, l11, y11, z11⟩, st11⟩ := X10.virtualBack hx (y := y9) (z := y9) hown (wz hZ hw 66 rfl) (wz hZ hw 67 rfl) (notFace_of_selects (args := #[]) (wz hZ hw 69 rfl)) (wz hZ hw 69 rfl) (wz hZ hw 68 rfl) (by decide) (backOf (W := 0) (rm91a l Z a0 hw [] o1 qA cA eA xa xb xc h8 n0 Z8 c9_4 c9_5 c9_6 c9_7 c9_8 c9_9 c9_10) hZ (wq hw 70 rfl) (wq hw 8 rfl) (by decide) (by decide)) q11a q11c (g := (mkF m 18 #[sR o0, sR o1, .val (.double d2), .second, sI 1, sI (-1), sR b2_0, sI 2, sI 2, sI xb] [(.int 1), (.ref o1)])) rfl (by rw [hml]; rfl) (Steps.refl _) (argsL := [(.int 1)]) (rest := []) (lenOf pd_8 rfl) rfl (leW rfl) (hb hby d7_18) (fun _ _ => ⟨rfl, e10, (by decide : 0 + 0 + 1 + 0 + 1 ≤ _), (by decide : 0 + 0 + 2 + 0 + 2 ≤ _)⟩)
  dsimp only [Pt.U, Pt.locs, Pt.cells, Pt.slots] at X11 l11 y11 z11 st11 hQ11
  subst l11 y11 z11
  obtain ⟨b11_0, rfl, N11q, hz_b11_0, Kq11, f11_0, f11_1, f11_2, f11_3, f11_4, f11_5, f11_6, f11_7, f11_8⟩ := hQ11
  have g_b11_0 : n0 ≤ b11_0 := Nat.le_trans Z8 hz_b11_0
  have sz_b11_0 : h0.size ≤ b11_0 := Nat.le_trans (K8).1 hz_b11_0
  have ne_o0_b11_0 : o0 ≠ b11_0 := Nat.ne_of_lt (Nat.lt_of_lt_of_le c9_0.lt hz_b11_0)
  have ne_o1_b11_0 : o1 ≠ b11_0 := Nat.ne_of_lt (Nat.lt_of_lt_of_le c9_4.lt hz_b11_0)
  have ne_qA_b11_0 : qA ≠ b11_0 := Nat.ne_of_lt (Nat.lt_of_lt_of_le c9_6.lt hz_b11_0)
  have ne_cA_b11_0 : cA ≠ b11_0 := Nat.ne_of_lt (Nat.lt_of_lt_of_le c9_7.lt hz_b11_0)
  have ne_eA_b11_0 : eA ≠ b11_0 := Nat.ne_of_lt (Nat.lt_of_lt_of_le c9_9.lt hz_b11_0)
  have ne_b2_0_b11_0 : b2_0 ≠ b11_0 := Nat.ne_of_lt (Nat.lt_of_lt_of_le c9_11.lt hz_b11_0)
  have lt_o0_b11_0 : (o0 : Nat) < b11_0 := Nat.lt_of_lt_of_le c9_0.lt hz_b11_0
  have lt_dA_b11_0 : (dA : Nat) + 11 ≤ b11_0 := Nat.le_trans Gw8.lt hz_b11_0
  have lt_o1_b11_0 : (o1 : Nat) < b11_0 := Nat.lt_of_lt_of_le c9_4.lt hz_b11_0
  have lt_qA_b11_0 : (qA : Nat) < b11_0 := Nat.lt_of_lt_of_le c9_6.lt hz_b11_0
  have lt_cA_b11_0 : (cA : Nat) < b11_0 := Nat.lt_of_lt_of_le c9_7.lt hz_b11_0
  have lt_eA_b11_0 : (eA : Nat) < b11_0 := Nat.lt_of_lt_of_le c9_9.lt hz_b11_0
  have lt_b2_0_b11_0 : (b2_0 : Nat) < b11_0 := Nat.lt_of_lt_of_le c9_11.lt hz_b11_0
  have c12_0 := c9_0.keep Kq11
  have c12_1 := c9_1.keep Kq11 nin0
  have c12_2 := Gw8.keep Kq11 all0
  have c12_11 := c9_11.keep Kq11 nin0
  have c12_12 := c9_12.keep Kq11
  have K11 : Keep h0 T11.heap [(dA + 2 + 5 * 0 + 0), (dA + 2 + 5 * 0 + (xa + (1 : Int32)).toNatClampNeg), (dA + 2 + 5 * 1 + 0)] := K8.trans Kq11 all0
  have Z11 := Nat.le_trans Z8 Kq11.1
  have N11 := Fr.app N10 N11q
  refine Go.via (fun t k => st11.trans k) ?_
  refine Vi (T11.setTop (mkF m 45 #[sR o0, sR o1, .val (.double d2), .second, sI 1, sI (-1), sR b11_0, sI 1, sI 0, sI ((fun _ => xc) (0 : Int32).toNatClampNeg)] [])) (fun tZ kZ => ?_) ?_
  · refine XS.astore X11.here hx rfl (hb hby d7_21) rfl rfl (l' := #[sR o0, sR o1, .val (.double d2), .second, sI 1, sI (-1), sR b11_0, sI 2, sI 2, sI xb]) rfl ?_
    refine XS.aload X11.here hx rfl (hb hby d7_23) rfl rfl ?_
    refine AV.len f11_7 X11 hx hZ rfl (hb hby d7_25) ?_
    refine XS.istore X11.here hx rfl (hb hby d7_26) rfl (l' := #[sR o0, sR o1, .val (.double d2), .second, sI 1, sI (-1), sR b11_0, sI 1, sI 2, sI xb]) rfl ?_
    refine XS.iconst X11.here hx rfl (hb hby d7_28) ?_
    refine XS.istore X11.here hx rfl (hb hby d7_29) rfl (l' := #[sR o0, sR o1, .val (.double d2), .second, sI 1, sI (-1), sR b11_0, sI 1, sI 0, sI xb]) rfl ?_
    refine XS.iload X11.here hx rfl (hb hby d7_31) rfl ?_
    refine XS.iload X11.here hx rfl (hb hby d7_33) rfl ?_
    refine XS.icmpNo X11.here hx rfl (hb hby d7_35) rfl (tlt (by decide)).2.1 ?_
    refine XS.aload X11.here hx rfl (hb hby d7_38) rfl rfl ?_
    refine XS.iload X11.here hx rfl (hb hby d7_40) rfl ?_
    refine AV.iaload f11_7 X11 hx hZ rfl (j := (0 : Int32)) (by decide) (hb hby d7_42) ?_
    refine XS.istore X11.here hx rfl (hb hby d7_43) rfl (l' := #[sR o0, sR o1, .val (.double d2), .second, sI 1, sI (-1), sR b11_0, sI 1, sI 0, sI ((fun _ => xc) (0 : Int32).toNatClampNeg)]) rfl ?_
    exact kZ
  show Go p e below _ (T11.setTop (mkF m 45 #[sR o0, sR o1, .val (.double d2), .second, sI 1, sI (-1), sR b11_0, sI 1, sI 0, sI xc] []))
  refine Vi (T11.setTop (mkF m 46 #[sR o0, sR o1, .val (.double d2), .second, sI 1, sI (-1), sR b11_0, sI 1, sI 0, sI xc] [(.ref o0)])) (fun tZ kZ => ?_) ?_
  · refine XS.aloadN X11.here hx rfl (hb hby d7_45) rfl rfl ?_
    exact kZ
  refine GF X11 hx hZ hown (wq hw 40 rfl) rfl c12_1 (hb hby d7_46) fun T13 X13 e13 => ?_
  refine Vi (T13.setTop (mkF m 63 #[sR o0, sR o1, .val (.double d2), .second, sI 1, sI (-1), sR b11_0, sI 1, sI 0, sI xc] [(.double (FP.dadd (((own_d1 (own_d1 g 0 0 xa.toNatClampNeg d2) 0 (xa + (1 : Int32)).toNatClampNeg xb.toNatClampNeg d2) 1 0) xc.toNatClampNeg) d2)), (.int xc), (.ref (dA + 2 + 5 * 1 + 0))])) (fun tZ kZ => ?_) ?_
  · refine XS.iload X13.here hx rfl (hb hby d7_49) rfl ?_
    refine AV.aaload c12_2.top rfl X13 hx hZ e13 (j := (1 : Int32)) (by decide) (hb hby d7_51) ?_
    refine XS.iload X13.here hx rfl (hb hby d7_52) rfl ?_
    refine XS.iconst X13.here hx rfl (hb hby d7_54) ?_
    refine XS.iadd X13.here hx rfl (hb hby d7_55) rfl ?_
    refine AV.aaload (c12_2.row 1 (by decide)) rfl X13 hx hZ e13 (j := (0 : Int32)) (by decide) (hb hby d7_56) ?_
    refine XS.iload X13.here hx rfl (hb hby d7_57) rfl ?_
    refine Jvm.Free.XT.dup2 X13.here hx rfl (hb hby d7_59) rfl rfl rfl ?_
    refine AV.daload (c12_2.cell 1 0 (by decide) (by decide)) X13 hx hZ e13 (j := xc) (own_x3 hc_) (hb hby d7_60) ?_
    refine XS.dloadN X13.here hx rfl (hb hby d7_61) rfl ?_
    refine XS.daddS X13.here hx rfl (hb hby d7_62) rfl (own_add (gb9 _ _ _) (hamt.mono (by decide)) (by decide)) rfl ?_
    exact kZ
  obtain ⟨T14, h14, X14, e14, W14, V14, st14⟩ := AV.dastore (c12_2.cell 1 0 (by decide) (by decide)) X13 hx hZ e13 (j := xc) (own_x3 hc_) (Ls := #[sR o0, sR o1, .val (.double d2), .second, sI 1, sI (-1), sR b11_0, sI 1, sI 0, sI xc]) (rest := []) (hb hby d7_63) (x := (FP.dadd (((own_d1 (own_d1 g 0 0 xa.toNatClampNeg d2) 0 (xa + (1 : Int32)).toNatClampNeg xb.toNatClampNeg d2) 1 0) xc.toNatClampNeg) d2))
  have N14 := Fr.snoc X14 N11 (Nat.le_trans ha3 (show dA ≤ (dA + 2 + 5 * 1 + 0) by omega))
  have c15_0 := c12_0.wr W14
  have c15_1 := c12_1.other W14 (Or.inl (own_na (by omega)))
  have c15_2 := c12_2
  have c15_4 := f11_0.wr W14
  have c15_5 := f11_1.other W14 (Or.inl (own_na (by omega)))
  have c15_6 := f11_2.other W14 (own_na (by omega))
  have c15_7 := f11_3.wr W14
  have c15_8 := f11_4.other W14 (own_na (by omega))
  have c15_9 := f11_5.wr W14
  have c15_10 := f11_6.other W14 (own_na (by omega))
  have c15_11 := c12_11.other W14 (own_na (by omega))
  have c15_12 := c12_12.wr W14
  have c15_14 := f11_7.other W14 (own_na (by omega))
  have c15_15 := f11_8.wr W14
  have K14 : Keep h0 h14 [(dA + 2 + 5 * 0 + 0), (dA + 2 + 5 * 0 + (xa + (1 : Int32)).toNatClampNeg), (dA + 2 + 5 * 1 + 0)] := K11.wr W14 (Or.inl (by simp))
  have Z14 := Nat.le_trans Z11 (Keep.of_wr W14).1
  have gb15 : GB 1066 (own_d1 (own_d1 (own_d1 g 0 0 xa.toNatClampNeg d2) 0 (xa + (1 : Int32)).toNatClampNeg xb.toNatClampNeg d2) 1 0 xc.toNatClampNeg d2) := gb9.d1 _ _ _ (hamt.mono (by decide)) (by decide)
  have Gw14 : Gd Z h14 dA (own_d1 (own_d1 (own_d1 g 0 0 xa.toNatClampNeg d2) 0 (xa + (1 : Int32)).toNatClampNeg xb.toNatClampNeg d2) 1 0 xc.toNatClampNeg d2) := (Gd.set c12_2 1 0 (by decide) (by decide) W14 V14).congr (fun _ _ _ _ _ _ => rfl)
  refine Go.via st14 ?_
  refine Vi (T14.setTop (mkF m 6 #[sR o0, sR o1, .val (.double d2), .second, sI 2, sI xc, sR b11_0, sI 1, sI 1, sI xc] [(.ref o1), (.int 2)])) (fun tZ kZ => ?_) ?_
  · refine XS.iload X14.here hx rfl (hb hby d7_64) rfl ?_
    refine XS.istore X14.here hx rfl (hb hby d7_66) rfl (l' := #[sR o0, sR o1, .val (.double d2), .second, sI 1, sI xc, sR b11_0, sI 1, sI 0, sI xc]) rfl ?_
    refine XS.iinc X14.here hx rfl (hb hby d7_68) rfl (l' := #[sR o0, sR o1, .val (.double d2), .second, sI 1, sI xc, sR b11_0, sI 1, sI 1, sI xc]) rfl ?_
    refine XS.goto X14.here hx rfl (pc0 := 71) (pc' := 31) rfl (hb hby d7_71) (by decide) (by decide) ?_
    refine XS.iload X14.here hx rfl (hb hby d7_31) rfl ?_
    refine XS.iload X14.here hx rfl (hb hby d7_33) rfl ?_
    refine XS.icmpYes X14.here hx rfl (pc0 := 35) (pc' := 74) rfl (hb hby d7_35) rfl (flt (by decide)).2.1 (by decide) (by decide) ?_
    refine XS.iinc X14.here hx rfl (hb hby d7_74) rfl (l' := #[sR o0, sR o1, .val (.double d2), .second, sI 2, sI xc, sR b11_0, sI 1, sI 1, sI xc]) rfl ?_
    refine XS.goto X14.here hx rfl (pc0 := 77) (pc' := 3) rfl (hb hby d7_77) (by decide) (by decide) ?_
    refine XS.iload X14.here hx rfl (hb hby d7_3) rfl ?_
    refine XS.aloadN X14.here hx rfl (hb hby d7_5) rfl rfl ?_
    exact kZ
  obtain ⟨cq16, kq16, q16a, q16b, q16c⟩ := isOf hZ e14 c15_4
  obtain ⟨_, _, ⟨T16, L16, k16, n16⟩, -, X16, ⟨Lc16, hQ16, l16, y16, z16⟩, st16⟩ := X14.virtualBack hx (y := y8) (z := y8) hown (wz hZ hw 61 rfl) (wz hZ hw 62 rfl) (notFace_of_selects (args := #[]) (wz hZ hw 64 rfl)) (wz hZ hw 64 rfl) (wz hZ hw 63 rfl) (by decide) (backOf (W := 1) (rm8 l Z a0 hw [] o1 qA cA eA h14 n0 Z14 c15_4 c15_5 c15_6) hZ (wq hw 65 rfl) (wq hw 8 rfl) (by decide) (by decide)) q16a q16c (g := (mkF m 6 #[sR o0, sR o1, .val (.double d2), .second, sI 2, sI xc, sR b11_0, sI 1, sI 1, sI xc] [(.ref o1), (.int 2)])) rfl (by rw [hml]; rfl) (Steps.refl _) (argsL := []) (rest := [(.int 2)]) (lenOf pd_7 rfl) rfl (leW rfl) (hb hby d7_6) (fun _ _ => ⟨rfl, e14, (by decide : 0 + 0 + 1 + 0 + 1 + 0 ≤ _), (by decide : 0 + 0 + 2 + 0 + 2 + 0 ≤ _)⟩)
  dsimp only [Pt.U, Pt.locs, Pt.cells, Pt.slots] at X16 l16 y16 z16 st16 hQ16
  subst l16 y16 z16
  obtain ⟨rfl, N16q, e16⟩ := hQ16
  have N16 := Fr.app N14 N16q
  refine Go.via (fun t k => st16.trans k) ?_
  refine Vi (T16.setTop (mkF m 80 #[sR o0, sR o1, .val (.double d2), .second, sI 2, sI xc, sR b11_0, sI 1, sI 1, sI xc] [])) (fun tZ kZ => ?_) ?_
  · refine XS.icmpYes X16.here hx rfl (pc0 := 9) (pc' := 80) rfl (hb hby d7_9) rfl (flt (by show ¬ (2 : Int32) < 2; decide)).2.1 (by decide) (by decide) ?_
    exact kZ
  refine Go.retV X16 hx Bd.notSynchronized Bd.returns (hb hby d7_80) (by decide) (by decide) ?_
  rw [e16]
  exact ⟨rfl, N16, K14, c15_0, c15_1, Gw14, c15_4, c15_5, c15_6, c15_7, c15_8, c15_9, c15_10⟩
def Q7b (Z : State) (o0 : Nat) (o1 : Nat) (d2 : UInt64) (dA : Nat) (g : Nat → Nat → Nat → UInt64) (qA : Nat) (cA : Nat) (eA : Nat) (xa : Int32) (xb : Int32) (h0 : Heap) (n0 : Nat) (v : Option Value) (h : Heap) (L : List Loc) : Prop := v = none ∧ Fr n0 L ∧ Keep h0 h [(dA + 2 + 5 * 0 + 0), (dA + 2 + 5 * 0 + (xa + (1 : Int32)).toNatClampNeg)] ∧ Exa Z h o0 "com/example/muster/muster/solvers/Pheromone" ∧ Fld Z h o0 "com/example/muster/muster/solvers/Pheromone" "deposited" "[[[D" (.ref dA) ∧ Gd Z h dA (own_d1 (own_d1 g 0 0 xa.toNatClampNeg d2) 0 (xa + (1 : Int32)).toNatClampNeg xb.toNatClampNeg d2) ∧ Exa Z h o1 "com/example/muster/muster/core/MpdaPlan" ∧ Fld Z h o1 "com/example/muster/muster/core/MpdaPlan" "routes" "[[I" (.ref qA) ∧ AV Z h qA (.array .int) 2 (own_b2 cA eA) ∧ Exa Z h cA "[I" ∧ AV Z h cA .int 2 (fun k => .int ((own_2 xa xb) k)) ∧ Exa Z h eA "[I" ∧ AV Z h eA .int 0 (fun k => .int ((fun _ => (0 : Int32)) k))
theorem rm7b (l : Launch) (Z : State) (a0 : Array Value) (hw : HW a0 Z) (ws : List Jvm.Cond) (o0 : Nat) (o1 : Nat) (d2 : UInt64) (dA : Nat) (g : Nat → Nat → Nat → UInt64) (qA : Nat) (cA : Nat) (eA : Nat) (xa : Int32) (xb : Int32) (h0 : Heap) (n0 : Nat) (Z0 : n0 ≤ h0.size) (ha0 : Exa Z h0 o0 "com/example/muster/muster/solvers/Pheromone") (ha1 : Fld Z h0 o0 "com/example/muster/muster/solvers/Pheromone" "deposited" "[[[D" (.ref dA)) (ha2 : Gd Z h0 dA g) (ha3 : n0 ≤ dA) (ha4 : Exa Z h0 o1 "com/example/muster/muster/core/MpdaPlan") (ha5 : Fld Z h0 o1 "com/example/muster/muster/core/MpdaPlan" "routes" "[[I" (.ref qA)) (ha6 : AV Z h0 qA (.array .int) 2 (own_b2 cA eA)) (ha7 : Exa Z h0 cA "[I") (ha8 : AV Z h0 cA .int 2 (fun k => .int ((own_2 xa xb) k))) (ha9 : Exa Z h0 eA "[I") (ha10 : AV Z h0 eA .int 0 (fun k => .int ((fun _ => (0 : Int32)) k))) (ha : xa = 0 ∨ xa = 1 ∨ xa = 2) (hb_ : xb = 0 ∨ xb = 1 ∨ xb = 2) (ho0 : o0 < dA ∨ dA + 11 ≤ o0) (ho_o1 : o1 < dA ∨ dA + 11 ≤ o1) (ho_qA : qA < dA ∨ dA + 11 ≤ qA) (ho_cA : cA < dA ∨ dA + 11 ≤ cA) (ho_eA : eA < dA ∨ dA + 11 ≤ eA) (hg0 : GB 1060 g) (hamt : Jvm.Free.Fl.Mag64 1060 d2) :
    MetFree l y7 (head1 (Jvm.Cond.code y7 prog_48_method_4_code 10 none :: ws) RM_2_2_4_27) (fun a U => a = #[(.ref o0), (.ref o1), (.double d2)] ∧ Z.Warmed39 U.vm ∧ U.heap = h0) (fun _ _ _ _ _ => True) (fun _ U o U' => ∃ v L, o = .returned v ∧ Q7b Z o0 o1 d2 dA g qA cA eA xa xb h0 n0 v U'.heap L ∧ FrameEnd U o U' L RM_2_2_4_27.cells RM_2_2_4_27.slots) := by
  refine MetFree.of_bodySF (plainFor_of_name pn_1) hisR ?_
  intro p e s m args below meth c s₁ Bd hml0 hP hK
  obtain ⟨rfl, hZ, hh⟩ := hP
  have hx := Bd.exec
  have hby := Bd.bytes
  have hml : c.maxLocals = 10 := hml0
  have hown : s.vm.findClass "com/example/muster/muster/solvers/Pheromone" = some m.cls := findClass_of_methodNamed Bd.named
  have X0 : Stand p l e RM_2_2_4_27 s m _ below meth c s₁ [] 0 0 := Stand.of_body Bd
  have e0 : s₁.heap = h0 := by rw [← hh, Bd.state]; rfl
  have N0 := Fr.nil n0
  refine Go.into (P := fun oo uu => ∃ v L, oo = .returned v ∧ Q7b Z o0 o1 d2 dA g qA cA eA xa xb h0 n0 v uu.heap L ∧ FrameEnd s oo uu L RM_2_2_4_27.cells RM_2_2_4_27.slots) (ef_7_aaa m o0 o1 d2) ?_
  show Go p e below _ (s₁.setTop (mkF m 0 #[sR o0, sR o1, .val (.double d2), .second, .unset, .unset, .unset, .unset, .unset, .unset] []))
  have q1 := (own_p1 ha).2
  refine Vi (s₁.setTop (mkF m 6 #[sR o0, sR o1, .val (.double d2), .second, sI 0, .unset, .unset, .unset, .unset, .unset] [(.ref o1), (.int 0)])) (fun tZ kZ => ?_) ?_
  · refine XS.iconst X0.here hx rfl (hb hby d7_0) ?_
    refine XS.istore X0.here hx rfl (hb hby d7_1) rfl (l' := #[sR o0, sR o1, .val (.double d2), .second, sI 0, .unset, .unset, .unset, .unset, .unset]) rfl ?_
    refine XS.iload X0.here hx rfl (hb hby d7_3) rfl ?_
    refine XS.aloadN X0.here hx rfl (hb hby d7_5) rfl rfl ?_
    exact kZ
  obtain ⟨cq1, kq1, q1a, q1b, q1c⟩ := isOf hZ e0 ha4
  obtain ⟨_, _, ⟨T1, L1, k1, n1⟩, -, X1, ⟨Lc1, hQ1, l1, y1, z1⟩, st1⟩ := X0.virtualBack hx (y := y8) (z := y8) hown (wz hZ hw 61 rfl) (wz hZ hw 62 rfl) (notFace_of_selects (args := #[]) (wz hZ hw 64 rfl)) (wz hZ hw 64 rfl) (wz hZ hw 63 rfl) (by decide) (backOf (W := 1) (rm8 l Z a0 hw [] o1 qA cA eA h0 n0 Z0 ha4 ha5 ha6) hZ (wq hw 65 rfl) (wq hw 8 rfl) (by decide) (by decide)) q1a q1c (g := (mkF m 6 #[sR o0, sR o1, .val (.double d2), .second, sI 0, .unset, .unset, .unset, .unset, .unset] [(.ref o1), (.int 0)])) rfl (by rw [hml]; rfl) (Steps.refl _) (argsL := []) (rest := [(.int 0)]) (lenOf pd_7 rfl) rfl (leW rfl) (hb hby d7_6) (fun _ _ => ⟨rfl, e0, (by decide : 0 + 0 ≤ _), (by decide : 0 + 0 ≤ _)⟩)
  dsimp only [Pt.U, Pt.locs, Pt.cells, Pt.slots] at X1 l1 y1 z1 st1 hQ1
  subst l1 y1 z1
  obtain ⟨rfl, N1q, e1⟩ := hQ1
  have N1 := Fr.app N0 N1q
  refine Go.via (fun t k => st1.trans k) ?_
  refine Vi (T1.setTop (mkF m 18 #[sR o0, sR o1, .val (.double d2), .second, sI 0, sI (-1), .unset, .unset, .unset, .unset] [(.int 0), (.ref o1)])) (fun tZ kZ => ?_) ?_
  · refine XS.icmpNo X1.here hx rfl (hb hby d7_9) rfl (tlt (by show (0 : Int32) < 2; decide)).2.1 ?_
    refine XS.iconst X1.here hx rfl (hb hby d7_12) ?_
    refine XS.istore X1.here hx rfl (hb hby d7_13) rfl (l' := #[sR o0, sR o1, .val (.double d2), .second, sI 0, sI (-1), .unset, .unset, .unset, .unset]) rfl ?_
    refine XS.aloadN X1.here hx rfl (hb hby d7_15) rfl rfl ?_
    refine XS.iload X1.here hx rfl (hb hby d7_16) rfl ?_
    exact kZ
  obtain ⟨cq2, kq2, q2a, q2b, q2c⟩ := isOf hZ e1 ha4
  obtain ⟨_, _, ⟨T2, L2, k2, n2⟩, -, X2, ⟨Lc2, hQ2, l2, y2, z2⟩, st2⟩ := X1.virtualBack hx (y := y9) (z := y9) hown (wz hZ hw 66 rfl) (wz hZ hw 67 rfl) (notFace_of_selects (args := #[]) (wz hZ hw 69 rfl)) (wz hZ hw 69 rfl) (wz hZ hw 68 rfl) (by decide) (backOf (W := 0) (rm90b l Z a0 hw [] o1 qA cA eA xa xb h0 n0 Z0 ha4 ha5 ha6 ha7 ha8 ha9 ha10) hZ (wq hw 70 rfl) (wq hw 8 rfl) (by decide) (by decide)) q2a q2c (g := (mkF m 18 #[sR o0, sR o1, .val (.double d2), .second, sI 0, sI (-1), .unset, .unset, .unset, .unset] [(.int 0), (.ref o1)])) rfl (by rw [hml]; rfl) (Steps.refl _) (argsL := [(.int 0)]) (rest := []) (lenOf pd_8 rfl) rfl (leW rfl) (hb hby d7_18) (fun _ _ => ⟨rfl, e1, (by decide : 0 + 0 + 1 ≤ _), (by decide : 0 + 0 + 2 ≤ _)⟩)
  dsimp only [Pt.U, Pt.locs, Pt.cells, Pt.slots] at X2 l2 y2 z2 st2 hQ2
  subst l2 y2 z2
  obtain ⟨b2_0, rfl, N2q, hz_b2_0, Kq2, f2_0, f2_1, f2_2, f2_3, f2_4, f2_5, f2_6, f2_7, f2_8⟩ := hQ2
  have g_b2_0 : n0 ≤ b2_0 := Nat.le_trans Z0 hz_b2_0
  have sz_b2_0 : h0.size ≤ b2_0 := Nat.le_trans ((Keep.refl h0 [(dA + 2 + 5 * 0 + 0), (dA + 2 + 5 * 0 + (xa + (1 : Int32)).toNatClampNeg)])).1 hz_b2_0
  have ne_o0_b2_0 : o0 ≠ b2_0 := Nat.ne_of_lt (Nat.lt_of_lt_of_le ha0.lt hz_b2_0)
  have ne_o1_b2_0 : o1 ≠ b2_0 := Nat.ne_of_lt (Nat.lt_of_lt_of_le ha4.lt hz_b2_0)
  have ne_qA_b2_0 : qA ≠ b2_0 := Nat.ne_of_lt (Nat.lt_of_lt_of_le ha6.lt hz_b2_0)
  have ne_cA_b2_0 : cA ≠ b2_0 := Nat.ne_of_lt (Nat.lt_of_lt_of_le ha7.lt hz_b2_0)
  have ne_eA_b2_0 : eA ≠ b2_0 := Nat.ne_of_lt (Nat.lt_of_lt_of_le ha9.lt hz_b2_0)
  have lt_o0_b2_0 : (o0 : Nat) < b2_0 := Nat.lt_of_lt_of_le ha0.lt hz_b2_0
  have lt_dA_b2_0 : (dA : Nat) + 11 ≤ b2_0 := Nat.le_trans ha2.lt hz_b2_0
  have lt_o1_b2_0 : (o1 : Nat) < b2_0 := Nat.lt_of_lt_of_le ha4.lt hz_b2_0
  have lt_qA_b2_0 : (qA : Nat) < b2_0 := Nat.lt_of_lt_of_le ha6.lt hz_b2_0
  have lt_cA_b2_0 : (cA : Nat) < b2_0 := Nat.lt_of_lt_of_le ha7.lt hz_b2_0
  have lt_eA_b2_0 : (eA : Nat) < b2_0 := Nat.lt_of_lt_of_le ha9.lt hz_b2_0
  have c3_0 := ha0.keep Kq2
  have c3_1 := ha1.keep Kq2 nin0
  have c3_2 := ha2.keep Kq2 all0
  have K2 : Keep h0 T2.heap [(dA + 2 + 5 * 0 + 0), (dA + 2 + 5 * 0 + (xa + (1 : Int32)).toNatClampNeg)] := (Keep.refl h0 [(dA + 2 + 5 * 0 + 0), (dA + 2 + 5 * 0 + (xa + (1 : Int32)).toNatClampNeg)]).trans Kq2 all0
  have Z2 := Nat.le_trans Z0 Kq2.1
  have N2 := Fr.app N1 N2q
  refine Go.via (fun t k => st2.trans k) ?_
  refine Vi (T2.setTop (mkF m 45 #[sR o0, sR o1, .val (.double d2), .second, sI 0, sI (-1), sR b2_0, sI 2, sI 0, sI ((own_2 xa xb) (0 : Int32).toNatClampNeg)] [])) (fun tZ kZ => ?_) ?_
  · refine XS.astore X2.here hx rfl (hb hby d7_21) rfl rfl (l' := #[sR o0, sR o1, .val (.double d2), .second, sI 0, sI (-1), sR b2_0, .unset, .unset, .unset]) rfl ?_
    refine XS.aload X2.here hx rfl (hb hby d7_23) rfl rfl ?_
    refine AV.len f2_7 X2 hx hZ rfl (hb hby d7_25) ?_
    refine XS.istore X2.here hx rfl (hb hby d7_26) rfl (l' := #[sR o0, sR o1, .val (.double d2), .second, sI 0, sI (-1), sR b2_0, sI 2, .unset, .unset]) rfl ?_
    refine XS.iconst X2.here hx rfl (hb hby d7_28) ?_
    refine XS.istore X2.here hx rfl (hb hby d7_29) rfl (l' := #[sR o0, sR o1, .val (.double d2), .second, sI 0, sI (-1), sR b2_0, sI 2, sI 0, .unset]) rfl ?_
    refine XS.iload X2.here hx rfl (hb hby d7_31) rfl ?_
    refine XS.iload X2.here hx rfl (hb hby d7_33) rfl ?_
    refine XS.icmpNo X2.here hx rfl (hb hby d7_35) rfl (tlt (by decide)).2.1 ?_
    refine XS.aload X2.here hx rfl (hb hby d7_38) rfl rfl ?_
    refine XS.iload X2.here hx rfl (hb hby d7_40) rfl ?_
    refine AV.iaload f2_7 X2 hx hZ rfl (j := (0 : Int32)) (by decide) (hb hby d7_42) ?_
    refine XS.istore X2.here hx rfl (hb hby d7_43) rfl (l' := #[sR o0, sR o1, .val (.double d2), .second, sI 0, sI (-1), sR b2_0, sI 2, sI 0, sI ((own_2 xa xb) (0 : Int32).toNatClampNeg)]) rfl ?_
    exact kZ
  show Go p e below _ (T2.setTop (mkF m 45 #[sR o0, sR o1, .val (.double d2), .second, sI 0, sI (-1), sR b2_0, sI 2, sI 0, sI xa] []))
  refine Vi (T2.setTop (mkF m 46 #[sR o0, sR o1, .val (.double d2), .second, sI 0, sI (-1), sR b2_0, sI 2, sI 0, sI xa] [(.ref o0)])) (fun tZ kZ => ?_) ?_
  · refine XS.aloadN X2.here hx rfl (hb hby d7_45) rfl rfl ?_
    exact kZ
  refine GF X2 hx hZ hown (wq hw 40 rfl) rfl c3_1 (hb hby d7_46) fun T4 X4 e4 => ?_
  refine Vi (T4.setTop (mkF m 63 #[sR o0, sR o1, .val (.double d2), .second, sI 0, sI (-1), sR b2_0, sI 2, sI 0, sI xa] [(.double (FP.dadd ((g 0 0) xa.toNatClampNeg) d2)), (.int xa), (.ref (dA + 2 + 5 * 0 + 0))])) (fun tZ kZ => ?_) ?_
  · refine XS.iload X4.here hx rfl (hb hby d7_49) rfl ?_
    refine AV.aaload c3_2.top rfl X4 hx hZ e4 (j := (0 : Int32)) (by decide) (hb hby d7_51) ?_
    refine XS.iload X4.here hx rfl (hb hby d7_52) rfl ?_
    refine XS.iconst X4.here hx rfl (hb hby d7_54) ?_
    refine XS.iadd X4.here hx rfl (hb hby d7_55) rfl ?_
    refine AV.aaload (c3_2.row 0 (by decide)) rfl X4 hx hZ e4 (j := (0 : Int32)) (by decide) (hb hby d7_56) ?_
    refine XS.iload X4.here hx rfl (hb hby d7_57) rfl ?_
    refine Jvm.Free.XT.dup2 X4.here hx rfl (hb hby d7_59) rfl rfl rfl ?_
    refine AV.daload (c3_2.cell 0 0 (by decide) (by decide)) X4 hx hZ e4 (j := xa) (own_x3 ha) (hb hby d7_60) ?_
    refine XS.dloadN X4.here hx rfl (hb hby d7_61) rfl ?_
    refine XS.daddS X4.here hx rfl (hb hby d7_62) rfl (own_add (hg0 _ _ _) (hamt.mono (by decide)) (by decide)) rfl ?_
    exact kZ
  obtain ⟨T5, h5, X5, e5, W5, V5, st5⟩ := AV.dastore (c3_2.cell 0 0 (by decide) (by decide)) X4 hx hZ e4 (j := xa) (own_x3 ha) (Ls := #[sR o0, sR o1, .val (.double d2), .second, sI 0, sI (-1), sR b2_0, sI 2, sI 0, sI xa]) (rest := []) (hb hby d7_63) (x := (FP.dadd ((g 0 0) xa.toNatClampNeg) d2))
  have N5 := Fr.snoc X5 N2 (Nat.le_trans ha3 (show dA ≤ (dA + 2 + 5 * 0 + 0) by omega))
  have c6_0 := c3_0.wr W5
  have c6_1 := c3_1.other W5 (Or.inl (own_na (by omega)))
  have c6_2 := c3_2
  have c6_4 := f2_0.wr W5
  have c6_5 := f2_1.other W5 (Or.inl (own_na (by omega)))
  have c6_6 := f2_2.other W5 (own_na (by omega))
  have c6_7 := f2_3.wr W5
  have c6_8 := f2_4.other W5 (own_na (by omega))
  have c6_9 := f2_5.wr W5
  have c6_10 := f2_6.other W5 (own_na (by omega))
  have c6_11 := f2_7.other W5 (own_na (by omega))
  have c6_12 := f2_8.wr W5
  have K5 : Keep h0 h5 [(dA + 2 + 5 * 0 + 0), (dA + 2 + 5 * 0 + (xa + (1 : Int32)).toNatClampNeg)] := K2.wr W5 (Or.inl (by simp))
  have Z5 := Nat.le_trans Z2 (Keep.of_wr W5).1
  have gb6 : GB 1062 (own_d1 g 0 0 xa.toNatClampNeg d2) := hg0.d1 _ _ _ (hamt.mono (by decide)) (by decide)
  have Gw5 : Gd Z h5 dA (own_d1 g 0 0 xa.toNatClampNeg d2) := (Gd.set c3_2 0 0 (by decide) (by decide) W5 V5).congr (fun _ _ _ _ _ _ => rfl)
  refine Go.via st5 ?_
  refine Vi (T5.setTop (mkF m 45 #[sR o0, sR o1, .val (.double d2), .second, sI 0, sI xa, sR b2_0, sI 2, sI 1, sI ((own_2 xa xb) (1 : Int32).toNatClampNeg)] [])) (fun tZ kZ => ?_) ?_
  · refine XS.iload X5.here hx rfl (hb hby d7_64) rfl ?_
    refine XS.istore X5.here hx rfl (hb hby d7_66) rfl (l' := #[sR o0, sR o1, .val (.double d2), .second, sI 0, sI xa, sR b2_0, sI 2, sI 0, sI xa]) rfl ?_
    refine XS.iinc X5.here hx rfl (hb hby d7_68) rfl (l' := #[sR o0, sR o1, .val (.double d2), .second, sI 0, sI xa, sR b2_0, sI 2, sI 1, sI xa]) rfl ?_
    refine XS.goto X5.here hx rfl (pc0 := 71) (pc' := 31) rfl (hb hby d7_71) (by decide) (by decide) ?_
    refine XS.iload X5.here hx rfl (hb hby d7_31) rfl ?_
    refine XS.iload X5.here hx rfl (hb hby d7_33) rfl ?_
    refine XS.icmpNo X5.here hx rfl (hb hby d7_35) rfl (tlt (by decide)).2.1 ?_
    refine XS.aload X5.here hx rfl (hb hby d7_38) rfl rfl ?_
    refine XS.iload X5.here hx rfl (hb hby d7_40) rfl ?_
    refine AV.iaload c6_11 X5 hx hZ e5 (j := (1 : Int32)) (by decide) (hb hby d7_42) ?_
    refine XS.istore X5.here hx rfl (hb hby d7_43) rfl (l' := #[sR o0, sR o1, .val (.double d2), .second, sI 0, sI xa, sR b2_0, sI 2, sI 1, sI ((own_2 xa xb) (1 : Int32).toNatClampNeg)]) rfl ?_
    exact kZ
  show Go p e below _ (T5.setTop (mkF m 45 #[sR o0, sR o1, .val (.double d2), .second, sI 0, sI xa, sR b2_0, sI 2, sI 1, sI xb] []))
  refine Vi (T5.setTop (mkF m 46 #[sR o0, sR o1, .val (.double d2), .second, sI 0, sI xa, sR b2_0, sI 2, sI 1, sI xb] [(.ref o0)])) (fun tZ kZ => ?_) ?_
  · refine XS.aloadN X5.here hx rfl (hb hby d7_45) rfl rfl ?_
    exact kZ
  refine GF X5 hx hZ hown (wq hw 40 rfl) e5 c6_1 (hb hby d7_46) fun T7 X7 e7 => ?_
  refine Vi (T7.setTop (mkF m 63 #[sR o0, sR o1, .val (.double d2), .second, sI 0, sI xa, sR b2_0, sI 2, sI 1, sI xb] [(.double (FP.dadd (((own_d1 g 0 0 xa.toNatClampNeg d2) 0 (xa + (1 : Int32)).toNatClampNeg) xb.toNatClampNeg) d2)), (.int xb), (.ref (dA + 2 + 5 * 0 + (xa + (1 : Int32)).toNatClampNeg))])) (fun tZ kZ => ?_) ?_
  · refine XS.iload X7.here hx rfl (hb hby d7_49) rfl ?_
    refine AV.aaload Gw5.top rfl X7 hx hZ e7 (j := (0 : Int32)) (by decide) (hb hby d7_51) ?_
    refine XS.iload X7.here hx rfl (hb hby d7_52) rfl ?_
    refine XS.iconst X7.here hx rfl (hb hby d7_54) ?_
    refine XS.iadd X7.here hx rfl (hb hby d7_55) rfl ?_
    refine AV.aaload (Gw5.row 0 (by decide)) rfl X7 hx hZ e7 (j := (xa + (1 : Int32))) (own_p1 ha) (hb hby d7_56) ?_
    refine XS.iload X7.here hx rfl (hb hby d7_57) rfl ?_
    refine Jvm.Free.XT.dup2 X7.here hx rfl (hb hby d7_59) rfl rfl rfl ?_
    refine AV.daload (Gw5.cell 0 (xa + (1 : Int32)).toNatClampNeg (by decide) (own_p1 ha).2) X7 hx hZ e7 (j := xb) (own_x3 hb_) (hb hby d7_60) ?_
    refine XS.dloadN X7.here hx rfl (hb hby d7_61) rfl ?_
    refine XS.daddS X7.here hx rfl (hb hby d7_62) rfl (own_add (gb6 _ _ _) (hamt.mono (by decide)) (by decide)) rfl ?_
    exact kZ
  obtain ⟨T8, h8, X8, e8, W8, V8, st8⟩ := AV.dastore (Gw5.cell 0 (xa + (1 : Int32)).toNatClampNeg (by decide) (own_p1 ha).2) X7 hx hZ e7 (j := xb) (own_x3 hb_) (Ls := #[sR o0, sR o1, .val (.double d2), .second, sI 0, sI xa, sR b2_0, sI 2, sI 1, sI xb]) (rest := []) (hb hby d7_63) (x := (FP.dadd (((own_d1 g 0 0 xa.toNatClampNeg d2) 0 (xa + (1 : Int32)).toNatClampNeg) xb.toNatClampNeg) d2))
  have N8 := Fr.snoc X8 N5 (Nat.le_trans ha3 (show dA ≤ (dA + 2 + 5 * 0 + (xa + (1 : Int32)).toNatClampNeg) by omega))
  have c9_0 := c6_0.wr W8
  have c9_1 := c6_1.other W8 (Or.inl (own_na (by omega)))
  have c9_2 := Gw5
  have c9_4 := c6_4.wr W8
  have c9_5 := c6_5.other W8 (Or.inl (own_na (by omega)))
  have c9_6 := c6_6.other W8 (own_na (by omega))
  have c9_7 := c6_7.wr W8
  have c9_8 := c6_8.other W8 (own_na (by omega))
  have c9_9 := c6_9.wr W8
  have c9_10 := c6_10.other W8 (own_na (by omega))
  have c9_11 := c6_11.other W8 (own_na (by omega))
  have c9_12 := c6_12.wr W8
  have K8 : Keep h0 h8 [(dA + 2 + 5 * 0 + 0), (dA + 2 + 5 * 0 + (xa + (1 : Int32)).toNatClampNeg)] := K5.wr W8 (Or.inl (by simp))
  have Z8 := Nat.le_trans Z5 (Keep.of_wr W8).1
  have gb9 : GB 1064 (own_d1 (own_d1 g 0 0 xa.toNatClampNeg d2) 0 (xa + (1 : Int32)).toNatClampNeg xb.toNatClampNeg d2) := gb6.d1 _ _ _ (hamt.mono (by decide)) (by decide)
  have Gw8 : Gd Z h8 dA (own_d1 (own_d1 g 0 0 xa.toNatClampNeg d2) 0 (xa + (1 : Int32)).toNatClampNeg xb.toNatClampNeg d2) := (Gd.set Gw5 0 (xa + (1 : Int32)).toNatClampNeg (by decide) (own_p1 ha).2 W8 V8).congr (fun _ _ _ _ _ _ => rfl)
  refine Go.via st8 ?_
  refine Vi (T8.setTop (mkF m 6 #[sR o0, sR o1, .val (.double d2), .second, sI 1, sI xb, sR b2_0, sI 2, sI 2, sI xb] [(.ref o1), (.int 1)])) (fun tZ kZ => ?_) ?_
  · refine XS.iload X8.here hx rfl (hb hby d7_64) rfl ?_
    refine XS.istore X8.here hx rfl (hb hby d7_66) rfl (l' := #[sR o0, sR o1, .val (.double d2), .second, sI 0, sI xb, sR b2_0, sI 2, sI 1, sI xb]) rfl ?_
    refine XS.iinc X8.here hx rfl (hb hby d7_68) rfl (l' := #[sR o0, sR o1, .val (.double d2), .second, sI 0, sI xb, sR b2_0, sI 2, sI 2, sI xb]) rfl ?_
    refine XS.goto X8.here hx rfl (pc0 := 71) (pc' := 31) rfl (hb hby d7_71) (by decide) (by decide) ?_
    refine XS.iload X8.here hx rfl (hb hby d7_31) rfl ?_
    refine XS.iload X8.here hx rfl (hb hby d7_33) rfl ?_
    refine XS.icmpYes X8.here hx rfl (pc0 := 35) (pc' := 74) rfl (hb hby d7_35) rfl (flt (by decide)).2.1 (by decide) (by decide) ?_
    refine XS.iinc X8.here hx rfl (hb hby d7_74) rfl (l' := #[sR o0, sR o1, .val (.double d2), .second, sI 1, sI xb, sR b2_0, sI 2, sI 2, sI xb]) rfl ?_
    refine XS.goto X8.here hx rfl (pc0 := 77) (pc' := 3) rfl (hb hby d7_77) (by decide) (by decide) ?_
    refine XS.iload X8.here hx rfl (hb hby d7_3) rfl ?_
    refine XS.aloadN X8.here hx rfl (hb hby d7_5) rfl rfl ?_
    exact kZ
  obtain ⟨cq10, kq10, q10a, q10b, q10c⟩ := isOf hZ e8 c9_4
  obtain ⟨_, _, ⟨T10, L10, k10, n10⟩, -, X10, ⟨Lc10, hQ10, l10, y10, z10⟩, st10⟩ := X8.virtualBack hx (y := y8) (z := y8) hown (wz hZ hw 61 rfl) (wz hZ hw 62 rfl) (notFace_of_selects (args := #[]) (wz hZ hw 64 rfl)) (wz hZ hw 64 rfl) (wz hZ hw 63 rfl) (by decide) (backOf (W := 1) (rm8 l Z a0 hw [] o1 qA cA eA h8 n0 Z8 c9_4 c9_5 c9_6) hZ (wq hw 65 rfl) (wq hw 8 rfl) (by decide) (by decide)) q10a q10c (g := (mkF m 6 #[sR o0, sR o1, .val (.double d2), .second, sI 1, sI xb, sR b2_0, sI 2, sI 2, sI xb] [(.ref o1), (.int 1)])) rfl (by rw [hml]; rfl) (Steps.refl _) (argsL := []) (rest := [(.int 1)]) (lenOf pd_7 rfl) rfl (leW rfl) (hb hby d7_6) (fun _ _ => ⟨rfl, e8, (by decide : 0 + 0 + 1 + 0 ≤ _), (by decide : 0 + 0 + 2 + 0 ≤ _)⟩)
  dsimp only [Pt.U, Pt.locs, Pt.cells, Pt.slots] at X10 l10 y10 z10 st10 hQ10
  subst l10 y10 z10
  obtain ⟨rfl, N10q, e10⟩ := hQ10
  have N10 := Fr.app N8 N10q
  refine Go.via (fun t k => st10.trans k) ?_
  refine Vi (T10.setTop (mkF m 18 #[sR o0, sR o1, .val (.double d2), .second, sI 1, sI (-1), sR b2_0, sI 2, sI 2, sI xb] [(.int 1), (.ref o1)])) (fun tZ kZ => ?_) ?_
  · refine XS.icmpNo X10.here hx rfl (hb hby d7_9) rfl (tlt (by show (1 : Int32) < 2; decide)).2.1 ?_
    refine XS.iconst X10.here hx rfl (hb hby d7_12) ?_
    refine XS.istore X10.here hx rfl (hb hby d7_13) rfl (l' := #[sR o0, sR o1, .val (.double d2), .second, sI 1, sI (-1), sR b2_0, sI 2, sI 2, sI xb]) rfl ?_
    refine XS.aloadN X10.here hx rfl (hb hby d7_15) rfl rfl ?_
    refine XS.iload X10.here hx rfl (hb hby d7_16) rfl ?_
    exact kZ
  obtain ⟨cq11, kq11, q11a, q11b, q11c⟩ := isOf hZ e10 c9_4
  obtain ⟨_, _, ⟨T11, L11, k11, n11⟩, -, X11, ⟨Lc11, hQ11, l11, y11, z11⟩, st11⟩ := X10.virtualBack hx (y := y9) (z := y9) hown (wz hZ hw 66 rfl) (wz hZ hw 67 rfl) (notFace_of_selects (args := #[]) (wz hZ hw 69 rfl)) (wz hZ hw 69 rfl) (wz hZ hw 68 rfl) (by decide) (backOf (W := 0) (rm91b l Z a0 hw [] o1 qA cA eA xa xb h8 n0 Z8 c9_4 c9_5 c9_6 c9_7 c9_8 c9_9 c9_10) hZ (wq hw 70 rfl) (wq hw 8 rfl) (by decide) (by decide)) q11a q11c (g := (mkF m 18 #[sR o0, sR o1, .val (.double d2), .second, sI 1, sI (-1), sR b2_0, sI 2, sI 2, sI xb] [(.int 1), (.ref o1)])) rfl (by rw [hml]; rfl) (Steps.refl _) (argsL := [(.int 1)]) (rest := []) (lenOf pd_8 rfl) rfl (leW rfl) (hb hby d7_18) (fun _ _ => ⟨rfl, e10, (by decide : 0 + 0 + 1 + 0 + 1 ≤ _), (by decide : 0 + 0 + 2 + 0 + 2 ≤ _)⟩)
  dsimp only [Pt.U, Pt.locs, Pt.cells, Pt.slots] at X11 l11 y11 z11 st11 hQ11
  subst l11 y11 z11
  obtain ⟨b11_0, rfl, N11q, hz_b11_0, Kq11, f11_0, f11_1, f11_2, f11_3, f11_4, f11_5, f11_6, f11_7, f11_8⟩ := hQ11
  have g_b11_0 : n0 ≤ b11_0 := Nat.le_trans Z8 hz_b11_0
  have sz_b11_0 : h0.size ≤ b11_0 := Nat.le_trans (K8).1 hz_b11_0
  have ne_o0_b11_0 : o0 ≠ b11_0 := Nat.ne_of_lt (Nat.lt_of_lt_of_le c9_0.lt hz_b11_0)
  have ne_o1_b11_0 : o1 ≠ b11_0 := Nat.ne_of_lt (Nat.lt_of_lt_of_le c9_4.lt hz_b11_0)
  have ne_qA_b11_0 : qA ≠ b11_0 := Nat.ne_of_lt (Nat.lt_of_lt_of_le c9_6.lt hz_b11_0)
  have ne_cA_b11_0 : cA ≠ b11_0 := Nat.ne_of_lt (Nat.lt_of_lt_of_le c9_7.lt hz_b11_0)
  have ne_eA_b11_0 : eA ≠ b11_0 := Nat.ne_of_lt (Nat.lt_of_lt_of_le c9_9.lt hz_b11_0)
  have ne_b2_0_b11_0 : b2_0 ≠ b11_0 := Nat.ne_of_lt (Nat.lt_of_lt_of_le c9_11.lt hz_b11_0)
  have lt_o0_b11_0 : (o0 : Nat) < b11_0 := Nat.lt_of_lt_of_le c9_0.lt hz_b11_0
  have lt_dA_b11_0 : (dA : Nat) + 11 ≤ b11_0 := Nat.le_trans Gw8.lt hz_b11_0
  have lt_o1_b11_0 : (o1 : Nat) < b11_0 := Nat.lt_of_lt_of_le c9_4.lt hz_b11_0
  have lt_qA_b11_0 : (qA : Nat) < b11_0 := Nat.lt_of_lt_of_le c9_6.lt hz_b11_0
  have lt_cA_b11_0 : (cA : Nat) < b11_0 := Nat.lt_of_lt_of_le c9_7.lt hz_b11_0
  have lt_eA_b11_0 : (eA : Nat) < b11_0 := Nat.lt_of_lt_of_le c9_9.lt hz_b11_0
  have lt_b2_0_b11_0 : (b2_0 : Nat) < b11_0 := Nat.lt_of_lt_of_le c9_11.lt hz_b11_0
  have c12_0 := c9_0.keep Kq11
  have c12_1 := c9_1.keep Kq11 nin0
  have c12_2 := Gw8.keep Kq11 all0
  have c12_11 := c9_11.keep Kq11 nin0
  have c12_12 := c9_12.keep Kq11
  have K11 : Keep h0 T11.heap [(dA + 2 + 5 * 0 + 0), (dA + 2 + 5 * 0 + (xa + (1 : Int32)).toNatClampNeg)] := K8.trans Kq11 all0
  have Z11 := Nat.le_trans Z8 Kq11.1
  have N11 := Fr.app N10 N11q
  refine Go.via (fun t k => st11.trans k) ?_
  refine Vi (T11.setTop (mkF m 6 #[sR o0, sR o1, .val (.double d2), .second, sI 2, sI (-1), sR b11_0, sI 0, sI 0, sI xb] [(.ref o1), (.int 2)])) (fun tZ kZ => ?_) ?_
  · refine XS.astore X11.here hx rfl (hb hby d7_21) rfl rfl (l' := #[sR o0, sR o1, .val (.double d2), .second, sI 1, sI (-1), sR b11_0, sI 2, sI 2, sI xb]) rfl ?_
    refine XS.aload X11.here hx rfl (hb hby d7_23) rfl rfl ?_
    refine AV.len f11_7 X11 hx hZ rfl (hb hby d7_25) ?_
    refine XS.istore X11.here hx rfl (hb hby d7_26) rfl (l' := #[sR o0, sR o1, .val (.double d2), .second, sI 1, sI (-1), sR b11_0, sI 0, sI 2, sI xb]) rfl ?_
    refine XS.iconst X11.here hx rfl (hb hby d7_28) ?_
    refine XS.istore X11.here hx rfl (hb hby d7_29) rfl (l' := #[sR o0, sR o1, .val (.double d2), .second, sI 1, sI (-1), sR b11_0, sI 0, sI 0, sI xb]) rfl ?_
    refine XS.iload X11.here hx rfl (hb hby d7_31) rfl ?_
    refine XS.iload X11.here hx rfl (hb hby d7_33) rfl ?_
    refine XS.icmpYes X11.here hx rfl (pc0 := 35) (pc' := 74) rfl (hb hby d7_35) rfl (flt (by decide)).2.1 (by decide) (by decide) ?_
    refine XS.iinc X11.here hx rfl (hb hby d7_74) rfl (l' := #[sR o0, sR o1, .val (.double d2), .second, sI 2, sI (-1), sR b11_0, sI 0, sI 0, sI xb]) rfl ?_
    refine XS.goto X11.here hx rfl (pc0 := 77) (pc' := 3) rfl (hb hby d7_77) (by decide) (by decide) ?_
    refine XS.iload X11.here hx rfl (hb hby d7_3) rfl ?_
    refine XS.aloadN X11.here hx rfl (hb hby d7_5) rfl rfl ?_
    exact kZ
  obtain ⟨cq13, kq13, q13a, q13b, q13c⟩ := isOf hZ rfl f11_0
  obtain ⟨_, _, ⟨T13, L13, k13, n13⟩, -, X13, ⟨Lc13, hQ13, l13, y13, z13⟩, st13⟩ := X11.virtualBack hx (y := y8) (z := y8) hown (wz hZ hw 61 rfl) (wz hZ hw 62 rfl) (notFace_of_selects (args := #[]) (wz hZ hw 64 rfl)) (wz hZ hw 64 rfl) (wz hZ hw 63 rfl) (by decide) (backOf (W := 1) (rm8 l Z a0 hw [] o1 qA cA eA T11.heap n0 Z11 f11_0 f11_1 f11_2) hZ (wq hw 65 rfl) (wq hw 8 rfl) (by decide) (by decide)) q13a q13c (g := (mkF m 6 #[sR o0, sR o1, .val (.double d2), .second, sI 2, sI (-1), sR b11_0, sI 0, sI 0, sI xb] [(.ref o1), (.int 2)])) rfl (by rw [hml]; rfl) (Steps.refl _) (argsL := []) (rest := [(.int 2)]) (lenOf pd_7 rfl) rfl (leW rfl) (hb hby d7_6) (fun _ _ => ⟨rfl, rfl, (by decide : 0 + 0 + 1 + 0 + 1 + 0 ≤ _), (by decide : 0 + 0 + 2 + 0 + 2 + 0 ≤ _)⟩)
  dsimp only [Pt.U, Pt.locs, Pt.cells, Pt.slots] at X13 l13 y13 z13 st13 hQ13
  subst l13 y13 z13
  obtain ⟨rfl, N13q, e13⟩ := hQ13
  have N13 := Fr.app N11 N13q
  refine Go.via (fun t k => st13.trans k) ?_
  refine Vi (T13.setTop (mkF m 80 #[sR o0, sR o1, .val (.double d2), .second, sI 2, sI (-1), sR b11_0, sI 0, sI 0, sI xb] [])) (fun tZ kZ => ?_) ?_
  · refine XS.icmpYes X13.here hx rfl (pc0 := 9) (pc' := 80) rfl (hb hby d7_9) rfl (flt (by show ¬ (2 : Int32) < 2; decide)).2.1 (by decide) (by decide) ?_
    exact kZ
  refine Go.retV X13 hx Bd.notSynchronized Bd.returns (hb hby d7_80) (by decide) (by decide) ?_
  rw [e13]
  exact ⟨rfl, N13, K11, c12_0, c12_1, c12_2, f11_0, f11_1, f11_2, f11_3, f11_4, f11_5, f11_6⟩
theorem d10_0 : DC B10 0 (.iconst 0) 1 := by decide +kernel
theorem d10_1 : DC B10 1 (.istore_n 1) 1 := by decide +kernel
theorem d10_2 : DC B10 2 (.iload_n 1) 1 := by decide +kernel
theorem d10_3 : DC B10 3 (.aload_n 0) 1 := by decide +kernel
theorem d10_4 : DC B10 4 (.getfield 15) 3 := by decide +kernel
theorem d10_7 : DC B10 7 (.arraylength) 1 := by decide +kernel
theorem d10_8 : DC B10 8 (.if_icmp .ge 87) 3 := by decide +kernel
theorem d10_11 : DC B10 11 (.iconst 0) 1 := by decide +kernel
theorem d10_12 : DC B10 12 (.istore_n 2) 1 := by decide +kernel
theorem d10_13 : DC B10 13 (.iload_n 2) 1 := by decide +kernel
theorem d10_14 : DC B10 14 (.aload_n 0) 1 := by decide +kernel
theorem d10_15 : DC B10 15 (.getfield 15) 3 := by decide +kernel
theorem d10_18 : DC B10 18 (.iload_n 1) 1 := by decide +kernel
theorem d10_19 : DC B10 19 (.aaload) 1 := by decide +kernel
theorem d10_20 : DC B10 20 (.arraylength) 1 := by decide +kernel
theorem d10_21 : DC B10 21 (.if_icmp .ge 68) 3 := by decide +kernel
theorem d10_24 : DC B10 24 (.aload_n 0) 1 := by decide +kernel
theorem d10_25 : DC B10 25 (.getfield 15) 3 := by decide +kernel
theorem d10_28 : DC B10 28 (.iload_n 1) 1 := by decide +kernel
theorem d10_29 : DC B10 29 (.aaload) 1 := by decide +kernel
theorem d10_30 : DC B10 30 (.iload_n 2) 1 := by decide +kernel
theorem d10_31 : DC B10 31 (.aaload) 1 := by decide +kernel
theorem d10_32 : DC B10 32 (.astore_n 3) 1 := by decide +kernel
theorem d10_33 : DC B10 33 (.aload_n 0) 1 := by decide +kernel
theorem d10_34 : DC B10 34 (.getfield 18) 3 := by decide +kernel
theorem d10_37 : DC B10 37 (.iload_n 1) 1 := by decide +kernel
theorem d10_38 : DC B10 38 (.aaload) 1 := by decide +kernel
theorem d10_39 : DC B10 39 (.iload_n 2) 1 := by decide +kernel
theorem d10_40 : DC B10 40 (.aaload) 1 := by decide +kernel
theorem d10_41 : DC B10 41 (.astore 4) 2 := by decide +kernel
theorem d10_43 : DC B10 43 (.iconst 0) 1 := by decide +kernel
theorem d10_44 : DC B10 44 (.istore 5) 2 := by decide +kernel
theorem d10_46 : DC B10 46 (.iload 5) 2 := by decide +kernel
theorem d10_48 : DC B10 48 (.aload_n 3) 1 := by decide +kernel
theorem d10_49 : DC B10 49 (.arraylength) 1 := by decide +kernel
theorem d10_50 : DC B10 50 (.if_icmp .ge 33) 3 := by decide +kernel
theorem d10_53 : DC B10 53 (.aload_n 3) 1 := by decide +kernel
theorem d10_54 : DC B10 54 (.iload 5) 2 := by decide +kernel
theorem d10_56 : DC B10 56 (.ldc2_w 42) 3 := by decide +kernel
theorem d10_59 : DC B10 59 (.aload_n 3) 1 := by decide +kernel
theorem d10_60 : DC B10 60 (.iload 5) 2 := by decide +kernel
theorem d10_62 : DC B10 62 (.daload) 1 := by decide +kernel
theorem d10_63 : DC B10 63 (.dmul) 1 := by decide +kernel
theorem d10_64 : DC B10 64 (.aload 4) 2 := by decide +kernel
theorem d10_66 : DC B10 66 (.iload 5) 2 := by decide +kernel
theorem d10_68 : DC B10 68 (.daload) 1 := by decide +kernel
theorem d10_69 : DC B10 69 (.dadd) 1 := by decide +kernel
theorem d10_70 : DC B10 70 (.dastore) 1 := by decide +kernel
theorem d10_71 : DC B10 71 (.aload 4) 2 := by decide +kernel
theorem d10_73 : DC B10 73 (.iload 5) 2 := by decide +kernel
theorem d10_75 : DC B10 75 (.dconst 0) 1 := by decide +kernel
theorem d10_76 : DC B10 76 (.dastore) 1 := by decide +kernel
theorem d10_77 : DC B10 77 (.iinc 5 1) 3 := by decide +kernel
theorem d10_80 : DC B10 80 (.goto (-34)) 3 := by decide +kernel
theorem d10_83 : DC B10 83 (.iinc 2 1) 3 := by decide +kernel
theorem d10_86 : DC B10 86 (.goto (-73)) 3 := by decide +kernel
theorem d10_89 : DC B10 89 (.iinc 1 1) 3 := by decide +kernel
theorem d10_92 : DC B10 92 (.goto (-90)) 3 := by decide +kernel
theorem d10_95 : DC B10 95 (.return_) 1 := by decide +kernel
def Q10 (Z : State) (o0 : Nat) (vA : Nat) (dA : Nat) (f : Nat → Nat → Nat → UInt64) (g : Nat → Nat → Nat → UInt64) (h0 : Heap) (n0 : Nat) (v : Option Value) (h : Heap) (L : List Loc) : Prop := v = none ∧ Fr n0 L ∧ Keep h0 h [(vA + 2 + 5 * 0 + 0), (dA + 2 + 5 * 0 + 0), (vA + 2 + 5 * 0 + 1), (dA + 2 + 5 * 0 + 1), (vA + 2 + 5 * 0 + 2), (dA + 2 + 5 * 0 + 2), (vA + 2 + 5 * 0 + 3), (dA + 2 + 5 * 0 + 3), (vA + 2 + 5 * 1 + 0), (dA + 2 + 5 * 1 + 0), (vA + 2 + 5 * 1 + 1), (dA + 2 + 5 * 1 + 1), (vA + 2 + 5 * 1 + 2), (dA + 2 + 5 * 1 + 2), (vA + 2 + 5 * 1 + 3), (dA + 2 + 5 * 1 + 3)] ∧ Exa Z h o0 "com/example/muster/muster/solvers/Pheromone" ∧ Fld Z h o0 "com/example/muster/muster/solvers/Pheromone" "value" "[[[D" (.ref vA) ∧ Fld Z h o0 "com/example/muster/muster/solvers/Pheromone" "deposited" "[[[D" (.ref dA) ∧ Gd Z h vA (fun i j k => FP.dadd (FP.dmul (4606732058837280358 : UInt64) (f i j k)) (g i j k)) ∧ Gd Z h dA (fun _ _ _ => FP.dconst0)
theorem ef_10_a (m : MethodId) (x0 : Nat) : entryFrame m #[(.ref x0)] 6 = mkF m 0 #[.val (.ref x0), .unset, .unset, .unset, .unset, .unset] [] := by first | (simp [entryFrame, mkF, argsToLocals, Value.category]; done) | rfl
theorem rm10 (l : Launch) (Z : State) (a0 : Array Value) (hw : HW a0 Z) (ws : List Jvm.Cond) (o0 : Nat) (vA : Nat) (dA : Nat) (f : Nat → Nat → Nat → UInt64) (g : Nat → Nat → Nat → UInt64) (h0 : Heap) (n0 : Nat) (Z0 : n0 ≤ h0.size) (ha0 : Exa Z h0 o0 "com/example/muster/muster/solvers/Pheromone") (ha1 : Fld Z h0 o0 "com/example/muster/muster/solvers/Pheromone" "value" "[[[D" (.ref vA)) (ha2 : Fld Z h0 o0 "com/example/muster/muster/solvers/Pheromone" "deposited" "[[[D" (.ref dA)) (ha3 : Gd Z h0 vA f) (ha4 : Gd Z h0 dA g) (ha5 : n0 ≤ vA) (ha6 : n0 ≤ dA) (hov : o0 < vA ∨ vA + 11 ≤ o0) (hod : o0 < dA ∨ dA + 11 ≤ o0) (hvd : vA + 11 ≤ dA) (hnn : ∀ i j k : Nat, i < 2 → j < 4 → k < 3 → Jvm.Free.Fl.NoNaN64 (FP.dmul (4606732058837280358 : UInt64) (f i j k)) ∧ Jvm.Free.Fl.NoNaN64 (FP.dadd (FP.dmul (4606732058837280358 : UInt64) (f i j k)) (g i j k))) :
    MetFree l y10 (head1 (Jvm.Cond.code y10 prog_48_method_5_code 6 none :: ws) RM_0_0_0_0) (fun a U => a = #[(.ref o0)] ∧ Z.Warmed39 U.vm ∧ U.heap = h0) (fun _ _ _ _ _ => True) (fun _ U o U' => ∃ v L, o = .returned v ∧ Q10 Z o0 vA dA f g h0 n0 v U'.heap L ∧ FrameEnd U o U' L RM_0_0_0_0.cells RM_0_0_0_0.slots) := by
  refine MetFree.of_bodySF (plainFor_of_name pn_1) hisR ?_
  intro p e s m args below meth c s₁ Bd hml0 hP hK
  obtain ⟨rfl, hZ, hh⟩ := hP
  have hx := Bd.exec
  have hby := Bd.bytes
  have hml : c.maxLocals = 6 := hml0
  have hown : s.vm.findClass "com/example/muster/muster/solvers/Pheromone" = some m.cls := findClass_of_methodNamed Bd.named
  have X0 : Stand p l e RM_0_0_0_0 s m _ below meth c s₁ [] 0 0 := Stand.of_body Bd
  have e0 : s₁.heap = h0 := by rw [← hh, Bd.state]; rfl
  have N0 := Fr.nil n0
  refine Go.into (P := fun oo uu => ∃ v L, oo = .returned v ∧ Q10 Z o0 vA dA f g h0 n0 v uu.heap L ∧ FrameEnd s oo uu L RM_0_0_0_0.cells RM_0_0_0_0.slots) (ef_10_a m o0) ?_
  show Go p e below _ (s₁.setTop (mkF m 0 #[sR o0, .unset, .unset, .unset, .unset, .unset] []))
  have Gv0 : Gd Z h0 vA (own_vl f g 0) := ha3.congr own_vl_0
  have Gd0 : Gd Z h0 dA (own_dp g 0) := ha4.congr own_dp_0
  refine Vi (s₁.setTop (mkF m 4 #[sR o0, sI 0, .unset, .unset, .unset, .unset] [(.ref o0), (.int 0)])) (fun tZ kZ => ?_) ?_
  · refine XS.iconst X0.here hx rfl (hb hby d10_0) ?_
    refine XS.istoreN X0.here hx rfl (hb hby d10_1) rfl (l' := #[sR o0, sI 0, .unset, .unset, .unset, .unset]) rfl ?_
    refine XS.iloadN X0.here hx rfl (hb hby d10_2) rfl ?_
    refine XS.aloadN X0.here hx rfl (hb hby d10_3) rfl rfl ?_
    exact kZ
  refine GF X0 hx hZ hown (wq hw 38 rfl) e0 ha1 (hb hby d10_4) fun T1 X1 e1 => ?_
  refine Vi (T1.setTop (mkF m 15 #[sR o0, sI 0, sI 0, .unset, .unset, .unset] [(.ref o0), (.int 0)])) (fun tZ kZ => ?_) ?_
  · refine AV.len Gv0.top X1 hx hZ e1 (hb hby d10_7) ?_
    refine XS.icmpNo X1.here hx rfl (hb hby d10_8) rfl (tlt (by decide)).2.1 ?_
    refine XS.iconst X1.here hx rfl (hb hby d10_11) ?_
    refine XS.istoreN X1.here hx rfl (hb hby d10_12) rfl (l' := #[sR o0, sI 0, sI 0, .unset, .unset, .unset]) rfl ?_
    refine XS.iloadN X1.here hx rfl (hb hby d10_13) rfl ?_
    refine XS.aloadN X1.here hx rfl (hb hby d10_14) rfl rfl ?_
    exact kZ
  refine GF X1 hx hZ hown (wq hw 38 rfl) e1 ha1 (hb hby d10_15) fun T2 X2 e2 => ?_
  refine Vi (T2.setTop (mkF m 25 #[sR o0, sI 0, sI 0, .unset, .unset, .unset] [(.ref o0)])) (fun tZ kZ => ?_) ?_
  · refine XS.iloadN X2.here hx rfl (hb hby d10_18) rfl ?_
    refine AV.aaload Gv0.top rfl X2 hx hZ e2 (j := (0 : Int32)) (by decide) (hb hby d10_19) ?_
    refine AV.len (Gv0.row 0 (by decide)) X2 hx hZ e2 (hb hby d10_20) ?_
    refine XS.icmpNo X2.here hx rfl (hb hby d10_21) rfl (tlt (by decide)).2.1 ?_
    refine XS.aloadN X2.here hx rfl (hb hby d10_24) rfl rfl ?_
    exact kZ
  refine GF X2 hx hZ hown (wq hw 38 rfl) e2 ha1 (hb hby d10_25) fun T3 X3 e3 => ?_
  refine Vi (T3.setTop (mkF m 34 #[sR o0, sI 0, sI 0, sR (vA + 2 + 5 * 0 + 0), .unset, .unset] [(.ref o0)])) (fun tZ kZ => ?_) ?_
  · refine XS.iloadN X3.here hx rfl (hb hby d10_28) rfl ?_
    refine AV.aaload Gv0.top rfl X3 hx hZ e3 (j := (0 : Int32)) (by decide) (hb hby d10_29) ?_
    refine XS.iloadN X3.here hx rfl (hb hby d10_30) rfl ?_
    refine AV.aaload (Gv0.row 0 (by decide)) rfl X3 hx hZ e3 (j := (0 : Int32)) (by decide) (hb hby d10_31) ?_
    refine XS.astoreN X3.here hx rfl (hb hby d10_32) rfl rfl (l' := #[sR o0, sI 0, sI 0, sR (vA + 2 + 5 * 0 + 0), .unset, .unset]) rfl ?_
    refine XS.aloadN X3.here hx rfl (hb hby d10_33) rfl rfl ?_
    exact kZ
  refine GF X3 hx hZ hown (wq hw 40 rfl) e3 ha2 (hb hby d10_34) fun T4 X4 e4 => ?_
  refine Vi (T4.setTop (mkF m 70 #[sR o0, sI 0, sI 0, sR (vA + 2 + 5 * 0 + 0), sR (dA + 2 + 5 * 0 + 0), sI 0] [(.double (FP.dadd (FP.dmul (4606732058837280358 : UInt64) (((own_vl f g 0) 0 0) (0 : Int32).toNatClampNeg)) (((own_dp g 0) 0 0) (0 : Int32).toNatClampNeg))), (.int 0), (.ref (vA + 2 + 5 * 0 + 0))])) (fun tZ kZ => ?_) ?_
  · refine XS.iloadN X4.here hx rfl (hb hby d10_37) rfl ?_
    refine AV.aaload Gd0.top rfl X4 hx hZ e4 (j := (0 : Int32)) (by decide) (hb hby d10_38) ?_
    refine XS.iloadN X4.here hx rfl (hb hby d10_39) rfl ?_
    refine AV.aaload (Gd0.row 0 (by decide)) rfl X4 hx hZ e4 (j := (0 : Int32)) (by decide) (hb hby d10_40) ?_
    refine XS.astore X4.here hx rfl (hb hby d10_41) rfl rfl (l' := #[sR o0, sI 0, sI 0, sR (vA + 2 + 5 * 0 + 0), sR (dA + 2 + 5 * 0 + 0), .unset]) rfl ?_
    refine XS.iconst X4.here hx rfl (hb hby d10_43) ?_
    refine XS.istore X4.here hx rfl (hb hby d10_44) rfl (l' := #[sR o0, sI 0, sI 0, sR (vA + 2 + 5 * 0 + 0), sR (dA + 2 + 5 * 0 + 0), sI 0]) rfl ?_
    refine XS.iload X4.here hx rfl (hb hby d10_46) rfl ?_
    refine XS.aloadN X4.here hx rfl (hb hby d10_48) rfl rfl ?_
    refine AV.len (Gv0.cell 0 0 (by decide) (by decide)) X4 hx hZ e4 (hb hby d10_49) ?_
    refine XS.icmpNo X4.here hx rfl (hb hby d10_50) rfl (tlt (by decide)).2.1 ?_
    refine XS.aloadN X4.here hx rfl (hb hby d10_53) rfl rfl ?_
    refine XS.iload X4.here hx rfl (hb hby d10_54) rfl ?_
    refine X4.ldc2DoubleC hx hown (wz hZ hw 76 rfl) (g := (mkF m 56 #[sR o0, sI 0, sI 0, sR (vA + 2 + 5 * 0 + 0), sR (dA + 2 + 5 * 0 + 0), sI 0] [(.int 0), (.ref (vA + 2 + 5 * 0 + 0))])) rfl (hb hby d10_56) _ ?_
    refine XS.aloadN X4.here hx rfl (hb hby d10_59) rfl rfl ?_
    refine XS.iload X4.here hx rfl (hb hby d10_60) rfl ?_
    refine AV.daload (Gv0.cell 0 0 (by decide) (by decide)) X4 hx hZ e4 (j := (0 : Int32)) (by decide) (hb hby d10_62) ?_
    refine XS.dmulS X4.here hx rfl (hb hby d10_63) rfl (hnn 0 0 0 (by decide) (by decide) (by decide)).1 rfl ?_
    refine XS.aload X4.here hx rfl (hb hby d10_64) rfl rfl ?_
    refine XS.iload X4.here hx rfl (hb hby d10_66) rfl ?_
    refine AV.daload (Gd0.cell 0 0 (by decide) (by decide)) X4 hx hZ e4 (j := (0 : Int32)) (by decide) (hb hby d10_68) ?_
    refine XS.daddS X4.here hx rfl (hb hby d10_69) rfl (hnn 0 0 0 (by decide) (by decide) (by decide)).2 rfl ?_
    exact kZ
  obtain ⟨T5, h5, X5, e5, W5, V5, st5⟩ := AV.dastore (Gv0.cell 0 0 (by decide) (by decide)) X4 hx hZ e4 (j := (0 : Int32)) (by decide) (Ls := #[sR o0, sI 0, sI 0, sR (vA + 2 + 5 * 0 + 0), sR (dA + 2 + 5 * 0 + 0), sI 0]) (rest := []) (hb hby d10_70) (x := (FP.dadd (FP.dmul (4606732058837280358 : UInt64) (((own_vl f g 0) 0 0) (0 : Int32).toNatClampNeg)) (((own_dp g 0) 0 0) (0 : Int32).toNatClampNeg)))
  have N5 := Fr.snoc X5 N0 (Nat.le_trans ha5 (show vA ≤ (vA + 2 + 5 * 0 + 0) by omega))
  have c6_0 := ha0.wr W5
  have c6_1 := ha1.other W5 (Or.inl (own_na (by omega)))
  have c6_2 := ha2.other W5 (Or.inl (own_na (by omega)))
  have c6_3 := Gv0
  have c6_4 := Gd0.other W5 (by omega)
  have K5 : Keep h0 h5 [(vA + 2 + 5 * 0 + 0), (dA + 2 + 5 * 0 + 0), (vA + 2 + 5 * 0 + 1), (dA + 2 + 5 * 0 + 1), (vA + 2 + 5 * 0 + 2), (dA + 2 + 5 * 0 + 2), (vA + 2 + 5 * 0 + 3), (dA + 2 + 5 * 0 + 3), (vA + 2 + 5 * 1 + 0), (dA + 2 + 5 * 1 + 0), (vA + 2 + 5 * 1 + 1), (dA + 2 + 5 * 1 + 1), (vA + 2 + 5 * 1 + 2), (dA + 2 + 5 * 1 + 2), (vA + 2 + 5 * 1 + 3), (dA + 2 + 5 * 1 + 3)] := (Keep.refl h0 [(vA + 2 + 5 * 0 + 0), (dA + 2 + 5 * 0 + 0), (vA + 2 + 5 * 0 + 1), (dA + 2 + 5 * 0 + 1), (vA + 2 + 5 * 0 + 2), (dA + 2 + 5 * 0 + 2), (vA + 2 + 5 * 0 + 3), (dA + 2 + 5 * 0 + 3), (vA + 2 + 5 * 1 + 0), (dA + 2 + 5 * 1 + 0), (vA + 2 + 5 * 1 + 1), (dA + 2 + 5 * 1 + 1), (vA + 2 + 5 * 1 + 2), (dA + 2 + 5 * 1 + 2), (vA + 2 + 5 * 1 + 3), (dA + 2 + 5 * 1 + 3)]).wr W5 (Or.inl (by simp))
  have Z5 := Nat.le_trans Z0 (Keep.of_wr W5).1
  have Gw5 : Gd Z h5 vA (own_vl f g 1) := (Gd.set Gv0 0 0 (by decide) (by decide) W5 V5).congr (own_vl_step rfl (by decide) (by decide) rfl)
  refine Go.via st5 ?_
  refine Vi (T5.setTop (mkF m 76 #[sR o0, sI 0, sI 0, sR (vA + 2 + 5 * 0 + 0), sR (dA + 2 + 5 * 0 + 0), sI 0] [(.double FP.dconst0), (.int 0), (.ref (dA + 2 + 5 * 0 + 0))])) (fun tZ kZ => ?_) ?_
  · refine XS.aload X5.here hx rfl (hb hby d10_71) rfl rfl ?_
    refine XS.iload X5.here hx rfl (hb hby d10_73) rfl ?_
    refine XS.dconst0 X5.here hx rfl (hb hby d10_75) rfl ?_
    exact kZ
  obtain ⟨T7, h7, X7, e7, W7, V7, st7⟩ := AV.dastore (c6_4.cell 0 0 (by decide) (by decide)) X5 hx hZ e5 (j := (0 : Int32)) (by decide) (Ls := #[sR o0, sI 0, sI 0, sR (vA + 2 + 5 * 0 + 0), sR (dA + 2 + 5 * 0 + 0), sI 0]) (rest := []) (hb hby d10_76) (x := FP.dconst0)
  have N7 := Fr.snoc X7 N5 (Nat.le_trans ha6 (show dA ≤ (dA + 2 + 5 * 0 + 0) by omega))
  have c8_0 := c6_0.wr W7
  have c8_1 := c6_1.other W7 (Or.inl (own_na (by omega)))
  have c8_2 := c6_2.other W7 (Or.inl (own_na (by omega)))
  have c8_3 := Gw5.other W7 (by omega)
  have c8_4 := c6_4
  have K7 : Keep h0 h7 [(vA + 2 + 5 * 0 + 0), (dA + 2 + 5 * 0 + 0), (vA + 2 + 5 * 0 + 1), (dA + 2 + 5 * 0 + 1), (vA + 2 + 5 * 0 + 2), (dA + 2 + 5 * 0 + 2), (vA + 2 + 5 * 0 + 3), (dA + 2 + 5 * 0 + 3), (vA + 2 + 5 * 1 + 0), (dA + 2 + 5 * 1 + 0), (vA + 2 + 5 * 1 + 1), (dA + 2 + 5 * 1 + 1), (vA + 2 + 5 * 1 + 2), (dA + 2 + 5 * 1 + 2), (vA + 2 + 5 * 1 + 3), (dA + 2 + 5 * 1 + 3)] := K5.wr W7 (Or.inl (by simp))
  have Z7 := Nat.le_trans Z5 (Keep.of_wr W7).1
  have Gw7 : Gd Z h7 dA (own_dp g 1) := (Gd.set c6_4 0 0 (by decide) (by decide) W7 V7).congr (own_dp_step rfl (by decide) (by decide))
  refine Go.via st7 ?_
  refine Vi (T7.setTop (mkF m 70 #[sR o0, sI 0, sI 0, sR (vA + 2 + 5 * 0 + 0), sR (dA + 2 + 5 * 0 + 0), sI 1] [(.double (FP.dadd (FP.dmul (4606732058837280358 : UInt64) (((own_vl f g 1) 0 0) (1 : Int32).toNatClampNeg)) (((own_dp g 1) 0 0) (1 : Int32).toNatClampNeg))), (.int 1), (.ref (vA + 2 + 5 * 0 + 0))])) (fun tZ kZ => ?_) ?_
  · refine XS.iinc X7.here hx rfl (hb hby d10_77) rfl (l' := #[sR o0, sI 0, sI 0, sR (vA + 2 + 5 * 0 + 0), sR (dA + 2 + 5 * 0 + 0), sI 1]) rfl ?_
    refine XS.goto X7.here hx rfl (pc0 := 80) (pc' := 46) rfl (hb hby d10_80) (by decide) (by decide) ?_
    refine XS.iload X7.here hx rfl (hb hby d10_46) rfl ?_
    refine XS.aloadN X7.here hx rfl (hb hby d10_48) rfl rfl ?_
    refine AV.len (c8_3.cell 0 0 (by decide) (by decide)) X7 hx hZ e7 (hb hby d10_49) ?_
    refine XS.icmpNo X7.here hx rfl (hb hby d10_50) rfl (tlt (by decide)).2.1 ?_
    refine XS.aloadN X7.here hx rfl (hb hby d10_53) rfl rfl ?_
    refine XS.iload X7.here hx rfl (hb hby d10_54) rfl ?_
    refine X7.ldc2DoubleC hx hown (wz hZ hw 76 rfl) (g := (mkF m 56 #[sR o0, sI 0, sI 0, sR (vA + 2 + 5 * 0 + 0), sR (dA + 2 + 5 * 0 + 0), sI 1] [(.int 1), (.ref (vA + 2 + 5 * 0 + 0))])) rfl (hb hby d10_56) _ ?_
    refine XS.aloadN X7.here hx rfl (hb hby d10_59) rfl rfl ?_
    refine XS.iload X7.here hx rfl (hb hby d10_60) rfl ?_
    refine AV.daload (c8_3.cell 0 0 (by decide) (by decide)) X7 hx hZ e7 (j := (1 : Int32)) (by decide) (hb hby d10_62) ?_
    refine XS.dmulS X7.here hx rfl (hb hby d10_63) rfl (hnn 0 0 1 (by decide) (by decide) (by decide)).1 rfl ?_
    refine XS.aload X7.here hx rfl (hb hby d10_64) rfl rfl ?_
    refine XS.iload X7.here hx rfl (hb hby d10_66) rfl ?_
    refine AV.daload (Gw7.cell 0 0 (by decide) (by decide)) X7 hx hZ e7 (j := (1 : Int32)) (by decide) (hb hby d10_68) ?_
    refine XS.daddS X7.here hx rfl (hb hby d10_69) rfl (hnn 0 0 1 (by decide) (by decide) (by decide)).2 rfl ?_
    exact kZ
  obtain ⟨T9, h9, X9, e9, W9, V9, st9⟩ := AV.dastore (c8_3.cell 0 0 (by decide) (by decide)) X7 hx hZ e7 (j := (1 : Int32)) (by decide) (Ls := #[sR o0, sI 0, sI 0, sR (vA + 2 + 5 * 0 + 0), sR (dA + 2 + 5 * 0 + 0), sI 1]) (rest := []) (hb hby d10_70) (x := (FP.dadd (FP.dmul (4606732058837280358 : UInt64) (((own_vl f g 1) 0 0) (1 : Int32).toNatClampNeg)) (((own_dp g 1) 0 0) (1 : Int32).toNatClampNeg)))
  have N9 := Fr.snoc X9 N7 (Nat.le_trans ha5 (show vA ≤ (vA + 2 + 5 * 0 + 0) by omega))
  have c10_0 := c8_0.wr W9
  have c10_1 := c8_1.other W9 (Or.inl (own_na (by omega)))
  have c10_2 := c8_2.other W9 (Or.inl (own_na (by omega)))
  have c10_3 := c8_3
  have c10_4 := Gw7.other W9 (by omega)
  have K9 : Keep h0 h9 [(vA + 2 + 5 * 0 + 0), (dA + 2 + 5 * 0 + 0), (vA + 2 + 5 * 0 + 1), (dA + 2 + 5 * 0 + 1), (vA + 2 + 5 * 0 + 2), (dA + 2 + 5 * 0 + 2), (vA + 2 + 5 * 0 + 3), (dA + 2 + 5 * 0 + 3), (vA + 2 + 5 * 1 + 0), (dA + 2 + 5 * 1 + 0), (vA + 2 + 5 * 1 + 1), (dA + 2 + 5 * 1 + 1), (vA + 2 + 5 * 1 + 2), (dA + 2 + 5 * 1 + 2), (vA + 2 + 5 * 1 + 3), (dA + 2 + 5 * 1 + 3)] := K7.wr W9 (Or.inl (by simp))
  have Z9 := Nat.le_trans Z7 (Keep.of_wr W9).1
  have Gw9 : Gd Z h9 vA (own_vl f g 2) := (Gd.set c8_3 0 0 (by decide) (by decide) W9 V9).congr (own_vl_step rfl (by decide) (by decide) rfl)
  refine Go.via st9 ?_
  refine Vi (T9.setTop (mkF m 76 #[sR o0, sI 0, sI 0, sR (vA + 2 + 5 * 0 + 0), sR (dA + 2 + 5 * 0 + 0), sI 1] [(.double FP.dconst0), (.int 1), (.ref (dA + 2 + 5 * 0 + 0))])) (fun tZ kZ => ?_) ?_
  · refine XS.aload X9.here hx rfl (hb hby d10_71) rfl rfl ?_
    refine XS.iload X9.here hx rfl (hb hby d10_73) rfl ?_
    refine XS.dconst0 X9.here hx rfl (hb hby d10_75) rfl ?_
    exact kZ
  obtain ⟨T11, h11, X11, e11, W11, V11, st11⟩ := AV.dastore (c10_4.cell 0 0 (by decide) (by decide)) X9 hx hZ e9 (j := (1 : Int32)) (by decide) (Ls := #[sR o0, sI 0, sI 0, sR (vA + 2 + 5 * 0 + 0), sR (dA + 2 + 5 * 0 + 0), sI 1]) (rest := []) (hb hby d10_76) (x := FP.dconst0)
  have N11 := Fr.snoc X11 N9 (Nat.le_trans ha6 (show dA ≤ (dA + 2 + 5 * 0 + 0) by omega))
  have c12_0 := c10_0.wr W11
  have c12_1 := c10_1.other W11 (Or.inl (own_na (by omega)))
  have c12_2 := c10_2.other W11 (Or.inl (own_na (by omega)))
  have c12_3 := Gw9.other W11 (by omega)
  have c12_4 := c10_4
  have K11 : Keep h0 h11 [(vA + 2 + 5 * 0 + 0), (dA + 2 + 5 * 0 + 0), (vA + 2 + 5 * 0 + 1), (dA + 2 + 5 * 0 + 1), (vA + 2 + 5 * 0 + 2), (dA + 2 + 5 * 0 + 2), (vA + 2 + 5 * 0 + 3), (dA + 2 + 5 * 0 + 3), (vA + 2 + 5 * 1 + 0), (dA + 2 + 5 * 1 + 0), (vA + 2 + 5 * 1 + 1), (dA + 2 + 5 * 1 + 1), (vA + 2 + 5 * 1 + 2), (dA + 2 + 5 * 1 + 2), (vA + 2 + 5 * 1 + 3), (dA + 2 + 5 * 1 + 3)] := K9.wr W11 (Or.inl (by simp))
  have Z11 := Nat.le_trans Z9 (Keep.of_wr W11).1
  have Gw11 : Gd Z h11 dA (own_dp g 2) := (Gd.set c10_4 0 0 (by decide) (by decide) W11 V11).congr (own_dp_step rfl (by decide) (by decide))
  refine Go.via st11 ?_
  refine Vi (T11.setTop (mkF m 70 #[sR o0, sI 0, sI 0, sR (vA + 2 + 5 * 0 + 0), sR (dA + 2 + 5 * 0 + 0), sI 2] [(.double (FP.dadd (FP.dmul (4606732058837280358 : UInt64) (((own_vl f g 2) 0 0) (2 : Int32).toNatClampNeg)) (((own_dp g 2) 0 0) (2 : Int32).toNatClampNeg))), (.int 2), (.ref (vA + 2 + 5 * 0 + 0))])) (fun tZ kZ => ?_) ?_
  · refine XS.iinc X11.here hx rfl (hb hby d10_77) rfl (l' := #[sR o0, sI 0, sI 0, sR (vA + 2 + 5 * 0 + 0), sR (dA + 2 + 5 * 0 + 0), sI 2]) rfl ?_
    refine XS.goto X11.here hx rfl (pc0 := 80) (pc' := 46) rfl (hb hby d10_80) (by decide) (by decide) ?_
    refine XS.iload X11.here hx rfl (hb hby d10_46) rfl ?_
    refine XS.aloadN X11.here hx rfl (hb hby d10_48) rfl rfl ?_
    refine AV.len (c12_3.cell 0 0 (by decide) (by decide)) X11 hx hZ e11 (hb hby d10_49) ?_
    refine XS.icmpNo X11.here hx rfl (hb hby d10_50) rfl (tlt (by decide)).2.1 ?_
    refine XS.aloadN X11.here hx rfl (hb hby d10_53) rfl rfl ?_
    refine XS.iload X11.here hx rfl (hb hby d10_54) rfl ?_
    refine X11.ldc2DoubleC hx hown (wz hZ hw 76 rfl) (g := (mkF m 56 #[sR o0, sI 0, sI 0, sR (vA + 2 + 5 * 0 + 0), sR (dA + 2 + 5 * 0 + 0), sI 2] [(.int 2), (.ref (vA + 2 + 5 * 0 + 0))])) rfl (hb hby d10_56) _ ?_
    refine XS.aloadN X11.here hx rfl (hb hby d10_59) rfl rfl ?_
    refine XS.iload X11.here hx rfl (hb hby d10_60) rfl ?_
    refine AV.daload (c12_3.cell 0 0 (by decide) (by decide)) X11 hx hZ e11 (j := (2 : Int32)) (by decide) (hb hby d10_62) ?_
    refine XS.dmulS X11.here hx rfl (hb hby d10_63) rfl (hnn 0 0 2 (by decide) (by decide) (by decide)).1 rfl ?_
    refine XS.aload X11.here hx rfl (hb hby d10_64) rfl rfl ?_
    refine XS.iload X11.here hx rfl (hb hby d10_66) rfl ?_
    refine AV.daload (Gw11.cell 0 0 (by decide) (by decide)) X11 hx hZ e11 (j := (2 : Int32)) (by decide) (hb hby d10_68) ?_
    refine XS.daddS X11.here hx rfl (hb hby d10_69) rfl (hnn 0 0 2 (by decide) (by decide) (by decide)).2 rfl ?_
    exact kZ
  obtain ⟨T13, h13, X13, e13, W13, V13, st13⟩ := AV.dastore (c12_3.cell 0 0 (by decide) (by decide)) X11 hx hZ e11 (j := (2 : Int32)) (by decide) (Ls := #[sR o0, sI 0, sI 0, sR (vA + 2 + 5 * 0 + 0), sR (dA + 2 + 5 * 0 + 0), sI 2]) (rest := []) (hb hby d10_70) (x := (FP.dadd (FP.dmul (4606732058837280358 : UInt64) (((own_vl f g 2) 0 0) (2 : Int32).toNatClampNeg)) (((own_dp g 2) 0 0) (2 : Int32).toNatClampNeg)))
  have N13 := Fr.snoc X13 N11 (Nat.le_trans ha5 (show vA ≤ (vA + 2 + 5 * 0 + 0) by omega))
  have c14_0 := c12_0.wr W13
  have c14_1 := c12_1.other W13 (Or.inl (own_na (by omega)))
  have c14_2 := c12_2.other W13 (Or.inl (own_na (by omega)))
  have c14_3 := c12_3
  have c14_4 := Gw11.other W13 (by omega)
  have K13 : Keep h0 h13 [(vA + 2 + 5 * 0 + 0), (dA + 2 + 5 * 0 + 0), (vA + 2 + 5 * 0 + 1), (dA + 2 + 5 * 0 + 1), (vA + 2 + 5 * 0 + 2), (dA + 2 + 5 * 0 + 2), (vA + 2 + 5 * 0 + 3), (dA + 2 + 5 * 0 + 3), (vA + 2 + 5 * 1 + 0), (dA + 2 + 5 * 1 + 0), (vA + 2 + 5 * 1 + 1), (dA + 2 + 5 * 1 + 1), (vA + 2 + 5 * 1 + 2), (dA + 2 + 5 * 1 + 2), (vA + 2 + 5 * 1 + 3), (dA + 2 + 5 * 1 + 3)] := K11.wr W13 (Or.inl (by simp))
  have Z13 := Nat.le_trans Z11 (Keep.of_wr W13).1
  have Gw13 : Gd Z h13 vA (own_vl f g 3) := (Gd.set c12_3 0 0 (by decide) (by decide) W13 V13).congr (own_vl_step rfl (by decide) (by decide) rfl)
  refine Go.via st13 ?_
  refine Vi (T13.setTop (mkF m 76 #[sR o0, sI 0, sI 0, sR (vA + 2 + 5 * 0 + 0), sR (dA + 2 + 5 * 0 + 0), sI 2] [(.double FP.dconst0), (.int 2), (.ref (dA + 2 + 5 * 0 + 0))])) (fun tZ kZ => ?_) ?_
  · refine XS.aload X13.here hx rfl (hb hby d10_71) rfl rfl ?_
    refine XS.iload X13.here hx rfl (hb hby d10_73) rfl ?_
    refine XS.dconst0 X13.here hx rfl (hb hby d10_75) rfl ?_
    exact kZ
  obtain ⟨T15, h15, X15, e15, W15, V15, st15⟩ := AV.dastore (c14_4.cell 0 0 (by decide) (by decide)) X13 hx hZ e13 (j := (2 : Int32)) (by decide) (Ls := #[sR o0, sI 0, sI 0, sR (vA + 2 + 5 * 0 + 0), sR (dA + 2 + 5 * 0 + 0), sI 2]) (rest := []) (hb hby d10_76) (x := FP.dconst0)
  have N15 := Fr.snoc X15 N13 (Nat.le_trans ha6 (show dA ≤ (dA + 2 + 5 * 0 + 0) by omega))
  have c16_0 := c14_0.wr W15
  have c16_1 := c14_1.other W15 (Or.inl (own_na (by omega)))
  have c16_2 := c14_2.other W15 (Or.inl (own_na (by omega)))
  have c16_3 := Gw13.other W15 (by omega)
  have c16_4 := c14_4
  have K15 : Keep h0 h15 [(vA + 2 + 5 * 0 + 0), (dA + 2 + 5 * 0 + 0), (vA + 2 + 5 * 0 + 1), (dA + 2 + 5 * 0 + 1), (vA + 2 + 5 * 0 + 2), (dA + 2 + 5 * 0 + 2), (vA + 2 + 5 * 0 + 3), (dA + 2 + 5 * 0 + 3), (vA + 2 + 5 * 1 + 0), (dA + 2 + 5 * 1 + 0), (vA + 2 + 5 * 1 + 1), (dA + 2 + 5 * 1 + 1), (vA + 2 + 5 * 1 + 2), (dA + 2 + 5 * 1 + 2), (vA + 2 + 5 * 1 + 3), (dA + 2 + 5 * 1 + 3)] := K13.wr W15 (Or.inl (by simp))
  have Z15 := Nat.le_trans Z13 (Keep.of_wr W15).1
  have Gw15 : Gd Z h15 dA (own_dp g 3) := (Gd.set c14_4 0 0 (by decide) (by decide) W15 V15).congr (own_dp_step rfl (by decide) (by decide))
  refine Go.via st15 ?_
  refine Vi (T15.setTop (mkF m 15 #[sR o0, sI 0, sI 1, sR (vA + 2 + 5 * 0 + 0), sR (dA + 2 + 5 * 0 + 0), sI 3] [(.ref o0), (.int 1)])) (fun tZ kZ => ?_) ?_
  · refine XS.iinc X15.here hx rfl (hb hby d10_77) rfl (l' := #[sR o0, sI 0, sI 0, sR (vA + 2 + 5 * 0 + 0), sR (dA + 2 + 5 * 0 + 0), sI 3]) rfl ?_
    refine XS.goto X15.here hx rfl (pc0 := 80) (pc' := 46) rfl (hb hby d10_80) (by decide) (by decide) ?_
    refine XS.iload X15.here hx rfl (hb hby d10_46) rfl ?_
    refine XS.aloadN X15.here hx rfl (hb hby d10_48) rfl rfl ?_
    refine AV.len (c16_3.cell 0 0 (by decide) (by decide)) X15 hx hZ e15 (hb hby d10_49) ?_
    refine XS.icmpYes X15.here hx rfl (pc0 := 50) (pc' := 83) rfl (hb hby d10_50) rfl (flt (by decide)).2.1 (by decide) (by decide) ?_
    refine XS.iinc X15.here hx rfl (hb hby d10_83) rfl (l' := #[sR o0, sI 0, sI 1, sR (vA + 2 + 5 * 0 + 0), sR (dA + 2 + 5 * 0 + 0), sI 3]) rfl ?_
    refine XS.goto X15.here hx rfl (pc0 := 86) (pc' := 13) rfl (hb hby d10_86) (by decide) (by decide) ?_
    refine XS.iloadN X15.here hx rfl (hb hby d10_13) rfl ?_
    refine XS.aloadN X15.here hx rfl (hb hby d10_14) rfl rfl ?_
    exact kZ
  refine GF X15 hx hZ hown (wq hw 38 rfl) e15 c16_1 (hb hby d10_15) fun T17 X17 e17 => ?_
  refine Vi (T17.setTop (mkF m 25 #[sR o0, sI 0, sI 1, sR (vA + 2 + 5 * 0 + 0), sR (dA + 2 + 5 * 0 + 0), sI 3] [(.ref o0)])) (fun tZ kZ => ?_) ?_
  · refine XS.iloadN X17.here hx rfl (hb hby d10_18) rfl ?_
    refine AV.aaload c16_3.top rfl X17 hx hZ e17 (j := (0 : Int32)) (by decide) (hb hby d10_19) ?_
    refine AV.len (c16_3.row 0 (by decide)) X17 hx hZ e17 (hb hby d10_20) ?_
    refine XS.icmpNo X17.here hx rfl (hb hby d10_21) rfl (tlt (by decide)).2.1 ?_
    refine XS.aloadN X17.here hx rfl (hb hby d10_24) rfl rfl ?_
    exact kZ
  refine GF X17 hx hZ hown (wq hw 38 rfl) e17 c16_1 (hb hby d10_25) fun T18 X18 e18 => ?_
  refine Vi (T18.setTop (mkF m 34 #[sR o0, sI 0, sI 1, sR (vA + 2 + 5 * 0 + 1), sR (dA + 2 + 5 * 0 + 0), sI 3] [(.ref o0)])) (fun tZ kZ => ?_) ?_
  · refine XS.iloadN X18.here hx rfl (hb hby d10_28) rfl ?_
    refine AV.aaload c16_3.top rfl X18 hx hZ e18 (j := (0 : Int32)) (by decide) (hb hby d10_29) ?_
    refine XS.iloadN X18.here hx rfl (hb hby d10_30) rfl ?_
    refine AV.aaload (c16_3.row 0 (by decide)) rfl X18 hx hZ e18 (j := (1 : Int32)) (by decide) (hb hby d10_31) ?_
    refine XS.astoreN X18.here hx rfl (hb hby d10_32) rfl rfl (l' := #[sR o0, sI 0, sI 1, sR (vA + 2 + 5 * 0 + 1), sR (dA + 2 + 5 * 0 + 0), sI 3]) rfl ?_
    refine XS.aloadN X18.here hx rfl (hb hby d10_33) rfl rfl ?_
    exact kZ
  refine GF X18 hx hZ hown (wq hw 40 rfl) e18 c16_2 (hb hby d10_34) fun T19 X19 e19 => ?_
  refine Vi (T19.setTop (mkF m 70 #[sR o0, sI 0, sI 1, sR (vA + 2 + 5 * 0 + 1), sR (dA + 2 + 5 * 0 + 1), sI 0] [(.double (FP.dadd (FP.dmul (4606732058837280358 : UInt64) (((own_vl f g 3) 0 1) (0 : Int32).toNatClampNeg)) (((own_dp g 3) 0 1) (0 : Int32).toNatClampNeg))), (.int 0), (.ref (vA + 2 + 5 * 0 + 1))])) (fun tZ kZ => ?_) ?_
  · refine XS.iloadN X19.here hx rfl (hb hby d10_37) rfl ?_
    refine AV.aaload Gw15.top rfl X19 hx hZ e19 (j := (0 : Int32)) (by decide) (hb hby d10_38) ?_
    refine XS.iloadN X19.here hx rfl (hb hby d10_39) rfl ?_
    refine AV.aaload (Gw15.row 0 (by decide)) rfl X19 hx hZ e19 (j := (1 : Int32)) (by decide) (hb hby d10_40) ?_
    refine XS.astore X19.here hx rfl (hb hby d10_41) rfl rfl (l' := #[sR o0, sI 0, sI 1, sR (vA + 2 + 5 * 0 + 1), sR (dA + 2 + 5 * 0 + 1), sI 3]) rfl ?_
    refine XS.iconst X19.here hx rfl (hb hby d10_43) ?_
    refine XS.istore X19.here hx rfl (hb hby d10_44) rfl (l' := #[sR o0, sI 0, sI 1, sR (vA + 2 + 5 * 0 + 1), sR (dA + 2 + 5 * 0 + 1), sI 0]) rfl ?_
    refine XS.iload X19.here hx rfl (hb hby d10_46) rfl ?_
    refine XS.aloadN X19.here hx rfl (hb hby d10_48) rfl rfl ?_
    refine AV.len (c16_3.cell 0 1 (by decide) (by decide)) X19 hx hZ e19 (hb hby d10_49) ?_
    refine XS.icmpNo X19.here hx rfl (hb hby d10_50) rfl (tlt (by decide)).2.1 ?_
    refine XS.aloadN X19.here hx rfl (hb hby d10_53) rfl rfl ?_
    refine XS.iload X19.here hx rfl (hb hby d10_54) rfl ?_
    refine X19.ldc2DoubleC hx hown (wz hZ hw 76 rfl) (g := (mkF m 56 #[sR o0, sI 0, sI 1, sR (vA + 2 + 5 * 0 + 1), sR (dA + 2 + 5 * 0 + 1), sI 0] [(.int 0), (.ref (vA + 2 + 5 * 0 + 1))])) rfl (hb hby d10_56) _ ?_
    refine XS.aloadN X19.here hx rfl (hb hby d10_59) rfl rfl ?_
    refine XS.iload X19.here hx rfl (hb hby d10_60) rfl ?_
    refine AV.daload (c16_3.cell 0 1 (by decide) (by decide)) X19 hx hZ e19 (j := (0 : Int32)) (by decide) (hb hby d10_62) ?_
    refine XS.dmulS X19.here hx rfl (hb hby d10_63) rfl (hnn 0 1 0 (by decide) (by decide) (by decide)).1 rfl ?_
    refine XS.aload X19.here hx rfl (hb hby d10_64) rfl rfl ?_
    refine XS.iload X19.here hx rfl (hb hby d10_66) rfl ?_
    refine AV.daload (Gw15.cell 0 1 (by decide) (by decide)) X19 hx hZ e19 (j := (0 : Int32)) (by decide) (hb hby d10_68) ?_
    refine XS.daddS X19.here hx rfl (hb hby d10_69) rfl (hnn 0 1 0 (by decide) (by decide) (by decide)).2 rfl ?_
    exact kZ
  obtain ⟨T20, h20, X20, e20, W20, V20, st20⟩ := AV.dastore (c16_3.cell 0 1 (by decide) (by decide)) X19 hx hZ e19 (j := (0 : Int32)) (by decide) (Ls := #[sR o0, sI 0, sI 1, sR (vA + 2 + 5 * 0 + 1), sR (dA + 2 + 5 * 0 + 1), sI 0]) (rest := []) (hb hby d10_70) (x := (FP.dadd (FP.dmul (4606732058837280358 : UInt64) (((own_vl f g 3) 0 1) (0 : Int32).toNatClampNeg)) (((own_dp g 3) 0 1) (0 : Int32).toNatClampNeg)))
  have N20 := Fr.snoc X20 N15 (Nat.le_trans ha5 (show vA ≤ (vA + 2 + 5 * 0 + 1) by omega))
  have c21_0 := c16_0.wr W20
  have c21_1 := c16_1.other W20 (Or.inl (own_na (by omega)))
  have c21_2 := c16_2.other W20 (Or.inl (own_na (by omega)))
  have c21_3 := c16_3
  have c21_4 := Gw15.other W20 (by omega)
  have K20 : Keep h0 h20 [(vA + 2 + 5 * 0 + 0), (dA + 2 + 5 * 0 + 0), (vA + 2 + 5 * 0 + 1), (dA + 2 + 5 * 0 + 1), (vA + 2 + 5 * 0 + 2), (dA + 2 + 5 * 0 + 2), (vA + 2 + 5 * 0 + 3), (dA + 2 + 5 * 0 + 3), (vA + 2 + 5 * 1 + 0), (dA + 2 + 5 * 1 + 0), (vA + 2 + 5 * 1 + 1), (dA + 2 + 5 * 1 + 1), (vA + 2 + 5 * 1 + 2), (dA + 2 + 5 * 1 + 2), (vA + 2 + 5 * 1 + 3), (dA + 2 + 5 * 1 + 3)] := K15.wr W20 (Or.inl (by simp))
  have Z20 := Nat.le_trans Z15 (Keep.of_wr W20).1
  have Gw20 : Gd Z h20 vA (own_vl f g 4) := (Gd.set c16_3 0 1 (by decide) (by decide) W20 V20).congr (own_vl_step rfl (by decide) (by decide) rfl)
  refine Go.via st20 ?_
  refine Vi (T20.setTop (mkF m 76 #[sR o0, sI 0, sI 1, sR (vA + 2 + 5 * 0 + 1), sR (dA + 2 + 5 * 0 + 1), sI 0] [(.double FP.dconst0), (.int 0), (.ref (dA + 2 + 5 * 0 + 1))])) (fun tZ kZ => ?_) ?_
  · refine XS.aload X20.here hx rfl (hb hby d10_71) rfl rfl ?_
    refine XS.iload X20.here hx rfl (hb hby d10_73) rfl ?_
    refine XS.dconst0 X20.here hx rfl (hb hby d10_75) rfl ?_
    exact kZ
  obtain ⟨T22, h22, X22, e22, W22, V22, st22⟩ := AV.dastore (c21_4.cell 0 1 (by decide) (by decide)) X20 hx hZ e20 (j := (0 : Int32)) (by decide) (Ls := #[sR o0, sI 0, sI 1, sR (vA + 2 + 5 * 0 + 1), sR (dA + 2 + 5 * 0 + 1), sI 0]) (rest := []) (hb hby d10_76) (x := FP.dconst0)
  have N22 := Fr.snoc X22 N20 (Nat.le_trans ha6 (show dA ≤ (dA + 2 + 5 * 0 + 1) by omega))
  have c23_0 := c21_0.wr W22
  have c23_1 := c21_1.other W22 (Or.inl (own_na (by omega)))
  have c23_2 := c21_2.other W22 (Or.inl (own_na (by omega)))
  have c23_3 := Gw20.other W22 (by omega)
  have c23_4 := c21_4
  have K22 : Keep h0 h22 [(vA + 2 + 5 * 0 + 0), (dA + 2 + 5 * 0 + 0), (vA + 2 + 5 * 0 + 1), (dA + 2 + 5 * 0 + 1), (vA + 2 + 5 * 0 + 2), (dA + 2 + 5 * 0 + 2), (vA + 2 + 5 * 0 + 3), (dA + 2 + 5 * 0 + 3), (vA + 2 + 5 * 1 + 0), (dA + 2 + 5 * 1 + 0), (vA + 2 + 5 * 1 + 1), (dA + 2 + 5 * 1 + 1), (vA + 2 + 5 * 1 + 2), (dA + 2 + 5 * 1 + 2), (vA + 2 + 5 * 1 + 3), (dA + 2 + 5 * 1 + 3)] := K20.wr W22 (Or.inl (by simp))
  have Z22 := Nat.le_trans Z20 (Keep.of_wr W22).1
  have Gw22 : Gd Z h22 dA (own_dp g 4) := (Gd.set c21_4 0 1 (by decide) (by decide) W22 V22).congr (own_dp_step rfl (by decide) (by decide))
  refine Go.via st22 ?_
  refine Vi (T22.setTop (mkF m 70 #[sR o0, sI 0, sI 1, sR (vA + 2 + 5 * 0 + 1), sR (dA + 2 + 5 * 0 + 1), sI 1] [(.double (FP.dadd (FP.dmul (4606732058837280358 : UInt64) (((own_vl f g 4) 0 1) (1 : Int32).toNatClampNeg)) (((own_dp g 4) 0 1) (1 : Int32).toNatClampNeg))), (.int 1), (.ref (vA + 2 + 5 * 0 + 1))])) (fun tZ kZ => ?_) ?_
  · refine XS.iinc X22.here hx rfl (hb hby d10_77) rfl (l' := #[sR o0, sI 0, sI 1, sR (vA + 2 + 5 * 0 + 1), sR (dA + 2 + 5 * 0 + 1), sI 1]) rfl ?_
    refine XS.goto X22.here hx rfl (pc0 := 80) (pc' := 46) rfl (hb hby d10_80) (by decide) (by decide) ?_
    refine XS.iload X22.here hx rfl (hb hby d10_46) rfl ?_
    refine XS.aloadN X22.here hx rfl (hb hby d10_48) rfl rfl ?_
    refine AV.len (c23_3.cell 0 1 (by decide) (by decide)) X22 hx hZ e22 (hb hby d10_49) ?_
    refine XS.icmpNo X22.here hx rfl (hb hby d10_50) rfl (tlt (by decide)).2.1 ?_
    refine XS.aloadN X22.here hx rfl (hb hby d10_53) rfl rfl ?_
    refine XS.iload X22.here hx rfl (hb hby d10_54) rfl ?_
    refine X22.ldc2DoubleC hx hown (wz hZ hw 76 rfl) (g := (mkF m 56 #[sR o0, sI 0, sI 1, sR (vA + 2 + 5 * 0 + 1), sR (dA + 2 + 5 * 0 + 1), sI 1] [(.int 1), (.ref (vA + 2 + 5 * 0 + 1))])) rfl (hb hby d10_56) _ ?_
    refine XS.aloadN X22.here hx rfl (hb hby d10_59) rfl rfl ?_
    refine XS.iload X22.here hx rfl (hb hby d10_60) rfl ?_
    refine AV.daload (c23_3.cell 0 1 (by decide) (by decide)) X22 hx hZ e22 (j := (1 : Int32)) (by decide) (hb hby d10_62) ?_
    refine XS.dmulS X22.here hx rfl (hb hby d10_63) rfl (hnn 0 1 1 (by decide) (by decide) (by decide)).1 rfl ?_
    refine XS.aload X22.here hx rfl (hb hby d10_64) rfl rfl ?_
    refine XS.iload X22.here hx rfl (hb hby d10_66) rfl ?_
    refine AV.daload (Gw22.cell 0 1 (by decide) (by decide)) X22 hx hZ e22 (j := (1 : Int32)) (by decide) (hb hby d10_68) ?_
    refine XS.daddS X22.here hx rfl (hb hby d10_69) rfl (hnn 0 1 1 (by decide) (by decide) (by decide)).2 rfl ?_
    exact kZ
  obtain ⟨T24, h24, X24, e24, W24, V24, st24⟩ := AV.dastore (c23_3.cell 0 1 (by decide) (by decide)) X22 hx hZ e22 (j := (1 : Int32)) (by decide) (Ls := #[sR o0, sI 0, sI 1, sR (vA + 2 + 5 * 0 + 1), sR (dA + 2 + 5 * 0 + 1), sI 1]) (rest := []) (hb hby d10_70) (x := (FP.dadd (FP.dmul (4606732058837280358 : UInt64) (((own_vl f g 4) 0 1) (1 : Int32).toNatClampNeg)) (((own_dp g 4) 0 1) (1 : Int32).toNatClampNeg)))
  have N24 := Fr.snoc X24 N22 (Nat.le_trans ha5 (show vA ≤ (vA + 2 + 5 * 0 + 1) by omega))
  have c25_0 := c23_0.wr W24
  have c25_1 := c23_1.other W24 (Or.inl (own_na (by omega)))
  have c25_2 := c23_2.other W24 (Or.inl (own_na (by omega)))
  have c25_3 := c23_3
  have c25_4 := Gw22.other W24 (by omega)
  have K24 : Keep h0 h24 [(vA + 2 + 5 * 0 + 0), (dA + 2 + 5 * 0 + 0), (vA + 2 + 5 * 0 + 1), (dA + 2 + 5 * 0 + 1), (vA + 2 + 5 * 0 + 2), (dA + 2 + 5 * 0 + 2), (vA + 2 + 5 * 0 + 3), (dA + 2 + 5 * 0 + 3), (vA + 2 + 5 * 1 + 0), (dA + 2 + 5 * 1 + 0), (vA + 2 + 5 * 1 + 1), (dA + 2 + 5 * 1 + 1), (vA + 2 + 5 * 1 + 2), (dA + 2 + 5 * 1 + 2), (vA + 2 + 5 * 1 + 3), (dA + 2 + 5 * 1 + 3)] := K22.wr W24 (Or.inl (by simp))
  have Z24 := Nat.le_trans Z22 (Keep.of_wr W24).1
  have Gw24 : Gd Z h24 vA (own_vl f g 5) := (Gd.set c23_3 0 1 (by decide) (by decide) W24 V24).congr (own_vl_step rfl (by decide) (by decide) rfl)
  refine Go.via st24 ?_
  refine Vi (T24.setTop (mkF m 76 #[sR o0, sI 0, sI 1, sR (vA + 2 + 5 * 0 + 1), sR (dA + 2 + 5 * 0 + 1), sI 1] [(.double FP.dconst0), (.int 1), (.ref (dA + 2 + 5 * 0 + 1))])) (fun tZ kZ => ?_) ?_
  · refine XS.aload X24.here hx rfl (hb hby d10_71) rfl rfl ?_
    refine XS.iload X24.here hx rfl (hb hby d10_73) rfl ?_
    refine XS.dconst0 X24.here hx rfl (hb hby d10_75) rfl ?_
    exact kZ
  obtain ⟨T26, h26, X26, e26, W26, V26, st26⟩ := AV.dastore (c25_4.cell 0 1 (by decide) (by decide)) X24 hx hZ e24 (j := (1 : Int32)) (by decide) (Ls := #[sR o0, sI 0, sI 1, sR (vA + 2 + 5 * 0 + 1), sR (dA + 2 + 5 * 0 + 1), sI 1]) (rest := []) (hb hby d10_76) (x := FP.dconst0)
  have N26 := Fr.snoc X26 N24 (Nat.le_trans ha6 (show dA ≤ (dA + 2 + 5 * 0 + 1) by omega))
  have c27_0 := c25_0.wr W26
  have c27_1 := c25_1.other W26 (Or.inl (own_na (by omega)))
  have c27_2 := c25_2.other W26 (Or.inl (own_na (by omega)))
  have c27_3 := Gw24.other W26 (by omega)
  have c27_4 := c25_4
  have K26 : Keep h0 h26 [(vA + 2 + 5 * 0 + 0), (dA + 2 + 5 * 0 + 0), (vA + 2 + 5 * 0 + 1), (dA + 2 + 5 * 0 + 1), (vA + 2 + 5 * 0 + 2), (dA + 2 + 5 * 0 + 2), (vA + 2 + 5 * 0 + 3), (dA + 2 + 5 * 0 + 3), (vA + 2 + 5 * 1 + 0), (dA + 2 + 5 * 1 + 0), (vA + 2 + 5 * 1 + 1), (dA + 2 + 5 * 1 + 1), (vA + 2 + 5 * 1 + 2), (dA + 2 + 5 * 1 + 2), (vA + 2 + 5 * 1 + 3), (dA + 2 + 5 * 1 + 3)] := K24.wr W26 (Or.inl (by simp))
  have Z26 := Nat.le_trans Z24 (Keep.of_wr W26).1
  have Gw26 : Gd Z h26 dA (own_dp g 5) := (Gd.set c25_4 0 1 (by decide) (by decide) W26 V26).congr (own_dp_step rfl (by decide) (by decide))
  refine Go.via st26 ?_
  refine Vi (T26.setTop (mkF m 70 #[sR o0, sI 0, sI 1, sR (vA + 2 + 5 * 0 + 1), sR (dA + 2 + 5 * 0 + 1), sI 2] [(.double (FP.dadd (FP.dmul (4606732058837280358 : UInt64) (((own_vl f g 5) 0 1) (2 : Int32).toNatClampNeg)) (((own_dp g 5) 0 1) (2 : Int32).toNatClampNeg))), (.int 2), (.ref (vA + 2 + 5 * 0 + 1))])) (fun tZ kZ => ?_) ?_
  · refine XS.iinc X26.here hx rfl (hb hby d10_77) rfl (l' := #[sR o0, sI 0, sI 1, sR (vA + 2 + 5 * 0 + 1), sR (dA + 2 + 5 * 0 + 1), sI 2]) rfl ?_
    refine XS.goto X26.here hx rfl (pc0 := 80) (pc' := 46) rfl (hb hby d10_80) (by decide) (by decide) ?_
    refine XS.iload X26.here hx rfl (hb hby d10_46) rfl ?_
    refine XS.aloadN X26.here hx rfl (hb hby d10_48) rfl rfl ?_
    refine AV.len (c27_3.cell 0 1 (by decide) (by decide)) X26 hx hZ e26 (hb hby d10_49) ?_
    refine XS.icmpNo X26.here hx rfl (hb hby d10_50) rfl (tlt (by decide)).2.1 ?_
    refine XS.aloadN X26.here hx rfl (hb hby d10_53) rfl rfl ?_
    refine XS.iload X26.here hx rfl (hb hby d10_54) rfl ?_
    refine X26.ldc2DoubleC hx hown (wz hZ hw 76 rfl) (g := (mkF m 56 #[sR o0, sI 0, sI 1, sR (vA + 2 + 5 * 0 + 1), sR (dA + 2 + 5 * 0 + 1), sI 2] [(.int 2), (.ref (vA + 2 + 5 * 0 + 1))])) rfl (hb hby d10_56) _ ?_
    refine XS.aloadN X26.here hx rfl (hb hby d10_59) rfl rfl ?_
    refine XS.iload X26.here hx rfl (hb hby d10_60) rfl ?_
    refine AV.daload (c27_3.cell 0 1 (by decide) (by decide)) X26 hx hZ e26 (j := (2 : Int32)) (by decide) (hb hby d10_62) ?_
    refine XS.dmulS X26.here hx rfl (hb hby d10_63) rfl (hnn 0 1 2 (by decide) (by decide) (by decide)).1 rfl ?_
    refine XS.aload X26.here hx rfl (hb hby d10_64) rfl rfl ?_
    refine XS.iload X26.here hx rfl (hb hby d10_66) rfl ?_
    refine AV.daload (Gw26.cell 0 1 (by decide) (by decide)) X26 hx hZ e26 (j := (2 : Int32)) (by decide) (hb hby d10_68) ?_
    refine XS.daddS X26.here hx rfl (hb hby d10_69) rfl (hnn 0 1 2 (by decide) (by decide) (by decide)).2 rfl ?_
    exact kZ
  obtain ⟨T28, h28, X28, e28, W28, V28, st28⟩ := AV.dastore (c27_3.cell 0 1 (by decide) (by decide)) X26 hx hZ e26 (j := (2 : Int32)) (by decide) (Ls := #[sR o0, sI 0, sI 1, sR (vA + 2 + 5 * 0 + 1), sR (dA + 2 + 5 * 0 + 1), sI 2]) (rest := []) (hb hby d10_70) (x := (FP.dadd (FP.dmul (4606732058837280358 : UInt64) (((own_vl f g 5) 0 1) (2 : Int32).toNatClampNeg)) (((own_dp g 5) 0 1) (2 : Int32).toNatClampNeg)))
  have N28 := Fr.snoc X28 N26 (Nat.le_trans ha5 (show vA ≤ (vA + 2 + 5 * 0 + 1) by omega))
  have c29_0 := c27_0.wr W28
  have c29_1 := c27_1.other W28 (Or.inl (own_na (by omega)))
  have c29_2 := c27_2.other W28 (Or.inl (own_na (by omega)))
  have c29_3 := c27_3
  have c29_4 := Gw26.other W28 (by omega)
  have K28 : Keep h0 h28 [(vA + 2 + 5 * 0 + 0), (dA + 2 + 5 * 0 + 0), (vA + 2 + 5 * 0 + 1), (dA + 2 + 5 * 0 + 1), (vA + 2 + 5 * 0 + 2), (dA + 2 + 5 * 0 + 2), (vA + 2 + 5 * 0 + 3), (dA + 2 + 5 * 0 + 3), (vA + 2 + 5 * 1 + 0), (dA + 2 + 5 * 1 + 0), (vA + 2 + 5 * 1 + 1), (dA + 2 + 5 * 1 + 1), (vA + 2 + 5 * 1 + 2), (dA + 2 + 5 * 1 + 2), (vA + 2 + 5 * 1 + 3), (dA + 2 + 5 * 1 + 3)] := K26.wr W28 (Or.inl (by simp))
  have Z28 := Nat.le_trans Z26 (Keep.of_wr W28).1
  have Gw28 : Gd Z h28 vA (own_vl f g 6) := (Gd.set c27_3 0 1 (by decide) (by decide) W28 V28).congr (own_vl_step rfl (by decide) (by decide) rfl)
  refine Go.via st28 ?_
  refine Vi (T28.setTop (mkF m 76 #[sR o0, sI 0, sI 1, sR (vA + 2 + 5 * 0 + 1), sR (dA + 2 + 5 * 0 + 1), sI 2] [(.double FP.dconst0), (.int 2), (.ref (dA + 2 + 5 * 0 + 1))])) (fun tZ kZ => ?_) ?_
  · refine XS.aload X28.here hx rfl (hb hby d10_71) rfl rfl ?_
    refine XS.iload X28.here hx rfl (hb hby d10_73) rfl ?_
    refine XS.dconst0 X28.here hx rfl (hb hby d10_75) rfl ?_
    exact kZ
  obtain ⟨T30, h30, X30, e30, W30, V30, st30⟩ := AV.dastore (c29_4.cell 0 1 (by decide) (by decide)) X28 hx hZ e28 (j := (2 : Int32)) (by decide) (Ls := #[sR o0, sI 0, sI 1, sR (vA + 2 + 5 * 0 + 1), sR (dA + 2 + 5 * 0 + 1), sI 2]) (rest := []) (hb hby d10_76) (x := FP.dconst0)
  have N30 := Fr.snoc X30 N28 (Nat.le_trans ha6 (show dA ≤ (dA + 2 + 5 * 0 + 1) by omega))
  have c31_0 := c29_0.wr W30
  have c31_1 := c29_1.other W30 (Or.inl (own_na (by omega)))
  have c31_2 := c29_2.other W30 (Or.inl (own_na (by omega)))
  have c31_3 := Gw28.other W30 (by omega)
  have c31_4 := c29_4
  have K30 : Keep h0 h30 [(vA + 2 + 5 * 0 + 0), (dA + 2 + 5 * 0 + 0), (vA + 2 + 5 * 0 + 1), (dA + 2 + 5 * 0 + 1), (vA + 2 + 5 * 0 + 2), (dA + 2 + 5 * 0 + 2), (vA + 2 + 5 * 0 + 3), (dA + 2 + 5 * 0 + 3), (vA + 2 + 5 * 1 + 0), (dA + 2 + 5 * 1 + 0), (vA + 2 + 5 * 1 + 1), (dA + 2 + 5 * 1 + 1), (vA + 2 + 5 * 1 + 2), (dA + 2 + 5 * 1 + 2), (vA + 2 + 5 * 1 + 3), (dA + 2 + 5 * 1 + 3)] := K28.wr W30 (Or.inl (by simp))
  have Z30 := Nat.le_trans Z28 (Keep.of_wr W30).1
  have Gw30 : Gd Z h30 dA (own_dp g 6) := (Gd.set c29_4 0 1 (by decide) (by decide) W30 V30).congr (own_dp_step rfl (by decide) (by decide))
  refine Go.via st30 ?_
  refine Vi (T30.setTop (mkF m 15 #[sR o0, sI 0, sI 2, sR (vA + 2 + 5 * 0 + 1), sR (dA + 2 + 5 * 0 + 1), sI 3] [(.ref o0), (.int 2)])) (fun tZ kZ => ?_) ?_
  · refine XS.iinc X30.here hx rfl (hb hby d10_77) rfl (l' := #[sR o0, sI 0, sI 1, sR (vA + 2 + 5 * 0 + 1), sR (dA + 2 + 5 * 0 + 1), sI 3]) rfl ?_
    refine XS.goto X30.here hx rfl (pc0 := 80) (pc' := 46) rfl (hb hby d10_80) (by decide) (by decide) ?_
    refine XS.iload X30.here hx rfl (hb hby d10_46) rfl ?_
    refine XS.aloadN X30.here hx rfl (hb hby d10_48) rfl rfl ?_
    refine AV.len (c31_3.cell 0 1 (by decide) (by decide)) X30 hx hZ e30 (hb hby d10_49) ?_
    refine XS.icmpYes X30.here hx rfl (pc0 := 50) (pc' := 83) rfl (hb hby d10_50) rfl (flt (by decide)).2.1 (by decide) (by decide) ?_
    refine XS.iinc X30.here hx rfl (hb hby d10_83) rfl (l' := #[sR o0, sI 0, sI 2, sR (vA + 2 + 5 * 0 + 1), sR (dA + 2 + 5 * 0 + 1), sI 3]) rfl ?_
    refine XS.goto X30.here hx rfl (pc0 := 86) (pc' := 13) rfl (hb hby d10_86) (by decide) (by decide) ?_
    refine XS.iloadN X30.here hx rfl (hb hby d10_13) rfl ?_
    refine XS.aloadN X30.here hx rfl (hb hby d10_14) rfl rfl ?_
    exact kZ
  refine GF X30 hx hZ hown (wq hw 38 rfl) e30 c31_1 (hb hby d10_15) fun T32 X32 e32 => ?_
  refine Vi (T32.setTop (mkF m 25 #[sR o0, sI 0, sI 2, sR (vA + 2 + 5 * 0 + 1), sR (dA + 2 + 5 * 0 + 1), sI 3] [(.ref o0)])) (fun tZ kZ => ?_) ?_
  · refine XS.iloadN X32.here hx rfl (hb hby d10_18) rfl ?_
    refine AV.aaload c31_3.top rfl X32 hx hZ e32 (j := (0 : Int32)) (by decide) (hb hby d10_19) ?_
    refine AV.len (c31_3.row 0 (by decide)) X32 hx hZ e32 (hb hby d10_20) ?_
    refine XS.icmpNo X32.here hx rfl (hb hby d10_21) rfl (tlt (by decide)).2.1 ?_
    refine XS.aloadN X32.here hx rfl (hb hby d10_24) rfl rfl ?_
    exact kZ
  refine GF X32 hx hZ hown (wq hw 38 rfl) e32 c31_1 (hb hby d10_25) fun T33 X33 e33 => ?_
  refine Vi (T33.setTop (mkF m 34 #[sR o0, sI 0, sI 2, sR (vA + 2 + 5 * 0 + 2), sR (dA + 2 + 5 * 0 + 1), sI 3] [(.ref o0)])) (fun tZ kZ => ?_) ?_
  · refine XS.iloadN X33.here hx rfl (hb hby d10_28) rfl ?_
    refine AV.aaload c31_3.top rfl X33 hx hZ e33 (j := (0 : Int32)) (by decide) (hb hby d10_29) ?_
    refine XS.iloadN X33.here hx rfl (hb hby d10_30) rfl ?_
    refine AV.aaload (c31_3.row 0 (by decide)) rfl X33 hx hZ e33 (j := (2 : Int32)) (by decide) (hb hby d10_31) ?_
    refine XS.astoreN X33.here hx rfl (hb hby d10_32) rfl rfl (l' := #[sR o0, sI 0, sI 2, sR (vA + 2 + 5 * 0 + 2), sR (dA + 2 + 5 * 0 + 1), sI 3]) rfl ?_
    refine XS.aloadN X33.here hx rfl (hb hby d10_33) rfl rfl ?_
    exact kZ
  refine GF X33 hx hZ hown (wq hw 40 rfl) e33 c31_2 (hb hby d10_34) fun T34 X34 e34 => ?_
  refine Vi (T34.setTop (mkF m 70 #[sR o0, sI 0, sI 2, sR (vA + 2 + 5 * 0 + 2), sR (dA + 2 + 5 * 0 + 2), sI 0] [(.double (FP.dadd (FP.dmul (4606732058837280358 : UInt64) (((own_vl f g 6) 0 2) (0 : Int32).toNatClampNeg)) (((own_dp g 6) 0 2) (0 : Int32).toNatClampNeg))), (.int 0), (.ref (vA + 2 + 5 * 0 + 2))])) (fun tZ kZ => ?_) ?_
  · refine XS.iloadN X34.here hx rfl (hb hby d10_37) rfl ?_
    refine AV.aaload Gw30.top rfl X34 hx hZ e34 (j := (0 : Int32)) (by decide) (hb hby d10_38) ?_
    refine XS.iloadN X34.here hx rfl (hb hby d10_39) rfl ?_
    refine AV.aaload (Gw30.row 0 (by decide)) rfl X34 hx hZ e34 (j := (2 : Int32)) (by decide) (hb hby d10_40) ?_
    refine XS.astore X34.here hx rfl (hb hby d10_41) rfl rfl (l' := #[sR o0, sI 0, sI 2, sR (vA + 2 + 5 * 0 + 2), sR (dA + 2 + 5 * 0 + 2), sI 3]) rfl ?_
    refine XS.iconst X34.here hx rfl (hb hby d10_43) ?_
    refine XS.istore X34.here hx rfl (hb hby d10_44) rfl (l' := #[sR o0, sI 0, sI 2, sR (vA + 2 + 5 * 0 + 2), sR (dA + 2 + 5 * 0 + 2), sI 0]) rfl ?_
    refine XS.iload X34.here hx rfl (hb hby d10_46) rfl ?_
    refine XS.aloadN X34.here hx rfl (hb hby d10_48) rfl rfl ?_
    refine AV.len (c31_3.cell 0 2 (by decide) (by decide)) X34 hx hZ e34 (hb hby d10_49) ?_
    refine XS.icmpNo X34.here hx rfl (hb hby d10_50) rfl (tlt (by decide)).2.1 ?_
    refine XS.aloadN X34.here hx rfl (hb hby d10_53) rfl rfl ?_
    refine XS.iload X34.here hx rfl (hb hby d10_54) rfl ?_
    refine X34.ldc2DoubleC hx hown (wz hZ hw 76 rfl) (g := (mkF m 56 #[sR o0, sI 0, sI 2, sR (vA + 2 + 5 * 0 + 2), sR (dA + 2 + 5 * 0 + 2), sI 0] [(.int 0), (.ref (vA + 2 + 5 * 0 + 2))])) rfl (hb hby d10_56) _ ?_
    refine XS.aloadN X34.here hx rfl (hb hby d10_59) rfl rfl ?_
    refine XS.iload X34.here hx rfl (hb hby d10_60) rfl ?_
    refine AV.daload (c31_3.cell 0 2 (by decide) (by decide)) X34 hx hZ e34 (j := (0 : Int32)) (by decide) (hb hby d10_62) ?_
    refine XS.dmulS X34.here hx rfl (hb hby d10_63) rfl (hnn 0 2 0 (by decide) (by decide) (by decide)).1 rfl ?_
    refine XS.aload X34.here hx rfl (hb hby d10_64) rfl rfl ?_
    refine XS.iload X34.here hx rfl (hb hby d10_66) rfl ?_
    refine AV.daload (Gw30.cell 0 2 (by decide) (by decide)) X34 hx hZ e34 (j := (0 : Int32)) (by decide) (hb hby d10_68) ?_
    refine XS.daddS X34.here hx rfl (hb hby d10_69) rfl (hnn 0 2 0 (by decide) (by decide) (by decide)).2 rfl ?_
    exact kZ
  obtain ⟨T35, h35, X35, e35, W35, V35, st35⟩ := AV.dastore (c31_3.cell 0 2 (by decide) (by decide)) X34 hx hZ e34 (j := (0 : Int32)) (by decide) (Ls := #[sR o0, sI 0, sI 2, sR (vA + 2 + 5 * 0 + 2), sR (dA + 2 + 5 * 0 + 2), sI 0]) (rest := []) (hb hby d10_70) (x := (FP.dadd (FP.dmul (4606732058837280358 : UInt64) (((own_vl f g 6) 0 2) (0 : Int32).toNatClampNeg)) (((own_dp g 6) 0 2) (0 : Int32).toNatClampNeg)))
  have N35 := Fr.snoc X35 N30 (Nat.le_trans ha5 (show vA ≤ (vA + 2 + 5 * 0 + 2) by omega))
  have c36_0 := c31_0.wr W35
  have c36_1 := c31_1.other W35 (Or.inl (own_na (by omega)))
  have c36_2 := c31_2.other W35 (Or.inl (own_na (by omega)))
  have c36_3 := c31_3
  have c36_4 := Gw30.other W35 (by omega)
  have K35 : Keep h0 h35 [(vA + 2 + 5 * 0 + 0), (dA + 2 + 5 * 0 + 0), (vA + 2 + 5 * 0 + 1), (dA + 2 + 5 * 0 + 1), (vA + 2 + 5 * 0 + 2), (dA + 2 + 5 * 0 + 2), (vA + 2 + 5 * 0 + 3), (dA + 2 + 5 * 0 + 3), (vA + 2 + 5 * 1 + 0), (dA + 2 + 5 * 1 + 0), (vA + 2 + 5 * 1 + 1), (dA + 2 + 5 * 1 + 1), (vA + 2 + 5 * 1 + 2), (dA + 2 + 5 * 1 + 2), (vA + 2 + 5 * 1 + 3), (dA + 2 + 5 * 1 + 3)] := K30.wr W35 (Or.inl (by simp))
  have Z35 := Nat.le_trans Z30 (Keep.of_wr W35).1
  have Gw35 : Gd Z h35 vA (own_vl f g 7) := (Gd.set c31_3 0 2 (by decide) (by decide) W35 V35).congr (own_vl_step rfl (by decide) (by decide) rfl)
  refine Go.via st35 ?_
  refine Vi (T35.setTop (mkF m 76 #[sR o0, sI 0, sI 2, sR (vA + 2 + 5 * 0 + 2), sR (dA + 2 + 5 * 0 + 2), sI 0] [(.double FP.dconst0), (.int 0), (.ref (dA + 2 + 5 * 0 + 2))])) (fun tZ kZ => ?_) ?_
  · refine XS.aload X35.here hx rfl (hb hby d10_71) rfl rfl ?_
    refine XS.iload X35.here hx rfl (hb hby d10_73) rfl ?_
    refine XS.dconst0 X35.here hx rfl (hb hby d10_75) rfl ?_
    exact kZ
  obtain ⟨T37, h37, X37, e37, W37, V37, st37⟩ := AV.dastore (c36_4.cell 0 2 (by decide) (by decide)) X35 hx hZ e35 (j := (0 : Int32)) (by decide) (Ls := #[sR o0, sI 0, sI 2, sR (vA + 2 + 5 * 0 + 2), sR (dA + 2 + 5 * 0 + 2), sI 0]) (rest := []) (hb hby d10_76) (x := FP.dconst0)
  have N37 := Fr.snoc X37 N35 (Nat.le_trans ha6 (show dA ≤ (dA + 2 + 5 * 0 + 2) by omega))
  have c38_0 := c36_0.wr W37
  have c38_1 := c36_1.other W37 (Or.inl (own_na (by omega)))
  have c38_2 := c36_2.other W37 (Or.inl (own_na (by omega)))
  have c38_3 := Gw35.other W37 (by omega)
  have c38_4 := c36_4
  have K37 : Keep h0 h37 [(vA + 2 + 5 * 0 + 0), (dA + 2 + 5 * 0 + 0), (vA + 2 + 5 * 0 + 1), (dA + 2 + 5 * 0 + 1), (vA + 2 + 5 * 0 + 2), (dA + 2 + 5 * 0 + 2), (vA + 2 + 5 * 0 + 3), (dA + 2 + 5 * 0 + 3), (vA + 2 + 5 * 1 + 0), (dA + 2 + 5 * 1 + 0), (vA + 2 + 5 * 1 + 1), (dA + 2 + 5 * 1 + 1), (vA + 2 + 5 * 1 + 2), (dA + 2 + 5 * 1 + 2), (vA + 2 + 5 * 1 + 3), (dA + 2 + 5 * 1 + 3)] := K35.wr W37 (Or.inl (by simp))
  have Z37 := Nat.le_trans Z35 (Keep.of_wr W37).1
  have Gw37 : Gd Z h37 dA (own_dp g 7) := (Gd.set c36_4 0 2 (by decide) (by decide) W37 V37).congr (own_dp_step rfl (by decide) (by decide))
  refine Go.via st37 ?_
  refine Vi (T37.setTop (mkF m 70 #[sR o0, sI 0, sI 2, sR (vA + 2 + 5 * 0 + 2), sR (dA + 2 + 5 * 0 + 2), sI 1] [(.double (FP.dadd (FP.dmul (4606732058837280358 : UInt64) (((own_vl f g 7) 0 2) (1 : Int32).toNatClampNeg)) (((own_dp g 7) 0 2) (1 : Int32).toNatClampNeg))), (.int 1), (.ref (vA + 2 + 5 * 0 + 2))])) (fun tZ kZ => ?_) ?_
  · refine XS.iinc X37.here hx rfl (hb hby d10_77) rfl (l' := #[sR o0, sI 0, sI 2, sR (vA + 2 + 5 * 0 + 2), sR (dA + 2 + 5 * 0 + 2), sI 1]) rfl ?_
    refine XS.goto X37.here hx rfl (pc0 := 80) (pc' := 46) rfl (hb hby d10_80) (by decide) (by decide) ?_
    refine XS.iload X37.here hx rfl (hb hby d10_46) rfl ?_
    refine XS.aloadN X37.here hx rfl (hb hby d10_48) rfl rfl ?_
    refine AV.len (c38_3.cell 0 2 (by decide) (by decide)) X37 hx hZ e37 (hb hby d10_49) ?_
    refine XS.icmpNo X37.here hx rfl (hb hby d10_50) rfl (tlt (by decide)).2.1 ?_
    refine XS.aloadN X37.here hx rfl (hb hby d10_53) rfl rfl ?_
    refine XS.iload X37.here hx rfl (hb hby d10_54) rfl ?_
    refine X37.ldc2DoubleC hx hown (wz hZ hw 76 rfl) (g := (mkF m 56 #[sR o0, sI 0, sI 2, sR (vA + 2 + 5 * 0 + 2), sR (dA + 2 + 5 * 0 + 2), sI 1] [(.int 1), (.ref (vA + 2 + 5 * 0 + 2))])) rfl (hb hby d10_56) _ ?_
    refine XS.aloadN X37.here hx rfl (hb hby d10_59) rfl rfl ?_
    refine XS.iload X37.here hx rfl (hb hby d10_60) rfl ?_
    refine AV.daload (c38_3.cell 0 2 (by decide) (by decide)) X37 hx hZ e37 (j := (1 : Int32)) (by decide) (hb hby d10_62) ?_
    refine XS.dmulS X37.here hx rfl (hb hby d10_63) rfl (hnn 0 2 1 (by decide) (by decide) (by decide)).1 rfl ?_
    refine XS.aload X37.here hx rfl (hb hby d10_64) rfl rfl ?_
    refine XS.iload X37.here hx rfl (hb hby d10_66) rfl ?_
    refine AV.daload (Gw37.cell 0 2 (by decide) (by decide)) X37 hx hZ e37 (j := (1 : Int32)) (by decide) (hb hby d10_68) ?_
    refine XS.daddS X37.here hx rfl (hb hby d10_69) rfl (hnn 0 2 1 (by decide) (by decide) (by decide)).2 rfl ?_
    exact kZ
  obtain ⟨T39, h39, X39, e39, W39, V39, st39⟩ := AV.dastore (c38_3.cell 0 2 (by decide) (by decide)) X37 hx hZ e37 (j := (1 : Int32)) (by decide) (Ls := #[sR o0, sI 0, sI 2, sR (vA + 2 + 5 * 0 + 2), sR (dA + 2 + 5 * 0 + 2), sI 1]) (rest := []) (hb hby d10_70) (x := (FP.dadd (FP.dmul (4606732058837280358 : UInt64) (((own_vl f g 7) 0 2) (1 : Int32).toNatClampNeg)) (((own_dp g 7) 0 2) (1 : Int32).toNatClampNeg)))
  have N39 := Fr.snoc X39 N37 (Nat.le_trans ha5 (show vA ≤ (vA + 2 + 5 * 0 + 2) by omega))
  have c40_0 := c38_0.wr W39
  have c40_1 := c38_1.other W39 (Or.inl (own_na (by omega)))
  have c40_2 := c38_2.other W39 (Or.inl (own_na (by omega)))
  have c40_3 := c38_3
  have c40_4 := Gw37.other W39 (by omega)
  have K39 : Keep h0 h39 [(vA + 2 + 5 * 0 + 0), (dA + 2 + 5 * 0 + 0), (vA + 2 + 5 * 0 + 1), (dA + 2 + 5 * 0 + 1), (vA + 2 + 5 * 0 + 2), (dA + 2 + 5 * 0 + 2), (vA + 2 + 5 * 0 + 3), (dA + 2 + 5 * 0 + 3), (vA + 2 + 5 * 1 + 0), (dA + 2 + 5 * 1 + 0), (vA + 2 + 5 * 1 + 1), (dA + 2 + 5 * 1 + 1), (vA + 2 + 5 * 1 + 2), (dA + 2 + 5 * 1 + 2), (vA + 2 + 5 * 1 + 3), (dA + 2 + 5 * 1 + 3)] := K37.wr W39 (Or.inl (by simp))
  have Z39 := Nat.le_trans Z37 (Keep.of_wr W39).1
  have Gw39 : Gd Z h39 vA (own_vl f g 8) := (Gd.set c38_3 0 2 (by decide) (by decide) W39 V39).congr (own_vl_step rfl (by decide) (by decide) rfl)
  refine Go.via st39 ?_
  refine Vi (T39.setTop (mkF m 76 #[sR o0, sI 0, sI 2, sR (vA + 2 + 5 * 0 + 2), sR (dA + 2 + 5 * 0 + 2), sI 1] [(.double FP.dconst0), (.int 1), (.ref (dA + 2 + 5 * 0 + 2))])) (fun tZ kZ => ?_) ?_
  · refine XS.aload X39.here hx rfl (hb hby d10_71) rfl rfl ?_
    refine XS.iload X39.here hx rfl (hb hby d10_73) rfl ?_
    refine XS.dconst0 X39.here hx rfl (hb hby d10_75) rfl ?_
    exact kZ
  obtain ⟨T41, h41, X41, e41, W41, V41, st41⟩ := AV.dastore (c40_4.cell 0 2 (by decide) (by decide)) X39 hx hZ e39 (j := (1 : Int32)) (by decide) (Ls := #[sR o0, sI 0, sI 2, sR (vA + 2 + 5 * 0 + 2), sR (dA + 2 + 5 * 0 + 2), sI 1]) (rest := []) (hb hby d10_76) (x := FP.dconst0)
  have N41 := Fr.snoc X41 N39 (Nat.le_trans ha6 (show dA ≤ (dA + 2 + 5 * 0 + 2) by omega))
  have c42_0 := c40_0.wr W41
  have c42_1 := c40_1.other W41 (Or.inl (own_na (by omega)))
  have c42_2 := c40_2.other W41 (Or.inl (own_na (by omega)))
  have c42_3 := Gw39.other W41 (by omega)
  have c42_4 := c40_4
  have K41 : Keep h0 h41 [(vA + 2 + 5 * 0 + 0), (dA + 2 + 5 * 0 + 0), (vA + 2 + 5 * 0 + 1), (dA + 2 + 5 * 0 + 1), (vA + 2 + 5 * 0 + 2), (dA + 2 + 5 * 0 + 2), (vA + 2 + 5 * 0 + 3), (dA + 2 + 5 * 0 + 3), (vA + 2 + 5 * 1 + 0), (dA + 2 + 5 * 1 + 0), (vA + 2 + 5 * 1 + 1), (dA + 2 + 5 * 1 + 1), (vA + 2 + 5 * 1 + 2), (dA + 2 + 5 * 1 + 2), (vA + 2 + 5 * 1 + 3), (dA + 2 + 5 * 1 + 3)] := K39.wr W41 (Or.inl (by simp))
  have Z41 := Nat.le_trans Z39 (Keep.of_wr W41).1
  have Gw41 : Gd Z h41 dA (own_dp g 8) := (Gd.set c40_4 0 2 (by decide) (by decide) W41 V41).congr (own_dp_step rfl (by decide) (by decide))
  refine Go.via st41 ?_
  refine Vi (T41.setTop (mkF m 70 #[sR o0, sI 0, sI 2, sR (vA + 2 + 5 * 0 + 2), sR (dA + 2 + 5 * 0 + 2), sI 2] [(.double (FP.dadd (FP.dmul (4606732058837280358 : UInt64) (((own_vl f g 8) 0 2) (2 : Int32).toNatClampNeg)) (((own_dp g 8) 0 2) (2 : Int32).toNatClampNeg))), (.int 2), (.ref (vA + 2 + 5 * 0 + 2))])) (fun tZ kZ => ?_) ?_
  · refine XS.iinc X41.here hx rfl (hb hby d10_77) rfl (l' := #[sR o0, sI 0, sI 2, sR (vA + 2 + 5 * 0 + 2), sR (dA + 2 + 5 * 0 + 2), sI 2]) rfl ?_
    refine XS.goto X41.here hx rfl (pc0 := 80) (pc' := 46) rfl (hb hby d10_80) (by decide) (by decide) ?_
    refine XS.iload X41.here hx rfl (hb hby d10_46) rfl ?_
    refine XS.aloadN X41.here hx rfl (hb hby d10_48) rfl rfl ?_
    refine AV.len (c42_3.cell 0 2 (by decide) (by decide)) X41 hx hZ e41 (hb hby d10_49) ?_
    refine XS.icmpNo X41.here hx rfl (hb hby d10_50) rfl (tlt (by decide)).2.1 ?_
    refine XS.aloadN X41.here hx rfl (hb hby d10_53) rfl rfl ?_
    refine XS.iload X41.here hx rfl (hb hby d10_54) rfl ?_
    refine X41.ldc2DoubleC hx hown (wz hZ hw 76 rfl) (g := (mkF m 56 #[sR o0, sI 0, sI 2, sR (vA + 2 + 5 * 0 + 2), sR (dA + 2 + 5 * 0 + 2), sI 2] [(.int 2), (.ref (vA + 2 + 5 * 0 + 2))])) rfl (hb hby d10_56) _ ?_
    refine XS.aloadN X41.here hx rfl (hb hby d10_59) rfl rfl ?_
    refine XS.iload X41.here hx rfl (hb hby d10_60) rfl ?_
    refine AV.daload (c42_3.cell 0 2 (by decide) (by decide)) X41 hx hZ e41 (j := (2 : Int32)) (by decide) (hb hby d10_62) ?_
    refine XS.dmulS X41.here hx rfl (hb hby d10_63) rfl (hnn 0 2 2 (by decide) (by decide) (by decide)).1 rfl ?_
    refine XS.aload X41.here hx rfl (hb hby d10_64) rfl rfl ?_
    refine XS.iload X41.here hx rfl (hb hby d10_66) rfl ?_
    refine AV.daload (Gw41.cell 0 2 (by decide) (by decide)) X41 hx hZ e41 (j := (2 : Int32)) (by decide) (hb hby d10_68) ?_
    refine XS.daddS X41.here hx rfl (hb hby d10_69) rfl (hnn 0 2 2 (by decide) (by decide) (by decide)).2 rfl ?_
    exact kZ
  obtain ⟨T43, h43, X43, e43, W43, V43, st43⟩ := AV.dastore (c42_3.cell 0 2 (by decide) (by decide)) X41 hx hZ e41 (j := (2 : Int32)) (by decide) (Ls := #[sR o0, sI 0, sI 2, sR (vA + 2 + 5 * 0 + 2), sR (dA + 2 + 5 * 0 + 2), sI 2]) (rest := []) (hb hby d10_70) (x := (FP.dadd (FP.dmul (4606732058837280358 : UInt64) (((own_vl f g 8) 0 2) (2 : Int32).toNatClampNeg)) (((own_dp g 8) 0 2) (2 : Int32).toNatClampNeg)))
  have N43 := Fr.snoc X43 N41 (Nat.le_trans ha5 (show vA ≤ (vA + 2 + 5 * 0 + 2) by omega))
  have c44_0 := c42_0.wr W43
  have c44_1 := c42_1.other W43 (Or.inl (own_na (by omega)))
  have c44_2 := c42_2.other W43 (Or.inl (own_na (by omega)))
  have c44_3 := c42_3
  have c44_4 := Gw41.other W43 (by omega)
  have K43 : Keep h0 h43 [(vA + 2 + 5 * 0 + 0), (dA + 2 + 5 * 0 + 0), (vA + 2 + 5 * 0 + 1), (dA + 2 + 5 * 0 + 1), (vA + 2 + 5 * 0 + 2), (dA + 2 + 5 * 0 + 2), (vA + 2 + 5 * 0 + 3), (dA + 2 + 5 * 0 + 3), (vA + 2 + 5 * 1 + 0), (dA + 2 + 5 * 1 + 0), (vA + 2 + 5 * 1 + 1), (dA + 2 + 5 * 1 + 1), (vA + 2 + 5 * 1 + 2), (dA + 2 + 5 * 1 + 2), (vA + 2 + 5 * 1 + 3), (dA + 2 + 5 * 1 + 3)] := K41.wr W43 (Or.inl (by simp))
  have Z43 := Nat.le_trans Z41 (Keep.of_wr W43).1
  have Gw43 : Gd Z h43 vA (own_vl f g 9) := (Gd.set c42_3 0 2 (by decide) (by decide) W43 V43).congr (own_vl_step rfl (by decide) (by decide) rfl)
  refine Go.via st43 ?_
  refine Vi (T43.setTop (mkF m 76 #[sR o0, sI 0, sI 2, sR (vA + 2 + 5 * 0 + 2), sR (dA + 2 + 5 * 0 + 2), sI 2] [(.double FP.dconst0), (.int 2), (.ref (dA + 2 + 5 * 0 + 2))])) (fun tZ kZ => ?_) ?_
  · refine XS.aload X43.here hx rfl (hb hby d10_71) rfl rfl ?_
    refine XS.iload X43.here hx rfl (hb hby d10_73) rfl ?_
    refine XS.dconst0 X43.here hx rfl (hb hby d10_75) rfl ?_
    exact kZ
  obtain ⟨T45, h45, X45, e45, W45, V45, st45⟩ := AV.dastore (c44_4.cell 0 2 (by decide) (by decide)) X43 hx hZ e43 (j := (2 : Int32)) (by decide) (Ls := #[sR o0, sI 0, sI 2, sR (vA + 2 + 5 * 0 + 2), sR (dA + 2 + 5 * 0 + 2), sI 2]) (rest := []) (hb hby d10_76) (x := FP.dconst0)
  have N45 := Fr.snoc X45 N43 (Nat.le_trans ha6 (show dA ≤ (dA + 2 + 5 * 0 + 2) by omega))
  have c46_0 := c44_0.wr W45
  have c46_1 := c44_1.other W45 (Or.inl (own_na (by omega)))
  have c46_2 := c44_2.other W45 (Or.inl (own_na (by omega)))
  have c46_3 := Gw43.other W45 (by omega)
  have c46_4 := c44_4
  have K45 : Keep h0 h45 [(vA + 2 + 5 * 0 + 0), (dA + 2 + 5 * 0 + 0), (vA + 2 + 5 * 0 + 1), (dA + 2 + 5 * 0 + 1), (vA + 2 + 5 * 0 + 2), (dA + 2 + 5 * 0 + 2), (vA + 2 + 5 * 0 + 3), (dA + 2 + 5 * 0 + 3), (vA + 2 + 5 * 1 + 0), (dA + 2 + 5 * 1 + 0), (vA + 2 + 5 * 1 + 1), (dA + 2 + 5 * 1 + 1), (vA + 2 + 5 * 1 + 2), (dA + 2 + 5 * 1 + 2), (vA + 2 + 5 * 1 + 3), (dA + 2 + 5 * 1 + 3)] := K43.wr W45 (Or.inl (by simp))
  have Z45 := Nat.le_trans Z43 (Keep.of_wr W45).1
  have Gw45 : Gd Z h45 dA (own_dp g 9) := (Gd.set c44_4 0 2 (by decide) (by decide) W45 V45).congr (own_dp_step rfl (by decide) (by decide))
  refine Go.via st45 ?_
  refine Vi (T45.setTop (mkF m 15 #[sR o0, sI 0, sI 3, sR (vA + 2 + 5 * 0 + 2), sR (dA + 2 + 5 * 0 + 2), sI 3] [(.ref o0), (.int 3)])) (fun tZ kZ => ?_) ?_
  · refine XS.iinc X45.here hx rfl (hb hby d10_77) rfl (l' := #[sR o0, sI 0, sI 2, sR (vA + 2 + 5 * 0 + 2), sR (dA + 2 + 5 * 0 + 2), sI 3]) rfl ?_
    refine XS.goto X45.here hx rfl (pc0 := 80) (pc' := 46) rfl (hb hby d10_80) (by decide) (by decide) ?_
    refine XS.iload X45.here hx rfl (hb hby d10_46) rfl ?_
    refine XS.aloadN X45.here hx rfl (hb hby d10_48) rfl rfl ?_
    refine AV.len (c46_3.cell 0 2 (by decide) (by decide)) X45 hx hZ e45 (hb hby d10_49) ?_
    refine XS.icmpYes X45.here hx rfl (pc0 := 50) (pc' := 83) rfl (hb hby d10_50) rfl (flt (by decide)).2.1 (by decide) (by decide) ?_
    refine XS.iinc X45.here hx rfl (hb hby d10_83) rfl (l' := #[sR o0, sI 0, sI 3, sR (vA + 2 + 5 * 0 + 2), sR (dA + 2 + 5 * 0 + 2), sI 3]) rfl ?_
    refine XS.goto X45.here hx rfl (pc0 := 86) (pc' := 13) rfl (hb hby d10_86) (by decide) (by decide) ?_
    refine XS.iloadN X45.here hx rfl (hb hby d10_13) rfl ?_
    refine XS.aloadN X45.here hx rfl (hb hby d10_14) rfl rfl ?_
    exact kZ
  refine GF X45 hx hZ hown (wq hw 38 rfl) e45 c46_1 (hb hby d10_15) fun T47 X47 e47 => ?_
  refine Vi (T47.setTop (mkF m 25 #[sR o0, sI 0, sI 3, sR (vA + 2 + 5 * 0 + 2), sR (dA + 2 + 5 * 0 + 2), sI 3] [(.ref o0)])) (fun tZ kZ => ?_) ?_
  · refine XS.iloadN X47.here hx rfl (hb hby d10_18) rfl ?_
    refine AV.aaload c46_3.top rfl X47 hx hZ e47 (j := (0 : Int32)) (by decide) (hb hby d10_19) ?_
    refine AV.len (c46_3.row 0 (by decide)) X47 hx hZ e47 (hb hby d10_20) ?_
    refine XS.icmpNo X47.here hx rfl (hb hby d10_21) rfl (tlt (by decide)).2.1 ?_
    refine XS.aloadN X47.here hx rfl (hb hby d10_24) rfl rfl ?_
    exact kZ
  refine GF X47 hx hZ hown (wq hw 38 rfl) e47 c46_1 (hb hby d10_25) fun T48 X48 e48 => ?_
  refine Vi (T48.setTop (mkF m 34 #[sR o0, sI 0, sI 3, sR (vA + 2 + 5 * 0 + 3), sR (dA + 2 + 5 * 0 + 2), sI 3] [(.ref o0)])) (fun tZ kZ => ?_) ?_
  · refine XS.iloadN X48.here hx rfl (hb hby d10_28) rfl ?_
    refine AV.aaload c46_3.top rfl X48 hx hZ e48 (j := (0 : Int32)) (by decide) (hb hby d10_29) ?_
    refine XS.iloadN X48.here hx rfl (hb hby d10_30) rfl ?_
    refine AV.aaload (c46_3.row 0 (by decide)) rfl X48 hx hZ e48 (j := (3 : Int32)) (by decide) (hb hby d10_31) ?_
    refine XS.astoreN X48.here hx rfl (hb hby d10_32) rfl rfl (l' := #[sR o0, sI 0, sI 3, sR (vA + 2 + 5 * 0 + 3), sR (dA + 2 + 5 * 0 + 2), sI 3]) rfl ?_
    refine XS.aloadN X48.here hx rfl (hb hby d10_33) rfl rfl ?_
    exact kZ
  refine GF X48 hx hZ hown (wq hw 40 rfl) e48 c46_2 (hb hby d10_34) fun T49 X49 e49 => ?_
  refine Vi (T49.setTop (mkF m 70 #[sR o0, sI 0, sI 3, sR (vA + 2 + 5 * 0 + 3), sR (dA + 2 + 5 * 0 + 3), sI 0] [(.double (FP.dadd (FP.dmul (4606732058837280358 : UInt64) (((own_vl f g 9) 0 3) (0 : Int32).toNatClampNeg)) (((own_dp g 9) 0 3) (0 : Int32).toNatClampNeg))), (.int 0), (.ref (vA + 2 + 5 * 0 + 3))])) (fun tZ kZ => ?_) ?_
  · refine XS.iloadN X49.here hx rfl (hb hby d10_37) rfl ?_
    refine AV.aaload Gw45.top rfl X49 hx hZ e49 (j := (0 : Int32)) (by decide) (hb hby d10_38) ?_
    refine XS.iloadN X49.here hx rfl (hb hby d10_39) rfl ?_
    refine AV.aaload (Gw45.row 0 (by decide)) rfl X49 hx hZ e49 (j := (3 : Int32)) (by decide) (hb hby d10_40) ?_
    refine XS.astore X49.here hx rfl (hb hby d10_41) rfl rfl (l' := #[sR o0, sI 0, sI 3, sR (vA + 2 + 5 * 0 + 3), sR (dA + 2 + 5 * 0 + 3), sI 3]) rfl ?_
    refine XS.iconst X49.here hx rfl (hb hby d10_43) ?_
    refine XS.istore X49.here hx rfl (hb hby d10_44) rfl (l' := #[sR o0, sI 0, sI 3, sR (vA + 2 + 5 * 0 + 3), sR (dA + 2 + 5 * 0 + 3), sI 0]) rfl ?_
    refine XS.iload X49.here hx rfl (hb hby d10_46) rfl ?_
    refine XS.aloadN X49.here hx rfl (hb hby d10_48) rfl rfl ?_
    refine AV.len (c46_3.cell 0 3 (by decide) (by decide)) X49 hx hZ e49 (hb hby d10_49) ?_
    refine XS.icmpNo X49.here hx rfl (hb hby d10_50) rfl (tlt (by decide)).2.1 ?_
    refine XS.aloadN X49.here hx rfl (hb hby d10_53) rfl rfl ?_
    refine XS.iload X49.here hx rfl (hb hby d10_54) rfl ?_
    refine X49.ldc2DoubleC hx hown (wz hZ hw 76 rfl) (g := (mkF m 56 #[sR o0, sI 0, sI 3, sR (vA + 2 + 5 * 0 + 3), sR (dA + 2 + 5 * 0 + 3), sI 0] [(.int 0), (.ref (vA + 2 + 5 * 0 + 3))])) rfl (hb hby d10_56) _ ?_
    refine XS.aloadN X49.here hx rfl (hb hby d10_59) rfl rfl ?_
    refine XS.iload X49.here hx rfl (hb hby d10_60) rfl ?_
    refine AV.daload (c46_3.cell 0 3 (by decide) (by decide)) X49 hx hZ e49 (j := (0 : Int32)) (by decide) (hb hby d10_62) ?_
    refine XS.dmulS X49.here hx rfl (hb hby d10_63) rfl (hnn 0 3 0 (by decide) (by decide) (by decide)).1 rfl ?_
    refine XS.aload X49.here hx rfl (hb hby d10_64) rfl rfl ?_
    refine XS.iload X49.here hx rfl (hb hby d10_66) rfl ?_
    refine AV.daload (Gw45.cell 0 3 (by decide) (by decide)) X49 hx hZ e49 (j := (0 : Int32)) (by decide) (hb hby d10_68) ?_
    refine XS.daddS X49.here hx rfl (hb hby d10_69) rfl (hnn 0 3 0 (by decide) (by decide) (by decide)).2 rfl ?_
    exact kZ
  obtain ⟨T50, h50, X50, e50, W50, V50, st50⟩ := AV.dastore (c46_3.cell 0 3 (by decide) (by decide)) X49 hx hZ e49 (j := (0 : Int32)) (by decide) (Ls := #[sR o0, sI 0, sI 3, sR (vA + 2 + 5 * 0 + 3), sR (dA + 2 + 5 * 0 + 3), sI 0]) (rest := []) (hb hby d10_70) (x := (FP.dadd (FP.dmul (4606732058837280358 : UInt64) (((own_vl f g 9) 0 3) (0 : Int32).toNatClampNeg)) (((own_dp g 9) 0 3) (0 : Int32).toNatClampNeg)))
  have N50 := Fr.snoc X50 N45 (Nat.le_trans ha5 (show vA ≤ (vA + 2 + 5 * 0 + 3) by omega))
  have c51_0 := c46_0.wr W50
  have c51_1 := c46_1.other W50 (Or.inl (own_na (by omega)))
  have c51_2 := c46_2.other W50 (Or.inl (own_na (by omega)))
  have c51_3 := c46_3
  have c51_4 := Gw45.other W50 (by omega)
  have K50 : Keep h0 h50 [(vA + 2 + 5 * 0 + 0), (dA + 2 + 5 * 0 + 0), (vA + 2 + 5 * 0 + 1), (dA + 2 + 5 * 0 + 1), (vA + 2 + 5 * 0 + 2), (dA + 2 + 5 * 0 + 2), (vA + 2 + 5 * 0 + 3), (dA + 2 + 5 * 0 + 3), (vA + 2 + 5 * 1 + 0), (dA + 2 + 5 * 1 + 0), (vA + 2 + 5 * 1 + 1), (dA + 2 + 5 * 1 + 1), (vA + 2 + 5 * 1 + 2), (dA + 2 + 5 * 1 + 2), (vA + 2 + 5 * 1 + 3), (dA + 2 + 5 * 1 + 3)] := K45.wr W50 (Or.inl (by simp))
  have Z50 := Nat.le_trans Z45 (Keep.of_wr W50).1
  have Gw50 : Gd Z h50 vA (own_vl f g 10) := (Gd.set c46_3 0 3 (by decide) (by decide) W50 V50).congr (own_vl_step rfl (by decide) (by decide) rfl)
  refine Go.via st50 ?_
  refine Vi (T50.setTop (mkF m 76 #[sR o0, sI 0, sI 3, sR (vA + 2 + 5 * 0 + 3), sR (dA + 2 + 5 * 0 + 3), sI 0] [(.double FP.dconst0), (.int 0), (.ref (dA + 2 + 5 * 0 + 3))])) (fun tZ kZ => ?_) ?_
  · refine XS.aload X50.here hx rfl (hb hby d10_71) rfl rfl ?_
    refine XS.iload X50.here hx rfl (hb hby d10_73) rfl ?_
    refine XS.dconst0 X50.here hx rfl (hb hby d10_75) rfl ?_
    exact kZ
  obtain ⟨T52, h52, X52, e52, W52, V52, st52⟩ := AV.dastore (c51_4.cell 0 3 (by decide) (by decide)) X50 hx hZ e50 (j := (0 : Int32)) (by decide) (Ls := #[sR o0, sI 0, sI 3, sR (vA + 2 + 5 * 0 + 3), sR (dA + 2 + 5 * 0 + 3), sI 0]) (rest := []) (hb hby d10_76) (x := FP.dconst0)
  have N52 := Fr.snoc X52 N50 (Nat.le_trans ha6 (show dA ≤ (dA + 2 + 5 * 0 + 3) by omega))
  have c53_0 := c51_0.wr W52
  have c53_1 := c51_1.other W52 (Or.inl (own_na (by omega)))
  have c53_2 := c51_2.other W52 (Or.inl (own_na (by omega)))
  have c53_3 := Gw50.other W52 (by omega)
  have c53_4 := c51_4
  have K52 : Keep h0 h52 [(vA + 2 + 5 * 0 + 0), (dA + 2 + 5 * 0 + 0), (vA + 2 + 5 * 0 + 1), (dA + 2 + 5 * 0 + 1), (vA + 2 + 5 * 0 + 2), (dA + 2 + 5 * 0 + 2), (vA + 2 + 5 * 0 + 3), (dA + 2 + 5 * 0 + 3), (vA + 2 + 5 * 1 + 0), (dA + 2 + 5 * 1 + 0), (vA + 2 + 5 * 1 + 1), (dA + 2 + 5 * 1 + 1), (vA + 2 + 5 * 1 + 2), (dA + 2 + 5 * 1 + 2), (vA + 2 + 5 * 1 + 3), (dA + 2 + 5 * 1 + 3)] := K50.wr W52 (Or.inl (by simp))
  have Z52 := Nat.le_trans Z50 (Keep.of_wr W52).1
  have Gw52 : Gd Z h52 dA (own_dp g 10) := (Gd.set c51_4 0 3 (by decide) (by decide) W52 V52).congr (own_dp_step rfl (by decide) (by decide))
  refine Go.via st52 ?_
  refine Vi (T52.setTop (mkF m 70 #[sR o0, sI 0, sI 3, sR (vA + 2 + 5 * 0 + 3), sR (dA + 2 + 5 * 0 + 3), sI 1] [(.double (FP.dadd (FP.dmul (4606732058837280358 : UInt64) (((own_vl f g 10) 0 3) (1 : Int32).toNatClampNeg)) (((own_dp g 10) 0 3) (1 : Int32).toNatClampNeg))), (.int 1), (.ref (vA + 2 + 5 * 0 + 3))])) (fun tZ kZ => ?_) ?_
  · refine XS.iinc X52.here hx rfl (hb hby d10_77) rfl (l' := #[sR o0, sI 0, sI 3, sR (vA + 2 + 5 * 0 + 3), sR (dA + 2 + 5 * 0 + 3), sI 1]) rfl ?_
    refine XS.goto X52.here hx rfl (pc0 := 80) (pc' := 46) rfl (hb hby d10_80) (by decide) (by decide) ?_
    refine XS.iload X52.here hx rfl (hb hby d10_46) rfl ?_
    refine XS.aloadN X52.here hx rfl (hb hby d10_48) rfl rfl ?_
    refine AV.len (c53_3.cell 0 3 (by decide) (by decide)) X52 hx hZ e52 (hb hby d10_49) ?_
    refine XS.icmpNo X52.here hx rfl (hb hby d10_50) rfl (tlt (by decide)).2.1 ?_
    refine XS.aloadN X52.here hx rfl (hb hby d10_53) rfl rfl ?_
    refine XS.iload X52.here hx rfl (hb hby d10_54) rfl ?_
    refine X52.ldc2DoubleC hx hown (wz hZ hw 76 rfl) (g := (mkF m 56 #[sR o0, sI 0, sI 3, sR (vA + 2 + 5 * 0 + 3), sR (dA + 2 + 5 * 0 + 3), sI 1] [(.int 1), (.ref (vA + 2 + 5 * 0 + 3))])) rfl (hb hby d10_56) _ ?_
    refine XS.aloadN X52.here hx rfl (hb hby d10_59) rfl rfl ?_
    refine XS.iload X52.here hx rfl (hb hby d10_60) rfl ?_
    refine AV.daload (c53_3.cell 0 3 (by decide) (by decide)) X52 hx hZ e52 (j := (1 : Int32)) (by decide) (hb hby d10_62) ?_
    refine XS.dmulS X52.here hx rfl (hb hby d10_63) rfl (hnn 0 3 1 (by decide) (by decide) (by decide)).1 rfl ?_
    refine XS.aload X52.here hx rfl (hb hby d10_64) rfl rfl ?_
    refine XS.iload X52.here hx rfl (hb hby d10_66) rfl ?_
    refine AV.daload (Gw52.cell 0 3 (by decide) (by decide)) X52 hx hZ e52 (j := (1 : Int32)) (by decide) (hb hby d10_68) ?_
    refine XS.daddS X52.here hx rfl (hb hby d10_69) rfl (hnn 0 3 1 (by decide) (by decide) (by decide)).2 rfl ?_
    exact kZ
  obtain ⟨T54, h54, X54, e54, W54, V54, st54⟩ := AV.dastore (c53_3.cell 0 3 (by decide) (by decide)) X52 hx hZ e52 (j := (1 : Int32)) (by decide) (Ls := #[sR o0, sI 0, sI 3, sR (vA + 2 + 5 * 0 + 3), sR (dA + 2 + 5 * 0 + 3), sI 1]) (rest := []) (hb hby d10_70) (x := (FP.dadd (FP.dmul (4606732058837280358 : UInt64) (((own_vl f g 10) 0 3) (1 : Int32).toNatClampNeg)) (((own_dp g 10) 0 3) (1 : Int32).toNatClampNeg)))
  have N54 := Fr.snoc X54 N52 (Nat.le_trans ha5 (show vA ≤ (vA + 2 + 5 * 0 + 3) by omega))
  have c55_0 := c53_0.wr W54
  have c55_1 := c53_1.other W54 (Or.inl (own_na (by omega)))
  have c55_2 := c53_2.other W54 (Or.inl (own_na (by omega)))
  have c55_3 := c53_3
  have c55_4 := Gw52.other W54 (by omega)
  have K54 : Keep h0 h54 [(vA + 2 + 5 * 0 + 0), (dA + 2 + 5 * 0 + 0), (vA + 2 + 5 * 0 + 1), (dA + 2 + 5 * 0 + 1), (vA + 2 + 5 * 0 + 2), (dA + 2 + 5 * 0 + 2), (vA + 2 + 5 * 0 + 3), (dA + 2 + 5 * 0 + 3), (vA + 2 + 5 * 1 + 0), (dA + 2 + 5 * 1 + 0), (vA + 2 + 5 * 1 + 1), (dA + 2 + 5 * 1 + 1), (vA + 2 + 5 * 1 + 2), (dA + 2 + 5 * 1 + 2), (vA + 2 + 5 * 1 + 3), (dA + 2 + 5 * 1 + 3)] := K52.wr W54 (Or.inl (by simp))
  have Z54 := Nat.le_trans Z52 (Keep.of_wr W54).1
  have Gw54 : Gd Z h54 vA (own_vl f g 11) := (Gd.set c53_3 0 3 (by decide) (by decide) W54 V54).congr (own_vl_step rfl (by decide) (by decide) rfl)
  refine Go.via st54 ?_
  refine Vi (T54.setTop (mkF m 76 #[sR o0, sI 0, sI 3, sR (vA + 2 + 5 * 0 + 3), sR (dA + 2 + 5 * 0 + 3), sI 1] [(.double FP.dconst0), (.int 1), (.ref (dA + 2 + 5 * 0 + 3))])) (fun tZ kZ => ?_) ?_
  · refine XS.aload X54.here hx rfl (hb hby d10_71) rfl rfl ?_
    refine XS.iload X54.here hx rfl (hb hby d10_73) rfl ?_
    refine XS.dconst0 X54.here hx rfl (hb hby d10_75) rfl ?_
    exact kZ
  obtain ⟨T56, h56, X56, e56, W56, V56, st56⟩ := AV.dastore (c55_4.cell 0 3 (by decide) (by decide)) X54 hx hZ e54 (j := (1 : Int32)) (by decide) (Ls := #[sR o0, sI 0, sI 3, sR (vA + 2 + 5 * 0 + 3), sR (dA + 2 + 5 * 0 + 3), sI 1]) (rest := []) (hb hby d10_76) (x := FP.dconst0)
  have N56 := Fr.snoc X56 N54 (Nat.le_trans ha6 (show dA ≤ (dA + 2 + 5 * 0 + 3) by omega))
  have c57_0 := c55_0.wr W56
  have c57_1 := c55_1.other W56 (Or.inl (own_na (by omega)))
  have c57_2 := c55_2.other W56 (Or.inl (own_na (by omega)))
  have c57_3 := Gw54.other W56 (by omega)
  have c57_4 := c55_4
  have K56 : Keep h0 h56 [(vA + 2 + 5 * 0 + 0), (dA + 2 + 5 * 0 + 0), (vA + 2 + 5 * 0 + 1), (dA + 2 + 5 * 0 + 1), (vA + 2 + 5 * 0 + 2), (dA + 2 + 5 * 0 + 2), (vA + 2 + 5 * 0 + 3), (dA + 2 + 5 * 0 + 3), (vA + 2 + 5 * 1 + 0), (dA + 2 + 5 * 1 + 0), (vA + 2 + 5 * 1 + 1), (dA + 2 + 5 * 1 + 1), (vA + 2 + 5 * 1 + 2), (dA + 2 + 5 * 1 + 2), (vA + 2 + 5 * 1 + 3), (dA + 2 + 5 * 1 + 3)] := K54.wr W56 (Or.inl (by simp))
  have Z56 := Nat.le_trans Z54 (Keep.of_wr W56).1
  have Gw56 : Gd Z h56 dA (own_dp g 11) := (Gd.set c55_4 0 3 (by decide) (by decide) W56 V56).congr (own_dp_step rfl (by decide) (by decide))
  refine Go.via st56 ?_
  refine Vi (T56.setTop (mkF m 70 #[sR o0, sI 0, sI 3, sR (vA + 2 + 5 * 0 + 3), sR (dA + 2 + 5 * 0 + 3), sI 2] [(.double (FP.dadd (FP.dmul (4606732058837280358 : UInt64) (((own_vl f g 11) 0 3) (2 : Int32).toNatClampNeg)) (((own_dp g 11) 0 3) (2 : Int32).toNatClampNeg))), (.int 2), (.ref (vA + 2 + 5 * 0 + 3))])) (fun tZ kZ => ?_) ?_
  · refine XS.iinc X56.here hx rfl (hb hby d10_77) rfl (l' := #[sR o0, sI 0, sI 3, sR (vA + 2 + 5 * 0 + 3), sR (dA + 2 + 5 * 0 + 3), sI 2]) rfl ?_
    refine XS.goto X56.here hx rfl (pc0 := 80) (pc' := 46) rfl (hb hby d10_80) (by decide) (by decide) ?_
    refine XS.iload X56.here hx rfl (hb hby d10_46) rfl ?_
    refine XS.aloadN X56.here hx rfl (hb hby d10_48) rfl rfl ?_
    refine AV.len (c57_3.cell 0 3 (by decide) (by decide)) X56 hx hZ e56 (hb hby d10_49) ?_
    refine XS.icmpNo X56.here hx rfl (hb hby d10_50) rfl (tlt (by decide)).2.1 ?_
    refine XS.aloadN X56.here hx rfl (hb hby d10_53) rfl rfl ?_
    refine XS.iload X56.here hx rfl (hb hby d10_54) rfl ?_
    refine X56.ldc2DoubleC hx hown (wz hZ hw 76 rfl) (g := (mkF m 56 #[sR o0, sI 0, sI 3, sR (vA + 2 + 5 * 0 + 3), sR (dA + 2 + 5 * 0 + 3), sI 2] [(.int 2), (.ref (vA + 2 + 5 * 0 + 3))])) rfl (hb hby d10_56) _ ?_
    refine XS.aloadN X56.here hx rfl (hb hby d10_59) rfl rfl ?_
    refine XS.iload X56.here hx rfl (hb hby d10_60) rfl ?_
    refine AV.daload (c57_3.cell 0 3 (by decide) (by decide)) X56 hx hZ e56 (j := (2 : Int32)) (by decide) (hb hby d10_62) ?_
    refine XS.dmulS X56.here hx rfl (hb hby d10_63) rfl (hnn 0 3 2 (by decide) (by decide) (by decide)).1 rfl ?_
    refine XS.aload X56.here hx rfl (hb hby d10_64) rfl rfl ?_
    refine XS.iload X56.here hx rfl (hb hby d10_66) rfl ?_
    refine AV.daload (Gw56.cell 0 3 (by decide) (by decide)) X56 hx hZ e56 (j := (2 : Int32)) (by decide) (hb hby d10_68) ?_
    refine XS.daddS X56.here hx rfl (hb hby d10_69) rfl (hnn 0 3 2 (by decide) (by decide) (by decide)).2 rfl ?_
    exact kZ
  obtain ⟨T58, h58, X58, e58, W58, V58, st58⟩ := AV.dastore (c57_3.cell 0 3 (by decide) (by decide)) X56 hx hZ e56 (j := (2 : Int32)) (by decide) (Ls := #[sR o0, sI 0, sI 3, sR (vA + 2 + 5 * 0 + 3), sR (dA + 2 + 5 * 0 + 3), sI 2]) (rest := []) (hb hby d10_70) (x := (FP.dadd (FP.dmul (4606732058837280358 : UInt64) (((own_vl f g 11) 0 3) (2 : Int32).toNatClampNeg)) (((own_dp g 11) 0 3) (2 : Int32).toNatClampNeg)))
  have N58 := Fr.snoc X58 N56 (Nat.le_trans ha5 (show vA ≤ (vA + 2 + 5 * 0 + 3) by omega))
  have c59_0 := c57_0.wr W58
  have c59_1 := c57_1.other W58 (Or.inl (own_na (by omega)))
  have c59_2 := c57_2.other W58 (Or.inl (own_na (by omega)))
  have c59_3 := c57_3
  have c59_4 := Gw56.other W58 (by omega)
  have K58 : Keep h0 h58 [(vA + 2 + 5 * 0 + 0), (dA + 2 + 5 * 0 + 0), (vA + 2 + 5 * 0 + 1), (dA + 2 + 5 * 0 + 1), (vA + 2 + 5 * 0 + 2), (dA + 2 + 5 * 0 + 2), (vA + 2 + 5 * 0 + 3), (dA + 2 + 5 * 0 + 3), (vA + 2 + 5 * 1 + 0), (dA + 2 + 5 * 1 + 0), (vA + 2 + 5 * 1 + 1), (dA + 2 + 5 * 1 + 1), (vA + 2 + 5 * 1 + 2), (dA + 2 + 5 * 1 + 2), (vA + 2 + 5 * 1 + 3), (dA + 2 + 5 * 1 + 3)] := K56.wr W58 (Or.inl (by simp))
  have Z58 := Nat.le_trans Z56 (Keep.of_wr W58).1
  have Gw58 : Gd Z h58 vA (own_vl f g 12) := (Gd.set c57_3 0 3 (by decide) (by decide) W58 V58).congr (own_vl_step rfl (by decide) (by decide) rfl)
  refine Go.via st58 ?_
  refine Vi (T58.setTop (mkF m 76 #[sR o0, sI 0, sI 3, sR (vA + 2 + 5 * 0 + 3), sR (dA + 2 + 5 * 0 + 3), sI 2] [(.double FP.dconst0), (.int 2), (.ref (dA + 2 + 5 * 0 + 3))])) (fun tZ kZ => ?_) ?_
  · refine XS.aload X58.here hx rfl (hb hby d10_71) rfl rfl ?_
    refine XS.iload X58.here hx rfl (hb hby d10_73) rfl ?_
    refine XS.dconst0 X58.here hx rfl (hb hby d10_75) rfl ?_
    exact kZ
  obtain ⟨T60, h60, X60, e60, W60, V60, st60⟩ := AV.dastore (c59_4.cell 0 3 (by decide) (by decide)) X58 hx hZ e58 (j := (2 : Int32)) (by decide) (Ls := #[sR o0, sI 0, sI 3, sR (vA + 2 + 5 * 0 + 3), sR (dA + 2 + 5 * 0 + 3), sI 2]) (rest := []) (hb hby d10_76) (x := FP.dconst0)
  have N60 := Fr.snoc X60 N58 (Nat.le_trans ha6 (show dA ≤ (dA + 2 + 5 * 0 + 3) by omega))
  have c61_0 := c59_0.wr W60
  have c61_1 := c59_1.other W60 (Or.inl (own_na (by omega)))
  have c61_2 := c59_2.other W60 (Or.inl (own_na (by omega)))
  have c61_3 := Gw58.other W60 (by omega)
  have c61_4 := c59_4
  have K60 : Keep h0 h60 [(vA + 2 + 5 * 0 + 0), (dA + 2 + 5 * 0 + 0), (vA + 2 + 5 * 0 + 1), (dA + 2 + 5 * 0 + 1), (vA + 2 + 5 * 0 + 2), (dA + 2 + 5 * 0 + 2), (vA + 2 + 5 * 0 + 3), (dA + 2 + 5 * 0 + 3), (vA + 2 + 5 * 1 + 0), (dA + 2 + 5 * 1 + 0), (vA + 2 + 5 * 1 + 1), (dA + 2 + 5 * 1 + 1), (vA + 2 + 5 * 1 + 2), (dA + 2 + 5 * 1 + 2), (vA + 2 + 5 * 1 + 3), (dA + 2 + 5 * 1 + 3)] := K58.wr W60 (Or.inl (by simp))
  have Z60 := Nat.le_trans Z58 (Keep.of_wr W60).1
  have Gw60 : Gd Z h60 dA (own_dp g 12) := (Gd.set c59_4 0 3 (by decide) (by decide) W60 V60).congr (own_dp_step rfl (by decide) (by decide))
  refine Go.via st60 ?_
  refine Vi (T60.setTop (mkF m 15 #[sR o0, sI 0, sI 4, sR (vA + 2 + 5 * 0 + 3), sR (dA + 2 + 5 * 0 + 3), sI 3] [(.ref o0), (.int 4)])) (fun tZ kZ => ?_) ?_
  · refine XS.iinc X60.here hx rfl (hb hby d10_77) rfl (l' := #[sR o0, sI 0, sI 3, sR (vA + 2 + 5 * 0 + 3), sR (dA + 2 + 5 * 0 + 3), sI 3]) rfl ?_
    refine XS.goto X60.here hx rfl (pc0 := 80) (pc' := 46) rfl (hb hby d10_80) (by decide) (by decide) ?_
    refine XS.iload X60.here hx rfl (hb hby d10_46) rfl ?_
    refine XS.aloadN X60.here hx rfl (hb hby d10_48) rfl rfl ?_
    refine AV.len (c61_3.cell 0 3 (by decide) (by decide)) X60 hx hZ e60 (hb hby d10_49) ?_
    refine XS.icmpYes X60.here hx rfl (pc0 := 50) (pc' := 83) rfl (hb hby d10_50) rfl (flt (by decide)).2.1 (by decide) (by decide) ?_
    refine XS.iinc X60.here hx rfl (hb hby d10_83) rfl (l' := #[sR o0, sI 0, sI 4, sR (vA + 2 + 5 * 0 + 3), sR (dA + 2 + 5 * 0 + 3), sI 3]) rfl ?_
    refine XS.goto X60.here hx rfl (pc0 := 86) (pc' := 13) rfl (hb hby d10_86) (by decide) (by decide) ?_
    refine XS.iloadN X60.here hx rfl (hb hby d10_13) rfl ?_
    refine XS.aloadN X60.here hx rfl (hb hby d10_14) rfl rfl ?_
    exact kZ
  refine GF X60 hx hZ hown (wq hw 38 rfl) e60 c61_1 (hb hby d10_15) fun T62 X62 e62 => ?_
  refine Vi (T62.setTop (mkF m 4 #[sR o0, sI 1, sI 4, sR (vA + 2 + 5 * 0 + 3), sR (dA + 2 + 5 * 0 + 3), sI 3] [(.ref o0), (.int 1)])) (fun tZ kZ => ?_) ?_
  · refine XS.iloadN X62.here hx rfl (hb hby d10_18) rfl ?_
    refine AV.aaload c61_3.top rfl X62 hx hZ e62 (j := (0 : Int32)) (by decide) (hb hby d10_19) ?_
    refine AV.len (c61_3.row 0 (by decide)) X62 hx hZ e62 (hb hby d10_20) ?_
    refine XS.icmpYes X62.here hx rfl (pc0 := 21) (pc' := 89) rfl (hb hby d10_21) rfl (flt (by decide)).2.1 (by decide) (by decide) ?_
    refine XS.iinc X62.here hx rfl (hb hby d10_89) rfl (l' := #[sR o0, sI 1, sI 4, sR (vA + 2 + 5 * 0 + 3), sR (dA + 2 + 5 * 0 + 3), sI 3]) rfl ?_
    refine XS.goto X62.here hx rfl (pc0 := 92) (pc' := 2) rfl (hb hby d10_92) (by decide) (by decide) ?_
    refine XS.iloadN X62.here hx rfl (hb hby d10_2) rfl ?_
    refine XS.aloadN X62.here hx rfl (hb hby d10_3) rfl rfl ?_
    exact kZ
  refine GF X62 hx hZ hown (wq hw 38 rfl) e62 c61_1 (hb hby d10_4) fun T63 X63 e63 => ?_
  refine Vi (T63.setTop (mkF m 15 #[sR o0, sI 1, sI 0, sR (vA + 2 + 5 * 0 + 3), sR (dA + 2 + 5 * 0 + 3), sI 3] [(.ref o0), (.int 0)])) (fun tZ kZ => ?_) ?_
  · refine AV.len c61_3.top X63 hx hZ e63 (hb hby d10_7) ?_
    refine XS.icmpNo X63.here hx rfl (hb hby d10_8) rfl (tlt (by decide)).2.1 ?_
    refine XS.iconst X63.here hx rfl (hb hby d10_11) ?_
    refine XS.istoreN X63.here hx rfl (hb hby d10_12) rfl (l' := #[sR o0, sI 1, sI 0, sR (vA + 2 + 5 * 0 + 3), sR (dA + 2 + 5 * 0 + 3), sI 3]) rfl ?_
    refine XS.iloadN X63.here hx rfl (hb hby d10_13) rfl ?_
    refine XS.aloadN X63.here hx rfl (hb hby d10_14) rfl rfl ?_
    exact kZ
  refine GF X63 hx hZ hown (wq hw 38 rfl) e63 c61_1 (hb hby d10_15) fun T64 X64 e64 => ?_
  refine Vi (T64.setTop (mkF m 25 #[sR o0, sI 1, sI 0, sR (vA + 2 + 5 * 0 + 3), sR (dA + 2 + 5 * 0 + 3), sI 3] [(.ref o0)])) (fun tZ kZ => ?_) ?_
  · refine XS.iloadN X64.here hx rfl (hb hby d10_18) rfl ?_
    refine AV.aaload c61_3.top rfl X64 hx hZ e64 (j := (1 : Int32)) (by decide) (hb hby d10_19) ?_
    refine AV.len (c61_3.row 1 (by decide)) X64 hx hZ e64 (hb hby d10_20) ?_
    refine XS.icmpNo X64.here hx rfl (hb hby d10_21) rfl (tlt (by decide)).2.1 ?_
    refine XS.aloadN X64.here hx rfl (hb hby d10_24) rfl rfl ?_
    exact kZ
  refine GF X64 hx hZ hown (wq hw 38 rfl) e64 c61_1 (hb hby d10_25) fun T65 X65 e65 => ?_
  refine Vi (T65.setTop (mkF m 34 #[sR o0, sI 1, sI 0, sR (vA + 2 + 5 * 1 + 0), sR (dA + 2 + 5 * 0 + 3), sI 3] [(.ref o0)])) (fun tZ kZ => ?_) ?_
  · refine XS.iloadN X65.here hx rfl (hb hby d10_28) rfl ?_
    refine AV.aaload c61_3.top rfl X65 hx hZ e65 (j := (1 : Int32)) (by decide) (hb hby d10_29) ?_
    refine XS.iloadN X65.here hx rfl (hb hby d10_30) rfl ?_
    refine AV.aaload (c61_3.row 1 (by decide)) rfl X65 hx hZ e65 (j := (0 : Int32)) (by decide) (hb hby d10_31) ?_
    refine XS.astoreN X65.here hx rfl (hb hby d10_32) rfl rfl (l' := #[sR o0, sI 1, sI 0, sR (vA + 2 + 5 * 1 + 0), sR (dA + 2 + 5 * 0 + 3), sI 3]) rfl ?_
    refine XS.aloadN X65.here hx rfl (hb hby d10_33) rfl rfl ?_
    exact kZ
  refine GF X65 hx hZ hown (wq hw 40 rfl) e65 c61_2 (hb hby d10_34) fun T66 X66 e66 => ?_
  refine Vi (T66.setTop (mkF m 70 #[sR o0, sI 1, sI 0, sR (vA + 2 + 5 * 1 + 0), sR (dA + 2 + 5 * 1 + 0), sI 0] [(.double (FP.dadd (FP.dmul (4606732058837280358 : UInt64) (((own_vl f g 12) 1 0) (0 : Int32).toNatClampNeg)) (((own_dp g 12) 1 0) (0 : Int32).toNatClampNeg))), (.int 0), (.ref (vA + 2 + 5 * 1 + 0))])) (fun tZ kZ => ?_) ?_
  · refine XS.iloadN X66.here hx rfl (hb hby d10_37) rfl ?_
    refine AV.aaload Gw60.top rfl X66 hx hZ e66 (j := (1 : Int32)) (by decide) (hb hby d10_38) ?_
    refine XS.iloadN X66.here hx rfl (hb hby d10_39) rfl ?_
    refine AV.aaload (Gw60.row 1 (by decide)) rfl X66 hx hZ e66 (j := (0 : Int32)) (by decide) (hb hby d10_40) ?_
    refine XS.astore X66.here hx rfl (hb hby d10_41) rfl rfl (l' := #[sR o0, sI 1, sI 0, sR (vA + 2 + 5 * 1 + 0), sR (dA + 2 + 5 * 1 + 0), sI 3]) rfl ?_
    refine XS.iconst X66.here hx rfl (hb hby d10_43) ?_
    refine XS.istore X66.here hx rfl (hb hby d10_44) rfl (l' := #[sR o0, sI 1, sI 0, sR (vA + 2 + 5 * 1 + 0), sR (dA + 2 + 5 * 1 + 0), sI 0]) rfl ?_
    refine XS.iload X66.here hx rfl (hb hby d10_46) rfl ?_
    refine XS.aloadN X66.here hx rfl (hb hby d10_48) rfl rfl ?_
    refine AV.len (c61_3.cell 1 0 (by decide) (by decide)) X66 hx hZ e66 (hb hby d10_49) ?_
    refine XS.icmpNo X66.here hx rfl (hb hby d10_50) rfl (tlt (by decide)).2.1 ?_
    refine XS.aloadN X66.here hx rfl (hb hby d10_53) rfl rfl ?_
    refine XS.iload X66.here hx rfl (hb hby d10_54) rfl ?_
    refine X66.ldc2DoubleC hx hown (wz hZ hw 76 rfl) (g := (mkF m 56 #[sR o0, sI 1, sI 0, sR (vA + 2 + 5 * 1 + 0), sR (dA + 2 + 5 * 1 + 0), sI 0] [(.int 0), (.ref (vA + 2 + 5 * 1 + 0))])) rfl (hb hby d10_56) _ ?_
    refine XS.aloadN X66.here hx rfl (hb hby d10_59) rfl rfl ?_
    refine XS.iload X66.here hx rfl (hb hby d10_60) rfl ?_
    refine AV.daload (c61_3.cell 1 0 (by decide) (by decide)) X66 hx hZ e66 (j := (0 : Int32)) (by decide) (hb hby d10_62) ?_
    refine XS.dmulS X66.here hx rfl (hb hby d10_63) rfl (hnn 1 0 0 (by decide) (by decide) (by decide)).1 rfl ?_
    refine XS.aload X66.here hx rfl (hb hby d10_64) rfl rfl ?_
    refine XS.iload X66.here hx rfl (hb hby d10_66) rfl ?_
    refine AV.daload (Gw60.cell 1 0 (by decide) (by decide)) X66 hx hZ e66 (j := (0 : Int32)) (by decide) (hb hby d10_68) ?_
    refine XS.daddS X66.here hx rfl (hb hby d10_69) rfl (hnn 1 0 0 (by decide) (by decide) (by decide)).2 rfl ?_
    exact kZ
  obtain ⟨T67, h67, X67, e67, W67, V67, st67⟩ := AV.dastore (c61_3.cell 1 0 (by decide) (by decide)) X66 hx hZ e66 (j := (0 : Int32)) (by decide) (Ls := #[sR o0, sI 1, sI 0, sR (vA + 2 + 5 * 1 + 0), sR (dA + 2 + 5 * 1 + 0), sI 0]) (rest := []) (hb hby d10_70) (x := (FP.dadd (FP.dmul (4606732058837280358 : UInt64) (((own_vl f g 12) 1 0) (0 : Int32).toNatClampNeg)) (((own_dp g 12) 1 0) (0 : Int32).toNatClampNeg)))
  have N67 := Fr.snoc X67 N60 (Nat.le_trans ha5 (show vA ≤ (vA + 2 + 5 * 1 + 0) by omega))
  have c68_0 := c61_0.wr W67
  have c68_1 := c61_1.other W67 (Or.inl (own_na (by omega)))
  have c68_2 := c61_2.other W67 (Or.inl (own_na (by omega)))
  have c68_3 := c61_3
  have c68_4 := Gw60.other W67 (by omega)
  have K67 : Keep h0 h67 [(vA + 2 + 5 * 0 + 0), (dA + 2 + 5 * 0 + 0), (vA + 2 + 5 * 0 + 1), (dA + 2 + 5 * 0 + 1), (vA + 2 + 5 * 0 + 2), (dA + 2 + 5 * 0 + 2), (vA + 2 + 5 * 0 + 3), (dA + 2 + 5 * 0 + 3), (vA + 2 + 5 * 1 + 0), (dA + 2 + 5 * 1 + 0), (vA + 2 + 5 * 1 + 1), (dA + 2 + 5 * 1 + 1), (vA + 2 + 5 * 1 + 2), (dA + 2 + 5 * 1 + 2), (vA + 2 + 5 * 1 + 3), (dA + 2 + 5 * 1 + 3)] := K60.wr W67 (Or.inl (by simp))
  have Z67 := Nat.le_trans Z60 (Keep.of_wr W67).1
  have Gw67 : Gd Z h67 vA (own_vl f g 13) := (Gd.set c61_3 1 0 (by decide) (by decide) W67 V67).congr (own_vl_step rfl (by decide) (by decide) rfl)
  refine Go.via st67 ?_
  refine Vi (T67.setTop (mkF m 76 #[sR o0, sI 1, sI 0, sR (vA + 2 + 5 * 1 + 0), sR (dA + 2 + 5 * 1 + 0), sI 0] [(.double FP.dconst0), (.int 0), (.ref (dA + 2 + 5 * 1 + 0))])) (fun tZ kZ => ?_) ?_
  · refine XS.aload X67.here hx rfl (hb hby d10_71) rfl rfl ?_
    refine XS.iload X67.here hx rfl (hb hby d10_73) rfl ?_
    refine XS.dconst0 X67.here hx rfl (hb hby d10_75) rfl ?_
    exact kZ
  obtain ⟨T69, h69, X69, e69, W69, V69, st69⟩ := AV.dastore (c68_4.cell 1 0 (by decide) (by decide)) X67 hx hZ e67 (j := (0 : Int32)) (by decide) (Ls := #[sR o0, sI 1, sI 0, sR (vA + 2 + 5 * 1 + 0), sR (dA + 2 + 5 * 1 + 0), sI 0]) (rest := []) (hb hby d10_76) (x := FP.dconst0)
  have N69 := Fr.snoc X69 N67 (Nat.le_trans ha6 (show dA ≤ (dA + 2 + 5 * 1 + 0) by omega))
  have c70_0 := c68_0.wr W69
  have c70_1 := c68_1.other W69 (Or.inl (own_na (by omega)))
  have c70_2 := c68_2.other W69 (Or.inl (own_na (by omega)))
  have c70_3 := Gw67.other W69 (by omega)
  have c70_4 := c68_4
  have K69 : Keep h0 h69 [(vA + 2 + 5 * 0 + 0), (dA + 2 + 5 * 0 + 0), (vA + 2 + 5 * 0 + 1), (dA + 2 + 5 * 0 + 1), (vA + 2 + 5 * 0 + 2), (dA + 2 + 5 * 0 + 2), (vA + 2 + 5 * 0 + 3), (dA + 2 + 5 * 0 + 3), (vA + 2 + 5 * 1 + 0), (dA + 2 + 5 * 1 + 0), (vA + 2 + 5 * 1 + 1), (dA + 2 + 5 * 1 + 1), (vA + 2 + 5 * 1 + 2), (dA + 2 + 5 * 1 + 2), (vA + 2 + 5 * 1 + 3), (dA + 2 + 5 * 1 + 3)] := K67.wr W69 (Or.inl (by simp))
  have Z69 := Nat.le_trans Z67 (Keep.of_wr W69).1
  have Gw69 : Gd Z h69 dA (own_dp g 13) := (Gd.set c68_4 1 0 (by decide) (by decide) W69 V69).congr (own_dp_step rfl (by decide) (by decide))
  refine Go.via st69 ?_
  refine Vi (T69.setTop (mkF m 70 #[sR o0, sI 1, sI 0, sR (vA + 2 + 5 * 1 + 0), sR (dA + 2 + 5 * 1 + 0), sI 1] [(.double (FP.dadd (FP.dmul (4606732058837280358 : UInt64) (((own_vl f g 13) 1 0) (1 : Int32).toNatClampNeg)) (((own_dp g 13) 1 0) (1 : Int32).toNatClampNeg))), (.int 1), (.ref (vA + 2 + 5 * 1 + 0))])) (fun tZ kZ => ?_) ?_
  · refine XS.iinc X69.here hx rfl (hb hby d10_77) rfl (l' := #[sR o0, sI 1, sI 0, sR (vA + 2 + 5 * 1 + 0), sR (dA + 2 + 5 * 1 + 0), sI 1]) rfl ?_
    refine XS.goto X69.here hx rfl (pc0 := 80) (pc' := 46) rfl (hb hby d10_80) (by decide) (by decide) ?_
    refine XS.iload X69.here hx rfl (hb hby d10_46) rfl ?_
    refine XS.aloadN X69.here hx rfl (hb hby d10_48) rfl rfl ?_
    refine AV.len (c70_3.cell 1 0 (by decide) (by decide)) X69 hx hZ e69 (hb hby d10_49) ?_
    refine XS.icmpNo X69.here hx rfl (hb hby d10_50) rfl (tlt (by decide)).2.1 ?_
    refine XS.aloadN X69.here hx rfl (hb hby d10_53) rfl rfl ?_
    refine XS.iload X69.here hx rfl (hb hby d10_54) rfl ?_
    refine X69.ldc2DoubleC hx hown (wz hZ hw 76 rfl) (g := (mkF m 56 #[sR o0, sI 1, sI 0, sR (vA + 2 + 5 * 1 + 0), sR (dA + 2 + 5 * 1 + 0), sI 1] [(.int 1), (.ref (vA + 2 + 5 * 1 + 0))])) rfl (hb hby d10_56) _ ?_
    refine XS.aloadN X69.here hx rfl (hb hby d10_59) rfl rfl ?_
    refine XS.iload X69.here hx rfl (hb hby d10_60) rfl ?_
    refine AV.daload (c70_3.cell 1 0 (by decide) (by decide)) X69 hx hZ e69 (j := (1 : Int32)) (by decide) (hb hby d10_62) ?_
    refine XS.dmulS X69.here hx rfl (hb hby d10_63) rfl (hnn 1 0 1 (by decide) (by decide) (by decide)).1 rfl ?_
    refine XS.aload X69.here hx rfl (hb hby d10_64) rfl rfl ?_
    refine XS.iload X69.here hx rfl (hb hby d10_66) rfl ?_
    refine AV.daload (Gw69.cell 1 0 (by decide) (by decide)) X69 hx hZ e69 (j := (1 : Int32)) (by decide) (hb hby d10_68) ?_
    refine XS.daddS X69.here hx rfl (hb hby d10_69) rfl (hnn 1 0 1 (by decide) (by decide) (by decide)).2 rfl ?_
    exact kZ
  obtain ⟨T71, h71, X71, e71, W71, V71, st71⟩ := AV.dastore (c70_3.cell 1 0 (by decide) (by decide)) X69 hx hZ e69 (j := (1 : Int32)) (by decide) (Ls := #[sR o0, sI 1, sI 0, sR (vA + 2 + 5 * 1 + 0), sR (dA + 2 + 5 * 1 + 0), sI 1]) (rest := []) (hb hby d10_70) (x := (FP.dadd (FP.dmul (4606732058837280358 : UInt64) (((own_vl f g 13) 1 0) (1 : Int32).toNatClampNeg)) (((own_dp g 13) 1 0) (1 : Int32).toNatClampNeg)))
  have N71 := Fr.snoc X71 N69 (Nat.le_trans ha5 (show vA ≤ (vA + 2 + 5 * 1 + 0) by omega))
  have c72_0 := c70_0.wr W71
  have c72_1 := c70_1.other W71 (Or.inl (own_na (by omega)))
  have c72_2 := c70_2.other W71 (Or.inl (own_na (by omega)))
  have c72_3 := c70_3
  have c72_4 := Gw69.other W71 (by omega)
  have K71 : Keep h0 h71 [(vA + 2 + 5 * 0 + 0), (dA + 2 + 5 * 0 + 0), (vA + 2 + 5 * 0 + 1), (dA + 2 + 5 * 0 + 1), (vA + 2 + 5 * 0 + 2), (dA + 2 + 5 * 0 + 2), (vA + 2 + 5 * 0 + 3), (dA + 2 + 5 * 0 + 3), (vA + 2 + 5 * 1 + 0), (dA + 2 + 5 * 1 + 0), (vA + 2 + 5 * 1 + 1), (dA + 2 + 5 * 1 + 1), (vA + 2 + 5 * 1 + 2), (dA + 2 + 5 * 1 + 2), (vA + 2 + 5 * 1 + 3), (dA + 2 + 5 * 1 + 3)] := K69.wr W71 (Or.inl (by simp))
  have Z71 := Nat.le_trans Z69 (Keep.of_wr W71).1
  have Gw71 : Gd Z h71 vA (own_vl f g 14) := (Gd.set c70_3 1 0 (by decide) (by decide) W71 V71).congr (own_vl_step rfl (by decide) (by decide) rfl)
  refine Go.via st71 ?_
  refine Vi (T71.setTop (mkF m 76 #[sR o0, sI 1, sI 0, sR (vA + 2 + 5 * 1 + 0), sR (dA + 2 + 5 * 1 + 0), sI 1] [(.double FP.dconst0), (.int 1), (.ref (dA + 2 + 5 * 1 + 0))])) (fun tZ kZ => ?_) ?_
  · refine XS.aload X71.here hx rfl (hb hby d10_71) rfl rfl ?_
    refine XS.iload X71.here hx rfl (hb hby d10_73) rfl ?_
    refine XS.dconst0 X71.here hx rfl (hb hby d10_75) rfl ?_
    exact kZ
  obtain ⟨T73, h73, X73, e73, W73, V73, st73⟩ := AV.dastore (c72_4.cell 1 0 (by decide) (by decide)) X71 hx hZ e71 (j := (1 : Int32)) (by decide) (Ls := #[sR o0, sI 1, sI 0, sR (vA + 2 + 5 * 1 + 0), sR (dA + 2 + 5 * 1 + 0), sI 1]) (rest := []) (hb hby d10_76) (x := FP.dconst0)
  have N73 := Fr.snoc X73 N71 (Nat.le_trans ha6 (show dA ≤ (dA + 2 + 5 * 1 + 0) by omega))
  have c74_0 := c72_0.wr W73
  have c74_1 := c72_1.other W73 (Or.inl (own_na (by omega)))
  have c74_2 := c72_2.other W73 (Or.inl (own_na (by omega)))
  have c74_3 := Gw71.other W73 (by omega)
  have c74_4 := c72_4
  have K73 : Keep h0 h73 [(vA + 2 + 5 * 0 + 0), (dA + 2 + 5 * 0 + 0), (vA + 2 + 5 * 0 + 1), (dA + 2 + 5 * 0 + 1), (vA + 2 + 5 * 0 + 2), (dA + 2 + 5 * 0 + 2), (vA + 2 + 5 * 0 + 3), (dA + 2 + 5 * 0 + 3), (vA + 2 + 5 * 1 + 0), (dA + 2 + 5 * 1 + 0), (vA + 2 + 5 * 1 + 1), (dA + 2 + 5 * 1 + 1), (vA + 2 + 5 * 1 + 2), (dA + 2 + 5 * 1 + 2), (vA + 2 + 5 * 1 + 3), (dA + 2 + 5 * 1 + 3)] := K71.wr W73 (Or.inl (by simp))
  have Z73 := Nat.le_trans Z71 (Keep.of_wr W73).1
  have Gw73 : Gd Z h73 dA (own_dp g 14) := (Gd.set c72_4 1 0 (by decide) (by decide) W73 V73).congr (own_dp_step rfl (by decide) (by decide))
  refine Go.via st73 ?_
  refine Vi (T73.setTop (mkF m 70 #[sR o0, sI 1, sI 0, sR (vA + 2 + 5 * 1 + 0), sR (dA + 2 + 5 * 1 + 0), sI 2] [(.double (FP.dadd (FP.dmul (4606732058837280358 : UInt64) (((own_vl f g 14) 1 0) (2 : Int32).toNatClampNeg)) (((own_dp g 14) 1 0) (2 : Int32).toNatClampNeg))), (.int 2), (.ref (vA + 2 + 5 * 1 + 0))])) (fun tZ kZ => ?_) ?_
  · refine XS.iinc X73.here hx rfl (hb hby d10_77) rfl (l' := #[sR o0, sI 1, sI 0, sR (vA + 2 + 5 * 1 + 0), sR (dA + 2 + 5 * 1 + 0), sI 2]) rfl ?_
    refine XS.goto X73.here hx rfl (pc0 := 80) (pc' := 46) rfl (hb hby d10_80) (by decide) (by decide) ?_
    refine XS.iload X73.here hx rfl (hb hby d10_46) rfl ?_
    refine XS.aloadN X73.here hx rfl (hb hby d10_48) rfl rfl ?_
    refine AV.len (c74_3.cell 1 0 (by decide) (by decide)) X73 hx hZ e73 (hb hby d10_49) ?_
    refine XS.icmpNo X73.here hx rfl (hb hby d10_50) rfl (tlt (by decide)).2.1 ?_
    refine XS.aloadN X73.here hx rfl (hb hby d10_53) rfl rfl ?_
    refine XS.iload X73.here hx rfl (hb hby d10_54) rfl ?_
    refine X73.ldc2DoubleC hx hown (wz hZ hw 76 rfl) (g := (mkF m 56 #[sR o0, sI 1, sI 0, sR (vA + 2 + 5 * 1 + 0), sR (dA + 2 + 5 * 1 + 0), sI 2] [(.int 2), (.ref (vA + 2 + 5 * 1 + 0))])) rfl (hb hby d10_56) _ ?_
    refine XS.aloadN X73.here hx rfl (hb hby d10_59) rfl rfl ?_
    refine XS.iload X73.here hx rfl (hb hby d10_60) rfl ?_
    refine AV.daload (c74_3.cell 1 0 (by decide) (by decide)) X73 hx hZ e73 (j := (2 : Int32)) (by decide) (hb hby d10_62) ?_
    refine XS.dmulS X73.here hx rfl (hb hby d10_63) rfl (hnn 1 0 2 (by decide) (by decide) (by decide)).1 rfl ?_
    refine XS.aload X73.here hx rfl (hb hby d10_64) rfl rfl ?_
    refine XS.iload X73.here hx rfl (hb hby d10_66) rfl ?_
    refine AV.daload (Gw73.cell 1 0 (by decide) (by decide)) X73 hx hZ e73 (j := (2 : Int32)) (by decide) (hb hby d10_68) ?_
    refine XS.daddS X73.here hx rfl (hb hby d10_69) rfl (hnn 1 0 2 (by decide) (by decide) (by decide)).2 rfl ?_
    exact kZ
  obtain ⟨T75, h75, X75, e75, W75, V75, st75⟩ := AV.dastore (c74_3.cell 1 0 (by decide) (by decide)) X73 hx hZ e73 (j := (2 : Int32)) (by decide) (Ls := #[sR o0, sI 1, sI 0, sR (vA + 2 + 5 * 1 + 0), sR (dA + 2 + 5 * 1 + 0), sI 2]) (rest := []) (hb hby d10_70) (x := (FP.dadd (FP.dmul (4606732058837280358 : UInt64) (((own_vl f g 14) 1 0) (2 : Int32).toNatClampNeg)) (((own_dp g 14) 1 0) (2 : Int32).toNatClampNeg)))
  have N75 := Fr.snoc X75 N73 (Nat.le_trans ha5 (show vA ≤ (vA + 2 + 5 * 1 + 0) by omega))
  have c76_0 := c74_0.wr W75
  have c76_1 := c74_1.other W75 (Or.inl (own_na (by omega)))
  have c76_2 := c74_2.other W75 (Or.inl (own_na (by omega)))
  have c76_3 := c74_3
  have c76_4 := Gw73.other W75 (by omega)
  have K75 : Keep h0 h75 [(vA + 2 + 5 * 0 + 0), (dA + 2 + 5 * 0 + 0), (vA + 2 + 5 * 0 + 1), (dA + 2 + 5 * 0 + 1), (vA + 2 + 5 * 0 + 2), (dA + 2 + 5 * 0 + 2), (vA + 2 + 5 * 0 + 3), (dA + 2 + 5 * 0 + 3), (vA + 2 + 5 * 1 + 0), (dA + 2 + 5 * 1 + 0), (vA + 2 + 5 * 1 + 1), (dA + 2 + 5 * 1 + 1), (vA + 2 + 5 * 1 + 2), (dA + 2 + 5 * 1 + 2), (vA + 2 + 5 * 1 + 3), (dA + 2 + 5 * 1 + 3)] := K73.wr W75 (Or.inl (by simp))
  have Z75 := Nat.le_trans Z73 (Keep.of_wr W75).1
  have Gw75 : Gd Z h75 vA (own_vl f g 15) := (Gd.set c74_3 1 0 (by decide) (by decide) W75 V75).congr (own_vl_step rfl (by decide) (by decide) rfl)
  refine Go.via st75 ?_
  refine Vi (T75.setTop (mkF m 76 #[sR o0, sI 1, sI 0, sR (vA + 2 + 5 * 1 + 0), sR (dA + 2 + 5 * 1 + 0), sI 2] [(.double FP.dconst0), (.int 2), (.ref (dA + 2 + 5 * 1 + 0))])) (fun tZ kZ => ?_) ?_
  · refine XS.aload X75.here hx rfl (hb hby d10_71) rfl rfl ?_
    refine XS.iload X75.here hx rfl (hb hby d10_73) rfl ?_
    refine XS.dconst0 X75.here hx rfl (hb hby d10_75) rfl ?_
    exact kZ
  obtain ⟨T77, h77, X77, e77, W77, V77, st77⟩ := AV.dastore (c76_4.cell 1 0 (by decide) (by decide)) X75 hx hZ e75 (j := (2 : Int32)) (by decide) (Ls := #[sR o0, sI 1, sI 0, sR (vA + 2 + 5 * 1 + 0), sR (dA + 2 + 5 * 1 + 0), sI 2]) (rest := []) (hb hby d10_76) (x := FP.dconst0)
  have N77 := Fr.snoc X77 N75 (Nat.le_trans ha6 (show dA ≤ (dA + 2 + 5 * 1 + 0) by omega))
  have c78_0 := c76_0.wr W77
  have c78_1 := c76_1.other W77 (Or.inl (own_na (by omega)))
  have c78_2 := c76_2.other W77 (Or.inl (own_na (by omega)))
  have c78_3 := Gw75.other W77 (by omega)
  have c78_4 := c76_4
  have K77 : Keep h0 h77 [(vA + 2 + 5 * 0 + 0), (dA + 2 + 5 * 0 + 0), (vA + 2 + 5 * 0 + 1), (dA + 2 + 5 * 0 + 1), (vA + 2 + 5 * 0 + 2), (dA + 2 + 5 * 0 + 2), (vA + 2 + 5 * 0 + 3), (dA + 2 + 5 * 0 + 3), (vA + 2 + 5 * 1 + 0), (dA + 2 + 5 * 1 + 0), (vA + 2 + 5 * 1 + 1), (dA + 2 + 5 * 1 + 1), (vA + 2 + 5 * 1 + 2), (dA + 2 + 5 * 1 + 2), (vA + 2 + 5 * 1 + 3), (dA + 2 + 5 * 1 + 3)] := K75.wr W77 (Or.inl (by simp))
  have Z77 := Nat.le_trans Z75 (Keep.of_wr W77).1
  have Gw77 : Gd Z h77 dA (own_dp g 15) := (Gd.set c76_4 1 0 (by decide) (by decide) W77 V77).congr (own_dp_step rfl (by decide) (by decide))
  refine Go.via st77 ?_
  refine Vi (T77.setTop (mkF m 15 #[sR o0, sI 1, sI 1, sR (vA + 2 + 5 * 1 + 0), sR (dA + 2 + 5 * 1 + 0), sI 3] [(.ref o0), (.int 1)])) (fun tZ kZ => ?_) ?_
  · refine XS.iinc X77.here hx rfl (hb hby d10_77) rfl (l' := #[sR o0, sI 1, sI 0, sR (vA + 2 + 5 * 1 + 0), sR (dA + 2 + 5 * 1 + 0), sI 3]) rfl ?_
    refine XS.goto X77.here hx rfl (pc0 := 80) (pc' := 46) rfl (hb hby d10_80) (by decide) (by decide) ?_
    refine XS.iload X77.here hx rfl (hb hby d10_46) rfl ?_
    refine XS.aloadN X77.here hx rfl (hb hby d10_48) rfl rfl ?_
    refine AV.len (c78_3.cell 1 0 (by decide) (by decide)) X77 hx hZ e77 (hb hby d10_49) ?_
    refine XS.icmpYes X77.here hx rfl (pc0 := 50) (pc' := 83) rfl (hb hby d10_50) rfl (flt (by decide)).2.1 (by decide) (by decide) ?_
    refine XS.iinc X77.here hx rfl (hb hby d10_83) rfl (l' := #[sR o0, sI 1, sI 1, sR (vA + 2 + 5 * 1 + 0), sR (dA + 2 + 5 * 1 + 0), sI 3]) rfl ?_
    refine XS.goto X77.here hx rfl (pc0 := 86) (pc' := 13) rfl (hb hby d10_86) (by decide) (by decide) ?_
    refine XS.iloadN X77.here hx rfl (hb hby d10_13) rfl ?_
    refine XS.aloadN X77.here hx rfl (hb hby d10_14) rfl rfl ?_
    exact kZ
  refine GF X77 hx hZ hown (wq hw 38 rfl) e77 c78_1 (hb hby d10_15) fun T79 X79 e79 => ?_
  refine Vi (T79.setTop (mkF m 25 #[sR o0, sI 1, sI 1, sR (vA + 2 + 5 * 1 + 0), sR (dA + 2 + 5 * 1 + 0), sI 3] [(.ref o0)])) (fun tZ kZ => ?_) ?_
  · refine XS.iloadN X79.here hx rfl (hb hby d10_18) rfl ?_
    refine AV.aaload c78_3.top rfl X79 hx hZ e79 (j := (1 : Int32)) (by decide) (hb hby d10_19) ?_
    refine AV.len (c78_3.row 1 (by decide)) X79 hx hZ e79 (hb hby d10_20) ?_
    refine XS.icmpNo X79.here hx rfl (hb hby d10_21) rfl (tlt (by decide)).2.1 ?_
    refine XS.aloadN X79.here hx rfl (hb hby d10_24) rfl rfl ?_
    exact kZ
  refine GF X79 hx hZ hown (wq hw 38 rfl) e79 c78_1 (hb hby d10_25) fun T80 X80 e80 => ?_
  refine Vi (T80.setTop (mkF m 34 #[sR o0, sI 1, sI 1, sR (vA + 2 + 5 * 1 + 1), sR (dA + 2 + 5 * 1 + 0), sI 3] [(.ref o0)])) (fun tZ kZ => ?_) ?_
  · refine XS.iloadN X80.here hx rfl (hb hby d10_28) rfl ?_
    refine AV.aaload c78_3.top rfl X80 hx hZ e80 (j := (1 : Int32)) (by decide) (hb hby d10_29) ?_
    refine XS.iloadN X80.here hx rfl (hb hby d10_30) rfl ?_
    refine AV.aaload (c78_3.row 1 (by decide)) rfl X80 hx hZ e80 (j := (1 : Int32)) (by decide) (hb hby d10_31) ?_
    refine XS.astoreN X80.here hx rfl (hb hby d10_32) rfl rfl (l' := #[sR o0, sI 1, sI 1, sR (vA + 2 + 5 * 1 + 1), sR (dA + 2 + 5 * 1 + 0), sI 3]) rfl ?_
    refine XS.aloadN X80.here hx rfl (hb hby d10_33) rfl rfl ?_
    exact kZ
  refine GF X80 hx hZ hown (wq hw 40 rfl) e80 c78_2 (hb hby d10_34) fun T81 X81 e81 => ?_
  refine Vi (T81.setTop (mkF m 70 #[sR o0, sI 1, sI 1, sR (vA + 2 + 5 * 1 + 1), sR (dA + 2 + 5 * 1 + 1), sI 0] [(.double (FP.dadd (FP.dmul (4606732058837280358 : UInt64) (((own_vl f g 15) 1 1) (0 : Int32).toNatClampNeg)) (((own_dp g 15) 1 1) (0 : Int32).toNatClampNeg))), (.int 0), (.ref (vA + 2 + 5 * 1 + 1))])) (fun tZ kZ => ?_) ?_
  · refine XS.iloadN X81.here hx rfl (hb hby d10_37) rfl ?_
    refine AV.aaload Gw77.top rfl X81 hx hZ e81 (j := (1 : Int32)) (by decide) (hb hby d10_38) ?_
    refine XS.iloadN X81.here hx rfl (hb hby d10_39) rfl ?_
    refine AV.aaload (Gw77.row 1 (by decide)) rfl X81 hx hZ e81 (j := (1 : Int32)) (by decide) (hb hby d10_40) ?_
    refine XS.astore X81.here hx rfl (hb hby d10_41) rfl rfl (l' := #[sR o0, sI 1, sI 1, sR (vA + 2 + 5 * 1 + 1), sR (dA + 2 + 5 * 1 + 1), sI 3]) rfl ?_
    refine XS.iconst X81.here hx rfl (hb hby d10_43) ?_
    refine XS.istore X81.here hx rfl (hb hby d10_44) rfl (l' := #[sR o0, sI 1, sI 1, sR (vA + 2 + 5 * 1 + 1), sR (dA + 2 + 5 * 1 + 1), sI 0]) rfl ?_
    refine XS.iload X81.here hx rfl (hb hby d10_46) rfl ?_
    refine XS.aloadN X81.here hx rfl (hb hby d10_48) rfl rfl ?_
    refine AV.len (c78_3.cell 1 1 (by decide) (by decide)) X81 hx hZ e81 (hb hby d10_49) ?_
    refine XS.icmpNo X81.here hx rfl (hb hby d10_50) rfl (tlt (by decide)).2.1 ?_
    refine XS.aloadN X81.here hx rfl (hb hby d10_53) rfl rfl ?_
    refine XS.iload X81.here hx rfl (hb hby d10_54) rfl ?_
    refine X81.ldc2DoubleC hx hown (wz hZ hw 76 rfl) (g := (mkF m 56 #[sR o0, sI 1, sI 1, sR (vA + 2 + 5 * 1 + 1), sR (dA + 2 + 5 * 1 + 1), sI 0] [(.int 0), (.ref (vA + 2 + 5 * 1 + 1))])) rfl (hb hby d10_56) _ ?_
    refine XS.aloadN X81.here hx rfl (hb hby d10_59) rfl rfl ?_
    refine XS.iload X81.here hx rfl (hb hby d10_60) rfl ?_
    refine AV.daload (c78_3.cell 1 1 (by decide) (by decide)) X81 hx hZ e81 (j := (0 : Int32)) (by decide) (hb hby d10_62) ?_
    refine XS.dmulS X81.here hx rfl (hb hby d10_63) rfl (hnn 1 1 0 (by decide) (by decide) (by decide)).1 rfl ?_
    refine XS.aload X81.here hx rfl (hb hby d10_64) rfl rfl ?_
    refine XS.iload X81.here hx rfl (hb hby d10_66) rfl ?_
    refine AV.daload (Gw77.cell 1 1 (by decide) (by decide)) X81 hx hZ e81 (j := (0 : Int32)) (by decide) (hb hby d10_68) ?_
    refine XS.daddS X81.here hx rfl (hb hby d10_69) rfl (hnn 1 1 0 (by decide) (by decide) (by decide)).2 rfl ?_
    exact kZ
  obtain ⟨T82, h82, X82, e82, W82, V82, st82⟩ := AV.dastore (c78_3.cell 1 1 (by decide) (by decide)) X81 hx hZ e81 (j := (0 : Int32)) (by decide) (Ls := #[sR o0, sI 1, sI 1, sR (vA + 2 + 5 * 1 + 1), sR (dA + 2 + 5 * 1 + 1), sI 0]) (rest := []) (hb hby d10_70) (x := (FP.dadd (FP.dmul (4606732058837280358 : UInt64) (((own_vl f g 15) 1 1) (0 : Int32).toNatClampNeg)) (((own_dp g 15) 1 1) (0 : Int32).toNatClampNeg)))
  have N82 := Fr.snoc X82 N77 (Nat.le_trans ha5 (show vA ≤ (vA + 2 + 5 * 1 + 1) by omega))
  have c83_0 := c78_0.wr W82
  have c83_1 := c78_1.other W82 (Or.inl (own_na (by omega)))
  have c83_2 := c78_2.other W82 (Or.inl (own_na (by omega)))
  have c83_3 := c78_3
  have c83_4 := Gw77.other W82 (by omega)
  have K82 : Keep h0 h82 [(vA + 2 + 5 * 0 + 0), (dA + 2 + 5 * 0 + 0), (vA + 2 + 5 * 0 + 1), (dA + 2 + 5 * 0 + 1), (vA + 2 + 5 * 0 + 2), (dA + 2 + 5 * 0 + 2), (vA + 2 + 5 * 0 + 3), (dA + 2 + 5 * 0 + 3), (vA + 2 + 5 * 1 + 0), (dA + 2 + 5 * 1 + 0), (vA + 2 + 5 * 1 + 1), (dA + 2 + 5 * 1 + 1), (vA + 2 + 5 * 1 + 2), (dA + 2 + 5 * 1 + 2), (vA + 2 + 5 * 1 + 3), (dA + 2 + 5 * 1 + 3)] := K77.wr W82 (Or.inl (by simp))
  have Z82 := Nat.le_trans Z77 (Keep.of_wr W82).1
  have Gw82 : Gd Z h82 vA (own_vl f g 16) := (Gd.set c78_3 1 1 (by decide) (by decide) W82 V82).congr (own_vl_step rfl (by decide) (by decide) rfl)
  refine Go.via st82 ?_
  refine Vi (T82.setTop (mkF m 76 #[sR o0, sI 1, sI 1, sR (vA + 2 + 5 * 1 + 1), sR (dA + 2 + 5 * 1 + 1), sI 0] [(.double FP.dconst0), (.int 0), (.ref (dA + 2 + 5 * 1 + 1))])) (fun tZ kZ => ?_) ?_
  · refine XS.aload X82.here hx rfl (hb hby d10_71) rfl rfl ?_
    refine XS.iload X82.here hx rfl (hb hby d10_73) rfl ?_
    refine XS.dconst0 X82.here hx rfl (hb hby d10_75) rfl ?_
    exact kZ
  obtain ⟨T84, h84, X84, e84, W84, V84, st84⟩ := AV.dastore (c83_4.cell 1 1 (by decide) (by decide)) X82 hx hZ e82 (j := (0 : Int32)) (by decide) (Ls := #[sR o0, sI 1, sI 1, sR (vA + 2 + 5 * 1 + 1), sR (dA + 2 + 5 * 1 + 1), sI 0]) (rest := []) (hb hby d10_76) (x := FP.dconst0)
  have N84 := Fr.snoc X84 N82 (Nat.le_trans ha6 (show dA ≤ (dA + 2 + 5 * 1 + 1) by omega))
  have c85_0 := c83_0.wr W84
  have c85_1 := c83_1.other W84 (Or.inl (own_na (by omega)))
  have c85_2 := c83_2.other W84 (Or.inl (own_na (by omega)))
  have c85_3 := Gw82.other W84 (by omega)
  have c85_4 := c83_4
  have K84 : Keep h0 h84 [(vA + 2 + 5 * 0 + 0), (dA + 2 + 5 * 0 + 0), (vA + 2 + 5 * 0 + 1), (dA + 2 + 5 * 0 + 1), (vA + 2 + 5 * 0 + 2), (dA + 2 + 5 * 0 + 2), (vA + 2 + 5 * 0 + 3), (dA + 2 + 5 * 0 + 3), (vA + 2 + 5 * 1 + 0), (dA + 2 + 5 * 1 + 0), (vA + 2 + 5 * 1 + 1), (dA + 2 + 5 * 1 + 1), (vA + 2 + 5 * 1 + 2), (dA + 2 + 5 * 1 + 2), (vA + 2 + 5 * 1 + 3), (dA + 2 + 5 * 1 + 3)] := K82.wr W84 (Or.inl (by simp))
  have Z84 := Nat.le_trans Z82 (Keep.of_wr W84).1
  have Gw84 : Gd Z h84 dA (own_dp g 16) := (Gd.set c83_4 1 1 (by decide) (by decide) W84 V84).congr (own_dp_step rfl (by decide) (by decide))
  refine Go.via st84 ?_
  refine Vi (T84.setTop (mkF m 70 #[sR o0, sI 1, sI 1, sR (vA + 2 + 5 * 1 + 1), sR (dA + 2 + 5 * 1 + 1), sI 1] [(.double (FP.dadd (FP.dmul (4606732058837280358 : UInt64) (((own_vl f g 16) 1 1) (1 : Int32).toNatClampNeg)) (((own_dp g 16) 1 1) (1 : Int32).toNatClampNeg))), (.int 1), (.ref (vA + 2 + 5 * 1 + 1))])) (fun tZ kZ => ?_) ?_
  · refine XS.iinc X84.here hx rfl (hb hby d10_77) rfl (l' := #[sR o0, sI 1, sI 1, sR (vA + 2 + 5 * 1 + 1), sR (dA + 2 + 5 * 1 + 1), sI 1]) rfl ?_
    refine XS.goto X84.here hx rfl (pc0 := 80) (pc' := 46) rfl (hb hby d10_80) (by decide) (by decide) ?_
    refine XS.iload X84.here hx rfl (hb hby d10_46) rfl ?_
    refine XS.aloadN X84.here hx rfl (hb hby d10_48) rfl rfl ?_
    refine AV.len (c85_3.cell 1 1 (by decide) (by decide)) X84 hx hZ e84 (hb hby d10_49) ?_
    refine XS.icmpNo X84.here hx rfl (hb hby d10_50) rfl (tlt (by decide)).2.1 ?_
    refine XS.aloadN X84.here hx rfl (hb hby d10_53) rfl rfl ?_
    refine XS.iload X84.here hx rfl (hb hby d10_54) rfl ?_
    refine X84.ldc2DoubleC hx hown (wz hZ hw 76 rfl) (g := (mkF m 56 #[sR o0, sI 1, sI 1, sR (vA + 2 + 5 * 1 + 1), sR (dA + 2 + 5 * 1 + 1), sI 1] [(.int 1), (.ref (vA + 2 + 5 * 1 + 1))])) rfl (hb hby d10_56) _ ?_
    refine XS.aloadN X84.here hx rfl (hb hby d10_59) rfl rfl ?_
    refine XS.iload X84.here hx rfl (hb hby d10_60) rfl ?_
    refine AV.daload (c85_3.cell 1 1 (by decide) (by decide)) X84 hx hZ e84 (j := (1 : Int32)) (by decide) (hb hby d10_62) ?_
    refine XS.dmulS X84.here hx rfl (hb hby d10_63) rfl (hnn 1 1 1 (by decide) (by decide) (by decide)).1 rfl ?_
    refine XS.aload X84.here hx rfl (hb hby d10_64) rfl rfl ?_
    refine XS.iload X84.here hx rfl (hb hby d10_66) rfl ?_
    refine AV.daload (Gw84.cell 1 1 (by decide) (by decide)) X84 hx hZ e84 (j := (1 : Int32)) (by decide) (hb hby d10_68) ?_
    refine XS.daddS X84.here hx rfl (hb hby d10_69) rfl (hnn 1 1 1 (by decide) (by decide) (by decide)).2 rfl ?_
    exact kZ
  obtain ⟨T86, h86, X86, e86, W86, V86, st86⟩ := AV.dastore (c85_3.cell 1 1 (by decide) (by decide)) X84 hx hZ e84 (j := (1 : Int32)) (by decide) (Ls := #[sR o0, sI 1, sI 1, sR (vA + 2 + 5 * 1 + 1), sR (dA + 2 + 5 * 1 + 1), sI 1]) (rest := []) (hb hby d10_70) (x := (FP.dadd (FP.dmul (4606732058837280358 : UInt64) (((own_vl f g 16) 1 1) (1 : Int32).toNatClampNeg)) (((own_dp g 16) 1 1) (1 : Int32).toNatClampNeg)))
  have N86 := Fr.snoc X86 N84 (Nat.le_trans ha5 (show vA ≤ (vA + 2 + 5 * 1 + 1) by omega))
  have c87_0 := c85_0.wr W86
  have c87_1 := c85_1.other W86 (Or.inl (own_na (by omega)))
  have c87_2 := c85_2.other W86 (Or.inl (own_na (by omega)))
  have c87_3 := c85_3
  have c87_4 := Gw84.other W86 (by omega)
  have K86 : Keep h0 h86 [(vA + 2 + 5 * 0 + 0), (dA + 2 + 5 * 0 + 0), (vA + 2 + 5 * 0 + 1), (dA + 2 + 5 * 0 + 1), (vA + 2 + 5 * 0 + 2), (dA + 2 + 5 * 0 + 2), (vA + 2 + 5 * 0 + 3), (dA + 2 + 5 * 0 + 3), (vA + 2 + 5 * 1 + 0), (dA + 2 + 5 * 1 + 0), (vA + 2 + 5 * 1 + 1), (dA + 2 + 5 * 1 + 1), (vA + 2 + 5 * 1 + 2), (dA + 2 + 5 * 1 + 2), (vA + 2 + 5 * 1 + 3), (dA + 2 + 5 * 1 + 3)] := K84.wr W86 (Or.inl (by simp))
  have Z86 := Nat.le_trans Z84 (Keep.of_wr W86).1
  have Gw86 : Gd Z h86 vA (own_vl f g 17) := (Gd.set c85_3 1 1 (by decide) (by decide) W86 V86).congr (own_vl_step rfl (by decide) (by decide) rfl)
  refine Go.via st86 ?_
  refine Vi (T86.setTop (mkF m 76 #[sR o0, sI 1, sI 1, sR (vA + 2 + 5 * 1 + 1), sR (dA + 2 + 5 * 1 + 1), sI 1] [(.double FP.dconst0), (.int 1), (.ref (dA + 2 + 5 * 1 + 1))])) (fun tZ kZ => ?_) ?_
  · refine XS.aload X86.here hx rfl (hb hby d10_71) rfl rfl ?_
    refine XS.iload X86.here hx rfl (hb hby d10_73) rfl ?_
    refine XS.dconst0 X86.here hx rfl (hb hby d10_75) rfl ?_
    exact kZ
  obtain ⟨T88, h88, X88, e88, W88, V88, st88⟩ := AV.dastore (c87_4.cell 1 1 (by decide) (by decide)) X86 hx hZ e86 (j := (1 : Int32)) (by decide) (Ls := #[sR o0, sI 1, sI 1, sR (vA + 2 + 5 * 1 + 1), sR (dA + 2 + 5 * 1 + 1), sI 1]) (rest := []) (hb hby d10_76) (x := FP.dconst0)
  have N88 := Fr.snoc X88 N86 (Nat.le_trans ha6 (show dA ≤ (dA + 2 + 5 * 1 + 1) by omega))
  have c89_0 := c87_0.wr W88
  have c89_1 := c87_1.other W88 (Or.inl (own_na (by omega)))
  have c89_2 := c87_2.other W88 (Or.inl (own_na (by omega)))
  have c89_3 := Gw86.other W88 (by omega)
  have c89_4 := c87_4
  have K88 : Keep h0 h88 [(vA + 2 + 5 * 0 + 0), (dA + 2 + 5 * 0 + 0), (vA + 2 + 5 * 0 + 1), (dA + 2 + 5 * 0 + 1), (vA + 2 + 5 * 0 + 2), (dA + 2 + 5 * 0 + 2), (vA + 2 + 5 * 0 + 3), (dA + 2 + 5 * 0 + 3), (vA + 2 + 5 * 1 + 0), (dA + 2 + 5 * 1 + 0), (vA + 2 + 5 * 1 + 1), (dA + 2 + 5 * 1 + 1), (vA + 2 + 5 * 1 + 2), (dA + 2 + 5 * 1 + 2), (vA + 2 + 5 * 1 + 3), (dA + 2 + 5 * 1 + 3)] := K86.wr W88 (Or.inl (by simp))
  have Z88 := Nat.le_trans Z86 (Keep.of_wr W88).1
  have Gw88 : Gd Z h88 dA (own_dp g 17) := (Gd.set c87_4 1 1 (by decide) (by decide) W88 V88).congr (own_dp_step rfl (by decide) (by decide))
  refine Go.via st88 ?_
  refine Vi (T88.setTop (mkF m 70 #[sR o0, sI 1, sI 1, sR (vA + 2 + 5 * 1 + 1), sR (dA + 2 + 5 * 1 + 1), sI 2] [(.double (FP.dadd (FP.dmul (4606732058837280358 : UInt64) (((own_vl f g 17) 1 1) (2 : Int32).toNatClampNeg)) (((own_dp g 17) 1 1) (2 : Int32).toNatClampNeg))), (.int 2), (.ref (vA + 2 + 5 * 1 + 1))])) (fun tZ kZ => ?_) ?_
  · refine XS.iinc X88.here hx rfl (hb hby d10_77) rfl (l' := #[sR o0, sI 1, sI 1, sR (vA + 2 + 5 * 1 + 1), sR (dA + 2 + 5 * 1 + 1), sI 2]) rfl ?_
    refine XS.goto X88.here hx rfl (pc0 := 80) (pc' := 46) rfl (hb hby d10_80) (by decide) (by decide) ?_
    refine XS.iload X88.here hx rfl (hb hby d10_46) rfl ?_
    refine XS.aloadN X88.here hx rfl (hb hby d10_48) rfl rfl ?_
    refine AV.len (c89_3.cell 1 1 (by decide) (by decide)) X88 hx hZ e88 (hb hby d10_49) ?_
    refine XS.icmpNo X88.here hx rfl (hb hby d10_50) rfl (tlt (by decide)).2.1 ?_
    refine XS.aloadN X88.here hx rfl (hb hby d10_53) rfl rfl ?_
    refine XS.iload X88.here hx rfl (hb hby d10_54) rfl ?_
    refine X88.ldc2DoubleC hx hown (wz hZ hw 76 rfl) (g := (mkF m 56 #[sR o0, sI 1, sI 1, sR (vA + 2 + 5 * 1 + 1), sR (dA + 2 + 5 * 1 + 1), sI 2] [(.int 2), (.ref (vA + 2 + 5 * 1 + 1))])) rfl (hb hby d10_56) _ ?_
    refine XS.aloadN X88.here hx rfl (hb hby d10_59) rfl rfl ?_
    refine XS.iload X88.here hx rfl (hb hby d10_60) rfl ?_
    refine AV.daload (c89_3.cell 1 1 (by decide) (by decide)) X88 hx hZ e88 (j := (2 : Int32)) (by decide) (hb hby d10_62) ?_
    refine XS.dmulS X88.here hx rfl (hb hby d10_63) rfl (hnn 1 1 2 (by decide) (by decide) (by decide)).1 rfl ?_
    refine XS.aload X88.here hx rfl (hb hby d10_64) rfl rfl ?_
    refine XS.iload X88.here hx rfl (hb hby d10_66) rfl ?_
    refine AV.daload (Gw88.cell 1 1 (by decide) (by decide)) X88 hx hZ e88 (j := (2 : Int32)) (by decide) (hb hby d10_68) ?_
    refine XS.daddS X88.here hx rfl (hb hby d10_69) rfl (hnn 1 1 2 (by decide) (by decide) (by decide)).2 rfl ?_
    exact kZ
  obtain ⟨T90, h90, X90, e90, W90, V90, st90⟩ := AV.dastore (c89_3.cell 1 1 (by decide) (by decide)) X88 hx hZ e88 (j := (2 : Int32)) (by decide) (Ls := #[sR o0, sI 1, sI 1, sR (vA + 2 + 5 * 1 + 1), sR (dA + 2 + 5 * 1 + 1), sI 2]) (rest := []) (hb hby d10_70) (x := (FP.dadd (FP.dmul (4606732058837280358 : UInt64) (((own_vl f g 17) 1 1) (2 : Int32).toNatClampNeg)) (((own_dp g 17) 1 1) (2 : Int32).toNatClampNeg)))
  have N90 := Fr.snoc X90 N88 (Nat.le_trans ha5 (show vA ≤ (vA + 2 + 5 * 1 + 1) by omega))
  have c91_0 := c89_0.wr W90
  have c91_1 := c89_1.other W90 (Or.inl (own_na (by omega)))
  have c91_2 := c89_2.other W90 (Or.inl (own_na (by omega)))
  have c91_3 := c89_3
  have c91_4 := Gw88.other W90 (by omega)
  have K90 : Keep h0 h90 [(vA + 2 + 5 * 0 + 0), (dA + 2 + 5 * 0 + 0), (vA + 2 + 5 * 0 + 1), (dA + 2 + 5 * 0 + 1), (vA + 2 + 5 * 0 + 2), (dA + 2 + 5 * 0 + 2), (vA + 2 + 5 * 0 + 3), (dA + 2 + 5 * 0 + 3), (vA + 2 + 5 * 1 + 0), (dA + 2 + 5 * 1 + 0), (vA + 2 + 5 * 1 + 1), (dA + 2 + 5 * 1 + 1), (vA + 2 + 5 * 1 + 2), (dA + 2 + 5 * 1 + 2), (vA + 2 + 5 * 1 + 3), (dA + 2 + 5 * 1 + 3)] := K88.wr W90 (Or.inl (by simp))
  have Z90 := Nat.le_trans Z88 (Keep.of_wr W90).1
  have Gw90 : Gd Z h90 vA (own_vl f g 18) := (Gd.set c89_3 1 1 (by decide) (by decide) W90 V90).congr (own_vl_step rfl (by decide) (by decide) rfl)
  refine Go.via st90 ?_
  refine Vi (T90.setTop (mkF m 76 #[sR o0, sI 1, sI 1, sR (vA + 2 + 5 * 1 + 1), sR (dA + 2 + 5 * 1 + 1), sI 2] [(.double FP.dconst0), (.int 2), (.ref (dA + 2 + 5 * 1 + 1))])) (fun tZ kZ => ?_) ?_
  · refine XS.aload X90.here hx rfl (hb hby d10_71) rfl rfl ?_
    refine XS.iload X90.here hx rfl (hb hby d10_73) rfl ?_
    refine XS.dconst0 X90.here hx rfl (hb hby d10_75) rfl ?_
    exact kZ
  obtain ⟨T92, h92, X92, e92, W92, V92, st92⟩ := AV.dastore (c91_4.cell 1 1 (by decide) (by decide)) X90 hx hZ e90 (j := (2 : Int32)) (by decide) (Ls := #[sR o0, sI 1, sI 1, sR (vA + 2 + 5 * 1 + 1), sR (dA + 2 + 5 * 1 + 1), sI 2]) (rest := []) (hb hby d10_76) (x := FP.dconst0)
  have N92 := Fr.snoc X92 N90 (Nat.le_trans ha6 (show dA ≤ (dA + 2 + 5 * 1 + 1) by omega))
  have c93_0 := c91_0.wr W92
  have c93_1 := c91_1.other W92 (Or.inl (own_na (by omega)))
  have c93_2 := c91_2.other W92 (Or.inl (own_na (by omega)))
  have c93_3 := Gw90.other W92 (by omega)
  have c93_4 := c91_4
  have K92 : Keep h0 h92 [(vA + 2 + 5 * 0 + 0), (dA + 2 + 5 * 0 + 0), (vA + 2 + 5 * 0 + 1), (dA + 2 + 5 * 0 + 1), (vA + 2 + 5 * 0 + 2), (dA + 2 + 5 * 0 + 2), (vA + 2 + 5 * 0 + 3), (dA + 2 + 5 * 0 + 3), (vA + 2 + 5 * 1 + 0), (dA + 2 + 5 * 1 + 0), (vA + 2 + 5 * 1 + 1), (dA + 2 + 5 * 1 + 1), (vA + 2 + 5 * 1 + 2), (dA + 2 + 5 * 1 + 2), (vA + 2 + 5 * 1 + 3), (dA + 2 + 5 * 1 + 3)] := K90.wr W92 (Or.inl (by simp))
  have Z92 := Nat.le_trans Z90 (Keep.of_wr W92).1
  have Gw92 : Gd Z h92 dA (own_dp g 18) := (Gd.set c91_4 1 1 (by decide) (by decide) W92 V92).congr (own_dp_step rfl (by decide) (by decide))
  refine Go.via st92 ?_
  refine Vi (T92.setTop (mkF m 15 #[sR o0, sI 1, sI 2, sR (vA + 2 + 5 * 1 + 1), sR (dA + 2 + 5 * 1 + 1), sI 3] [(.ref o0), (.int 2)])) (fun tZ kZ => ?_) ?_
  · refine XS.iinc X92.here hx rfl (hb hby d10_77) rfl (l' := #[sR o0, sI 1, sI 1, sR (vA + 2 + 5 * 1 + 1), sR (dA + 2 + 5 * 1 + 1), sI 3]) rfl ?_
    refine XS.goto X92.here hx rfl (pc0 := 80) (pc' := 46) rfl (hb hby d10_80) (by decide) (by decide) ?_
    refine XS.iload X92.here hx rfl (hb hby d10_46) rfl ?_
    refine XS.aloadN X92.here hx rfl (hb hby d10_48) rfl rfl ?_
    refine AV.len (c93_3.cell 1 1 (by decide) (by decide)) X92 hx hZ e92 (hb hby d10_49) ?_
    refine XS.icmpYes X92.here hx rfl (pc0 := 50) (pc' := 83) rfl (hb hby d10_50) rfl (flt (by decide)).2.1 (by decide) (by decide) ?_
    refine XS.iinc X92.here hx rfl (hb hby d10_83) rfl (l' := #[sR o0, sI 1, sI 2, sR (vA + 2 + 5 * 1 + 1), sR (dA + 2 + 5 * 1 + 1), sI 3]) rfl ?_
    refine XS.goto X92.here hx rfl (pc0 := 86) (pc' := 13) rfl (hb hby d10_86) (by decide) (by decide) ?_
    refine XS.iloadN X92.here hx rfl (hb hby d10_13) rfl ?_
    refine XS.aloadN X92.here hx rfl (hb hby d10_14) rfl rfl ?_
    exact kZ
  refine GF X92 hx hZ hown (wq hw 38 rfl) e92 c93_1 (hb hby d10_15) fun T94 X94 e94 => ?_
  refine Vi (T94.setTop (mkF m 25 #[sR o0, sI 1, sI 2, sR (vA + 2 + 5 * 1 + 1), sR (dA + 2 + 5 * 1 + 1), sI 3] [(.ref o0)])) (fun tZ kZ => ?_) ?_
  · refine XS.iloadN X94.here hx rfl (hb hby d10_18) rfl ?_
    refine AV.aaload c93_3.top rfl X94 hx hZ e94 (j := (1 : Int32)) (by decide) (hb hby d10_19) ?_
    refine AV.len (c93_3.row 1 (by decide)) X94 hx hZ e94 (hb hby d10_20) ?_
    refine XS.icmpNo X94.here hx rfl (hb hby d10_21) rfl (tlt (by decide)).2.1 ?_
    refine XS.aloadN X94.here hx rfl (hb hby d10_24) rfl rfl ?_
    exact kZ
  refine GF X94 hx hZ hown (wq hw 38 rfl) e94 c93_1 (hb hby d10_25) fun T95 X95 e95 => ?_
  refine Vi (T95.setTop (mkF m 34 #[sR o0, sI 1, sI 2, sR (vA + 2 + 5 * 1 + 2), sR (dA + 2 + 5 * 1 + 1), sI 3] [(.ref o0)])) (fun tZ kZ => ?_) ?_
  · refine XS.iloadN X95.here hx rfl (hb hby d10_28) rfl ?_
    refine AV.aaload c93_3.top rfl X95 hx hZ e95 (j := (1 : Int32)) (by decide) (hb hby d10_29) ?_
    refine XS.iloadN X95.here hx rfl (hb hby d10_30) rfl ?_
    refine AV.aaload (c93_3.row 1 (by decide)) rfl X95 hx hZ e95 (j := (2 : Int32)) (by decide) (hb hby d10_31) ?_
    refine XS.astoreN X95.here hx rfl (hb hby d10_32) rfl rfl (l' := #[sR o0, sI 1, sI 2, sR (vA + 2 + 5 * 1 + 2), sR (dA + 2 + 5 * 1 + 1), sI 3]) rfl ?_
    refine XS.aloadN X95.here hx rfl (hb hby d10_33) rfl rfl ?_
    exact kZ
  refine GF X95 hx hZ hown (wq hw 40 rfl) e95 c93_2 (hb hby d10_34) fun T96 X96 e96 => ?_
  refine Vi (T96.setTop (mkF m 70 #[sR o0, sI 1, sI 2, sR (vA + 2 + 5 * 1 + 2), sR (dA + 2 + 5 * 1 + 2), sI 0] [(.double (FP.dadd (FP.dmul (4606732058837280358 : UInt64) (((own_vl f g 18) 1 2) (0 : Int32).toNatClampNeg)) (((own_dp g 18) 1 2) (0 : Int32).toNatClampNeg))), (.int 0), (.ref (vA + 2 + 5 * 1 + 2))])) (fun tZ kZ => ?_) ?_
  · refine XS.iloadN X96.here hx rfl (hb hby d10_37) rfl ?_
    refine AV.aaload Gw92.top rfl X96 hx hZ e96 (j := (1 : Int32)) (by decide) (hb hby d10_38) ?_
    refine XS.iloadN X96.here hx rfl (hb hby d10_39) rfl ?_
    refine AV.aaload (Gw92.row 1 (by decide)) rfl X96 hx hZ e96 (j := (2 : Int32)) (by decide) (hb hby d10_40) ?_
    refine XS.astore X96.here hx rfl (hb hby d10_41) rfl rfl (l' := #[sR o0, sI 1, sI 2, sR (vA + 2 + 5 * 1 + 2), sR (dA + 2 + 5 * 1 + 2), sI 3]) rfl ?_
    refine XS.iconst X96.here hx rfl (hb hby d10_43) ?_
    refine XS.istore X96.here hx rfl (hb hby d10_44) rfl (l' := #[sR o0, sI 1, sI 2, sR (vA + 2 + 5 * 1 + 2), sR (dA + 2 + 5 * 1 + 2), sI 0]) rfl ?_
    refine XS.iload X96.here hx rfl (hb hby d10_46) rfl ?_
    refine XS.aloadN X96.here hx rfl (hb hby d10_48) rfl rfl ?_
    refine AV.len (c93_3.cell 1 2 (by decide) (by decide)) X96 hx hZ e96 (hb hby d10_49) ?_
    refine XS.icmpNo X96.here hx rfl (hb hby d10_50) rfl (tlt (by decide)).2.1 ?_
    refine XS.aloadN X96.here hx rfl (hb hby d10_53) rfl rfl ?_
    refine XS.iload X96.here hx rfl (hb hby d10_54) rfl ?_
    refine X96.ldc2DoubleC hx hown (wz hZ hw 76 rfl) (g := (mkF m 56 #[sR o0, sI 1, sI 2, sR (vA + 2 + 5 * 1 + 2), sR (dA + 2 + 5 * 1 + 2), sI 0] [(.int 0), (.ref (vA + 2 + 5 * 1 + 2))])) rfl (hb hby d10_56) _ ?_
    refine XS.aloadN X96.here hx rfl (hb hby d10_59) rfl rfl ?_
    refine XS.iload X96.here hx rfl (hb hby d10_60) rfl ?_
    refine AV.daload (c93_3.cell 1 2 (by decide) (by decide)) X96 hx hZ e96 (j := (0 : Int32)) (by decide) (hb hby d10_62) ?_
    refine XS.dmulS X96.here hx rfl (hb hby d10_63) rfl (hnn 1 2 0 (by decide) (by decide) (by decide)).1 rfl ?_
    refine XS.aload X96.here hx rfl (hb hby d10_64) rfl rfl ?_
    refine XS.iload X96.here hx rfl (hb hby d10_66) rfl ?_
    refine AV.daload (Gw92.cell 1 2 (by decide) (by decide)) X96 hx hZ e96 (j := (0 : Int32)) (by decide) (hb hby d10_68) ?_
    refine XS.daddS X96.here hx rfl (hb hby d10_69) rfl (hnn 1 2 0 (by decide) (by decide) (by decide)).2 rfl ?_
    exact kZ
  obtain ⟨T97, h97, X97, e97, W97, V97, st97⟩ := AV.dastore (c93_3.cell 1 2 (by decide) (by decide)) X96 hx hZ e96 (j := (0 : Int32)) (by decide) (Ls := #[sR o0, sI 1, sI 2, sR (vA + 2 + 5 * 1 + 2), sR (dA + 2 + 5 * 1 + 2), sI 0]) (rest := []) (hb hby d10_70) (x := (FP.dadd (FP.dmul (4606732058837280358 : UInt64) (((own_vl f g 18) 1 2) (0 : Int32).toNatClampNeg)) (((own_dp g 18) 1 2) (0 : Int32).toNatClampNeg)))
  have N97 := Fr.snoc X97 N92 (Nat.le_trans ha5 (show vA ≤ (vA + 2 + 5 * 1 + 2) by omega))
  have c98_0 := c93_0.wr W97
  have c98_1 := c93_1.other W97 (Or.inl (own_na (by omega)))
  have c98_2 := c93_2.other W97 (Or.inl (own_na (by omega)))
  have c98_3 := c93_3
  have c98_4 := Gw92.other W97 (by omega)
  have K97 : Keep h0 h97 [(vA + 2 + 5 * 0 + 0), (dA + 2 + 5 * 0 + 0), (vA + 2 + 5 * 0 + 1), (dA + 2 + 5 * 0 + 1), (vA + 2 + 5 * 0 + 2), (dA + 2 + 5 * 0 + 2), (vA + 2 + 5 * 0 + 3), (dA + 2 + 5 * 0 + 3), (vA + 2 + 5 * 1 + 0), (dA + 2 + 5 * 1 + 0), (vA + 2 + 5 * 1 + 1), (dA + 2 + 5 * 1 + 1), (vA + 2 + 5 * 1 + 2), (dA + 2 + 5 * 1 + 2), (vA + 2 + 5 * 1 + 3), (dA + 2 + 5 * 1 + 3)] := K92.wr W97 (Or.inl (by simp))
  have Z97 := Nat.le_trans Z92 (Keep.of_wr W97).1
  have Gw97 : Gd Z h97 vA (own_vl f g 19) := (Gd.set c93_3 1 2 (by decide) (by decide) W97 V97).congr (own_vl_step rfl (by decide) (by decide) rfl)
  refine Go.via st97 ?_
  refine Vi (T97.setTop (mkF m 76 #[sR o0, sI 1, sI 2, sR (vA + 2 + 5 * 1 + 2), sR (dA + 2 + 5 * 1 + 2), sI 0] [(.double FP.dconst0), (.int 0), (.ref (dA + 2 + 5 * 1 + 2))])) (fun tZ kZ => ?_) ?_
  · refine XS.aload X97.here hx rfl (hb hby d10_71) rfl rfl ?_
    refine XS.iload X97.here hx rfl (hb hby d10_73) rfl ?_
    refine XS.dconst0 X97.here hx rfl (hb hby d10_75) rfl ?_
    exact kZ
  obtain ⟨T99, h99, X99, e99, W99, V99, st99⟩ := AV.dastore (c98_4.cell 1 2 (by decide) (by decide)) X97 hx hZ e97 (j := (0 : Int32)) (by decide) (Ls := #[sR o0, sI 1, sI 2, sR (vA + 2 + 5 * 1 + 2), sR (dA + 2 + 5 * 1 + 2), sI 0]) (rest := []) (hb hby d10_76) (x := FP.dconst0)
  have N99 := Fr.snoc X99 N97 (Nat.le_trans ha6 (show dA ≤ (dA + 2 + 5 * 1 + 2) by omega))
  have c100_0 := c98_0.wr W99
  have c100_1 := c98_1.other W99 (Or.inl (own_na (by omega)))
  have c100_2 := c98_2.other W99 (Or.inl (own_na (by omega)))
  have c100_3 := Gw97.other W99 (by omega)
  have c100_4 := c98_4
  have K99 : Keep h0 h99 [(vA + 2 + 5 * 0 + 0), (dA + 2 + 5 * 0 + 0), (vA + 2 + 5 * 0 + 1), (dA + 2 + 5 * 0 + 1), (vA + 2 + 5 * 0 + 2), (dA + 2 + 5 * 0 + 2), (vA + 2 + 5 * 0 + 3), (dA + 2 + 5 * 0 + 3), (vA + 2 + 5 * 1 + 0), (dA + 2 + 5 * 1 + 0), (vA + 2 + 5 * 1 + 1), (dA + 2 + 5 * 1 + 1), (vA + 2 + 5 * 1 + 2), (dA + 2 + 5 * 1 + 2), (vA + 2 + 5 * 1 + 3), (dA + 2 + 5 * 1 + 3)] := K97.wr W99 (Or.inl (by simp))
  have Z99 := Nat.le_trans Z97 (Keep.of_wr W99).1
  have Gw99 : Gd Z h99 dA (own_dp g 19) := (Gd.set c98_4 1 2 (by decide) (by decide) W99 V99).congr (own_dp_step rfl (by decide) (by decide))
  refine Go.via st99 ?_
  refine Vi (T99.setTop (mkF m 70 #[sR o0, sI 1, sI 2, sR (vA + 2 + 5 * 1 + 2), sR (dA + 2 + 5 * 1 + 2), sI 1] [(.double (FP.dadd (FP.dmul (4606732058837280358 : UInt64) (((own_vl f g 19) 1 2) (1 : Int32).toNatClampNeg)) (((own_dp g 19) 1 2) (1 : Int32).toNatClampNeg))), (.int 1), (.ref (vA + 2 + 5 * 1 + 2))])) (fun tZ kZ => ?_) ?_
  · refine XS.iinc X99.here hx rfl (hb hby d10_77) rfl (l' := #[sR o0, sI 1, sI 2, sR (vA + 2 + 5 * 1 + 2), sR (dA + 2 + 5 * 1 + 2), sI 1]) rfl ?_
    refine XS.goto X99.here hx rfl (pc0 := 80) (pc' := 46) rfl (hb hby d10_80) (by decide) (by decide) ?_
    refine XS.iload X99.here hx rfl (hb hby d10_46) rfl ?_
    refine XS.aloadN X99.here hx rfl (hb hby d10_48) rfl rfl ?_
    refine AV.len (c100_3.cell 1 2 (by decide) (by decide)) X99 hx hZ e99 (hb hby d10_49) ?_
    refine XS.icmpNo X99.here hx rfl (hb hby d10_50) rfl (tlt (by decide)).2.1 ?_
    refine XS.aloadN X99.here hx rfl (hb hby d10_53) rfl rfl ?_
    refine XS.iload X99.here hx rfl (hb hby d10_54) rfl ?_
    refine X99.ldc2DoubleC hx hown (wz hZ hw 76 rfl) (g := (mkF m 56 #[sR o0, sI 1, sI 2, sR (vA + 2 + 5 * 1 + 2), sR (dA + 2 + 5 * 1 + 2), sI 1] [(.int 1), (.ref (vA + 2 + 5 * 1 + 2))])) rfl (hb hby d10_56) _ ?_
    refine XS.aloadN X99.here hx rfl (hb hby d10_59) rfl rfl ?_
    refine XS.iload X99.here hx rfl (hb hby d10_60) rfl ?_
    refine AV.daload (c100_3.cell 1 2 (by decide) (by decide)) X99 hx hZ e99 (j := (1 : Int32)) (by decide) (hb hby d10_62) ?_
    refine XS.dmulS X99.here hx rfl (hb hby d10_63) rfl (hnn 1 2 1 (by decide) (by decide) (by decide)).1 rfl ?_
    refine XS.aload X99.here hx rfl (hb hby d10_64) rfl rfl ?_
    refine XS.iload X99.here hx rfl (hb hby d10_66) rfl ?_
    refine AV.daload (Gw99.cell 1 2 (by decide) (by decide)) X99 hx hZ e99 (j := (1 : Int32)) (by decide) (hb hby d10_68) ?_
    refine XS.daddS X99.here hx rfl (hb hby d10_69) rfl (hnn 1 2 1 (by decide) (by decide) (by decide)).2 rfl ?_
    exact kZ
  obtain ⟨T101, h101, X101, e101, W101, V101, st101⟩ := AV.dastore (c100_3.cell 1 2 (by decide) (by decide)) X99 hx hZ e99 (j := (1 : Int32)) (by decide) (Ls := #[sR o0, sI 1, sI 2, sR (vA + 2 + 5 * 1 + 2), sR (dA + 2 + 5 * 1 + 2), sI 1]) (rest := []) (hb hby d10_70) (x := (FP.dadd (FP.dmul (4606732058837280358 : UInt64) (((own_vl f g 19) 1 2) (1 : Int32).toNatClampNeg)) (((own_dp g 19) 1 2) (1 : Int32).toNatClampNeg)))
  have N101 := Fr.snoc X101 N99 (Nat.le_trans ha5 (show vA ≤ (vA + 2 + 5 * 1 + 2) by omega))
  have c102_0 := c100_0.wr W101
  have c102_1 := c100_1.other W101 (Or.inl (own_na (by omega)))
  have c102_2 := c100_2.other W101 (Or.inl (own_na (by omega)))
  have c102_3 := c100_3
  have c102_4 := Gw99.other W101 (by omega)
  have K101 : Keep h0 h101 [(vA + 2 + 5 * 0 + 0), (dA + 2 + 5 * 0 + 0), (vA + 2 + 5 * 0 + 1), (dA + 2 + 5 * 0 + 1), (vA + 2 + 5 * 0 + 2), (dA + 2 + 5 * 0 + 2), (vA + 2 + 5 * 0 + 3), (dA + 2 + 5 * 0 + 3), (vA + 2 + 5 * 1 + 0), (dA + 2 + 5 * 1 + 0), (vA + 2 + 5 * 1 + 1), (dA + 2 + 5 * 1 + 1), (vA + 2 + 5 * 1 + 2), (dA + 2 + 5 * 1 + 2), (vA + 2 + 5 * 1 + 3), (dA + 2 + 5 * 1 + 3)] := K99.wr W101 (Or.inl (by simp))
  have Z101 := Nat.le_trans Z99 (Keep.of_wr W101).1
  have Gw101 : Gd Z h101 vA (own_vl f g 20) := (Gd.set c100_3 1 2 (by decide) (by decide) W101 V101).congr (own_vl_step rfl (by decide) (by decide) rfl)
  refine Go.via st101 ?_
  refine Vi (T101.setTop (mkF m 76 #[sR o0, sI 1, sI 2, sR (vA + 2 + 5 * 1 + 2), sR (dA + 2 + 5 * 1 + 2), sI 1] [(.double FP.dconst0), (.int 1), (.ref (dA + 2 + 5 * 1 + 2))])) (fun tZ kZ => ?_) ?_
  · refine XS.aload X101.here hx rfl (hb hby d10_71) rfl rfl ?_
    refine XS.iload X101.here hx rfl (hb hby d10_73) rfl ?_
    refine XS.dconst0 X101.here hx rfl (hb hby d10_75) rfl ?_
    exact kZ
  obtain ⟨T103, h103, X103, e103, W103, V103, st103⟩ := AV.dastore (c102_4.cell 1 2 (by decide) (by decide)) X101 hx hZ e101 (j := (1 : Int32)) (by decide) (Ls := #[sR o0, sI 1, sI 2, sR (vA + 2 + 5 * 1 + 2), sR (dA + 2 + 5 * 1 + 2), sI 1]) (rest := []) (hb hby d10_76) (x := FP.dconst0)
  have N103 := Fr.snoc X103 N101 (Nat.le_trans ha6 (show dA ≤ (dA + 2 + 5 * 1 + 2) by omega))
  have c104_0 := c102_0.wr W103
  have c104_1 := c102_1.other W103 (Or.inl (own_na (by omega)))
  have c104_2 := c102_2.other W103 (Or.inl (own_na (by omega)))
  have c104_3 := Gw101.other W103 (by omega)
  have c104_4 := c102_4
  have K103 : Keep h0 h103 [(vA + 2 + 5 * 0 + 0), (dA + 2 + 5 * 0 + 0), (vA + 2 + 5 * 0 + 1), (dA + 2 + 5 * 0 + 1), (vA + 2 + 5 * 0 + 2), (dA + 2 + 5 * 0 + 2), (vA + 2 + 5 * 0 + 3), (dA + 2 + 5 * 0 + 3), (vA + 2 + 5 * 1 + 0), (dA + 2 + 5 * 1 + 0), (vA + 2 + 5 * 1 + 1), (dA + 2 + 5 * 1 + 1), (vA + 2 + 5 * 1 + 2), (dA + 2 + 5 * 1 + 2), (vA + 2 + 5 * 1 + 3), (dA + 2 + 5 * 1 + 3)] := K101.wr W103 (Or.inl (by simp))
  have Z103 := Nat.le_trans Z101 (Keep.of_wr W103).1
  have Gw103 : Gd Z h103 dA (own_dp g 20) := (Gd.set c102_4 1 2 (by decide) (by decide) W103 V103).congr (own_dp_step rfl (by decide) (by decide))
  refine Go.via st103 ?_
  refine Vi (T103.setTop (mkF m 70 #[sR o0, sI 1, sI 2, sR (vA + 2 + 5 * 1 + 2), sR (dA + 2 + 5 * 1 + 2), sI 2] [(.double (FP.dadd (FP.dmul (4606732058837280358 : UInt64) (((own_vl f g 20) 1 2) (2 : Int32).toNatClampNeg)) (((own_dp g 20) 1 2) (2 : Int32).toNatClampNeg))), (.int 2), (.ref (vA + 2 + 5 * 1 + 2))])) (fun tZ kZ => ?_) ?_
  · refine XS.iinc X103.here hx rfl (hb hby d10_77) rfl (l' := #[sR o0, sI 1, sI 2, sR (vA + 2 + 5 * 1 + 2), sR (dA + 2 + 5 * 1 + 2), sI 2]) rfl ?_
    refine XS.goto X103.here hx rfl (pc0 := 80) (pc' := 46) rfl (hb hby d10_80) (by decide) (by decide) ?_
    refine XS.iload X103.here hx rfl (hb hby d10_46) rfl ?_
    refine XS.aloadN X103.here hx rfl (hb hby d10_48) rfl rfl ?_
    refine AV.len (c104_3.cell 1 2 (by decide) (by decide)) X103 hx hZ e103 (hb hby d10_49) ?_
    refine XS.icmpNo X103.here hx rfl (hb hby d10_50) rfl (tlt (by decide)).2.1 ?_
    refine XS.aloadN X103.here hx rfl (hb hby d10_53) rfl rfl ?_
    refine XS.iload X103.here hx rfl (hb hby d10_54) rfl ?_
    refine X103.ldc2DoubleC hx hown (wz hZ hw 76 rfl) (g := (mkF m 56 #[sR o0, sI 1, sI 2, sR (vA + 2 + 5 * 1 + 2), sR (dA + 2 + 5 * 1 + 2), sI 2] [(.int 2), (.ref (vA + 2 + 5 * 1 + 2))])) rfl (hb hby d10_56) _ ?_
    refine XS.aloadN X103.here hx rfl (hb hby d10_59) rfl rfl ?_
    refine XS.iload X103.here hx rfl (hb hby d10_60) rfl ?_
    refine AV.daload (c104_3.cell 1 2 (by decide) (by decide)) X103 hx hZ e103 (j := (2 : Int32)) (by decide) (hb hby d10_62) ?_
    refine XS.dmulS X103.here hx rfl (hb hby d10_63) rfl (hnn 1 2 2 (by decide) (by decide) (by decide)).1 rfl ?_
    refine XS.aload X103.here hx rfl (hb hby d10_64) rfl rfl ?_
    refine XS.iload X103.here hx rfl (hb hby d10_66) rfl ?_
    refine AV.daload (Gw103.cell 1 2 (by decide) (by decide)) X103 hx hZ e103 (j := (2 : Int32)) (by decide) (hb hby d10_68) ?_
    refine XS.daddS X103.here hx rfl (hb hby d10_69) rfl (hnn 1 2 2 (by decide) (by decide) (by decide)).2 rfl ?_
    exact kZ
  obtain ⟨T105, h105, X105, e105, W105, V105, st105⟩ := AV.dastore (c104_3.cell 1 2 (by decide) (by decide)) X103 hx hZ e103 (j := (2 : Int32)) (by decide) (Ls := #[sR o0, sI 1, sI 2, sR (vA + 2 + 5 * 1 + 2), sR (dA + 2 + 5 * 1 + 2), sI 2]) (rest := []) (hb hby d10_70) (x := (FP.dadd (FP.dmul (4606732058837280358 : UInt64) (((own_vl f g 20) 1 2) (2 : Int32).toNatClampNeg)) (((own_dp g 20) 1 2) (2 : Int32).toNatClampNeg)))
  have N105 := Fr.snoc X105 N103 (Nat.le_trans ha5 (show vA ≤ (vA + 2 + 5 * 1 + 2) by omega))
  have c106_0 := c104_0.wr W105
  have c106_1 := c104_1.other W105 (Or.inl (own_na (by omega)))
  have c106_2 := c104_2.other W105 (Or.inl (own_na (by omega)))
  have c106_3 := c104_3
  have c106_4 := Gw103.other W105 (by omega)
  have K105 : Keep h0 h105 [(vA + 2 + 5 * 0 + 0), (dA + 2 + 5 * 0 + 0), (vA + 2 + 5 * 0 + 1), (dA + 2 + 5 * 0 + 1), (vA + 2 + 5 * 0 + 2), (dA + 2 + 5 * 0 + 2), (vA + 2 + 5 * 0 + 3), (dA + 2 + 5 * 0 + 3), (vA + 2 + 5 * 1 + 0), (dA + 2 + 5 * 1 + 0), (vA + 2 + 5 * 1 + 1), (dA + 2 + 5 * 1 + 1), (vA + 2 + 5 * 1 + 2), (dA + 2 + 5 * 1 + 2), (vA + 2 + 5 * 1 + 3), (dA + 2 + 5 * 1 + 3)] := K103.wr W105 (Or.inl (by simp))
  have Z105 := Nat.le_trans Z103 (Keep.of_wr W105).1
  have Gw105 : Gd Z h105 vA (own_vl f g 21) := (Gd.set c104_3 1 2 (by decide) (by decide) W105 V105).congr (own_vl_step rfl (by decide) (by decide) rfl)
  refine Go.via st105 ?_
  refine Vi (T105.setTop (mkF m 76 #[sR o0, sI 1, sI 2, sR (vA + 2 + 5 * 1 + 2), sR (dA + 2 + 5 * 1 + 2), sI 2] [(.double FP.dconst0), (.int 2), (.ref (dA + 2 + 5 * 1 + 2))])) (fun tZ kZ => ?_) ?_
  · refine XS.aload X105.here hx rfl (hb hby d10_71) rfl rfl ?_
    refine XS.iload X105.here hx rfl (hb hby d10_73) rfl ?_
    refine XS.dconst0 X105.here hx rfl (hb hby d10_75) rfl ?_
    exact kZ
  obtain ⟨T107, h107, X107, e107, W107, V107, st107⟩ := AV.dastore (c106_4.cell 1 2 (by decide) (by decide)) X105 hx hZ e105 (j := (2 : Int32)) (by decide) (Ls := #[sR o0, sI 1, sI 2, sR (vA + 2 + 5 * 1 + 2), sR (dA + 2 + 5 * 1 + 2), sI 2]) (rest := []) (hb hby d10_76) (x := FP.dconst0)
  have N107 := Fr.snoc X107 N105 (Nat.le_trans ha6 (show dA ≤ (dA + 2 + 5 * 1 + 2) by omega))
  have c108_0 := c106_0.wr W107
  have c108_1 := c106_1.other W107 (Or.inl (own_na (by omega)))
  have c108_2 := c106_2.other W107 (Or.inl (own_na (by omega)))
  have c108_3 := Gw105.other W107 (by omega)
  have c108_4 := c106_4
  have K107 : Keep h0 h107 [(vA + 2 + 5 * 0 + 0), (dA + 2 + 5 * 0 + 0), (vA + 2 + 5 * 0 + 1), (dA + 2 + 5 * 0 + 1), (vA + 2 + 5 * 0 + 2), (dA + 2 + 5 * 0 + 2), (vA + 2 + 5 * 0 + 3), (dA + 2 + 5 * 0 + 3), (vA + 2 + 5 * 1 + 0), (dA + 2 + 5 * 1 + 0), (vA + 2 + 5 * 1 + 1), (dA + 2 + 5 * 1 + 1), (vA + 2 + 5 * 1 + 2), (dA + 2 + 5 * 1 + 2), (vA + 2 + 5 * 1 + 3), (dA + 2 + 5 * 1 + 3)] := K105.wr W107 (Or.inl (by simp))
  have Z107 := Nat.le_trans Z105 (Keep.of_wr W107).1
  have Gw107 : Gd Z h107 dA (own_dp g 21) := (Gd.set c106_4 1 2 (by decide) (by decide) W107 V107).congr (own_dp_step rfl (by decide) (by decide))
  refine Go.via st107 ?_
  refine Vi (T107.setTop (mkF m 15 #[sR o0, sI 1, sI 3, sR (vA + 2 + 5 * 1 + 2), sR (dA + 2 + 5 * 1 + 2), sI 3] [(.ref o0), (.int 3)])) (fun tZ kZ => ?_) ?_
  · refine XS.iinc X107.here hx rfl (hb hby d10_77) rfl (l' := #[sR o0, sI 1, sI 2, sR (vA + 2 + 5 * 1 + 2), sR (dA + 2 + 5 * 1 + 2), sI 3]) rfl ?_
    refine XS.goto X107.here hx rfl (pc0 := 80) (pc' := 46) rfl (hb hby d10_80) (by decide) (by decide) ?_
    refine XS.iload X107.here hx rfl (hb hby d10_46) rfl ?_
    refine XS.aloadN X107.here hx rfl (hb hby d10_48) rfl rfl ?_
    refine AV.len (c108_3.cell 1 2 (by decide) (by decide)) X107 hx hZ e107 (hb hby d10_49) ?_
    refine XS.icmpYes X107.here hx rfl (pc0 := 50) (pc' := 83) rfl (hb hby d10_50) rfl (flt (by decide)).2.1 (by decide) (by decide) ?_
    refine XS.iinc X107.here hx rfl (hb hby d10_83) rfl (l' := #[sR o0, sI 1, sI 3, sR (vA + 2 + 5 * 1 + 2), sR (dA + 2 + 5 * 1 + 2), sI 3]) rfl ?_
    refine XS.goto X107.here hx rfl (pc0 := 86) (pc' := 13) rfl (hb hby d10_86) (by decide) (by decide) ?_
    refine XS.iloadN X107.here hx rfl (hb hby d10_13) rfl ?_
    refine XS.aloadN X107.here hx rfl (hb hby d10_14) rfl rfl ?_
    exact kZ
  refine GF X107 hx hZ hown (wq hw 38 rfl) e107 c108_1 (hb hby d10_15) fun T109 X109 e109 => ?_
  refine Vi (T109.setTop (mkF m 25 #[sR o0, sI 1, sI 3, sR (vA + 2 + 5 * 1 + 2), sR (dA + 2 + 5 * 1 + 2), sI 3] [(.ref o0)])) (fun tZ kZ => ?_) ?_
  · refine XS.iloadN X109.here hx rfl (hb hby d10_18) rfl ?_
    refine AV.aaload c108_3.top rfl X109 hx hZ e109 (j := (1 : Int32)) (by decide) (hb hby d10_19) ?_
    refine AV.len (c108_3.row 1 (by decide)) X109 hx hZ e109 (hb hby d10_20) ?_
    refine XS.icmpNo X109.here hx rfl (hb hby d10_21) rfl (tlt (by decide)).2.1 ?_
    refine XS.aloadN X109.here hx rfl (hb hby d10_24) rfl rfl ?_
    exact kZ
  refine GF X109 hx hZ hown (wq hw 38 rfl) e109 c108_1 (hb hby d10_25) fun T110 X110 e110 => ?_
  refine Vi (T110.setTop (mkF m 34 #[sR o0, sI 1, sI 3, sR (vA + 2 + 5 * 1 + 3), sR (dA + 2 + 5 * 1 + 2), sI 3] [(.ref o0)])) (fun tZ kZ => ?_) ?_
  · refine XS.iloadN X110.here hx rfl (hb hby d10_28) rfl ?_
    refine AV.aaload c108_3.top rfl X110 hx hZ e110 (j := (1 : Int32)) (by decide) (hb hby d10_29) ?_
    refine XS.iloadN X110.here hx rfl (hb hby d10_30) rfl ?_
    refine AV.aaload (c108_3.row 1 (by decide)) rfl X110 hx hZ e110 (j := (3 : Int32)) (by decide) (hb hby d10_31) ?_
    refine XS.astoreN X110.here hx rfl (hb hby d10_32) rfl rfl (l' := #[sR o0, sI 1, sI 3, sR (vA + 2 + 5 * 1 + 3), sR (dA + 2 + 5 * 1 + 2), sI 3]) rfl ?_
    refine XS.aloadN X110.here hx rfl (hb hby d10_33) rfl rfl ?_
    exact kZ
  refine GF X110 hx hZ hown (wq hw 40 rfl) e110 c108_2 (hb hby d10_34) fun T111 X111 e111 => ?_
  refine Vi (T111.setTop (mkF m 70 #[sR o0, sI 1, sI 3, sR (vA + 2 + 5 * 1 + 3), sR (dA + 2 + 5 * 1 + 3), sI 0] [(.double (FP.dadd (FP.dmul (4606732058837280358 : UInt64) (((own_vl f g 21) 1 3) (0 : Int32).toNatClampNeg)) (((own_dp g 21) 1 3) (0 : Int32).toNatClampNeg))), (.int 0), (.ref (vA + 2 + 5 * 1 + 3))])) (fun tZ kZ => ?_) ?_
  · refine XS.iloadN X111.here hx rfl (hb hby d10_37) rfl ?_
    refine AV.aaload Gw107.top rfl X111 hx hZ e111 (j := (1 : Int32)) (by decide) (hb hby d10_38) ?_
    refine XS.iloadN X111.here hx rfl (hb hby d10_39) rfl ?_
    refine AV.aaload (Gw107.row 1 (by decide)) rfl X111 hx hZ e111 (j := (3 : Int32)) (by decide) (hb hby d10_40) ?_
    refine XS.astore X111.here hx rfl (hb hby d10_41) rfl rfl (l' := #[sR o0, sI 1, sI 3, sR (vA + 2 + 5 * 1 + 3), sR (dA + 2 + 5 * 1 + 3), sI 3]) rfl ?_
    refine XS.iconst X111.here hx rfl (hb hby d10_43) ?_
    refine XS.istore X111.here hx rfl (hb hby d10_44) rfl (l' := #[sR o0, sI 1, sI 3, sR (vA + 2 + 5 * 1 + 3), sR (dA + 2 + 5 * 1 + 3), sI 0]) rfl ?_
    refine XS.iload X111.here hx rfl (hb hby d10_46) rfl ?_
    refine XS.aloadN X111.here hx rfl (hb hby d10_48) rfl rfl ?_
    refine AV.len (c108_3.cell 1 3 (by decide) (by decide)) X111 hx hZ e111 (hb hby d10_49) ?_
    refine XS.icmpNo X111.here hx rfl (hb hby d10_50) rfl (tlt (by decide)).2.1 ?_
    refine XS.aloadN X111.here hx rfl (hb hby d10_53) rfl rfl ?_
    refine XS.iload X111.here hx rfl (hb hby d10_54) rfl ?_
    refine X111.ldc2DoubleC hx hown (wz hZ hw 76 rfl) (g := (mkF m 56 #[sR o0, sI 1, sI 3, sR (vA + 2 + 5 * 1 + 3), sR (dA + 2 + 5 * 1 + 3), sI 0] [(.int 0), (.ref (vA + 2 + 5 * 1 + 3))])) rfl (hb hby d10_56) _ ?_
    refine XS.aloadN X111.here hx rfl (hb hby d10_59) rfl rfl ?_
    refine XS.iload X111.here hx rfl (hb hby d10_60) rfl ?_
    refine AV.daload (c108_3.cell 1 3 (by decide) (by decide)) X111 hx hZ e111 (j := (0 : Int32)) (by decide) (hb hby d10_62) ?_
    refine XS.dmulS X111.here hx rfl (hb hby d10_63) rfl (hnn 1 3 0 (by decide) (by decide) (by decide)).1 rfl ?_
    refine XS.aload X111.here hx rfl (hb hby d10_64) rfl rfl ?_
    refine XS.iload X111.here hx rfl (hb hby d10_66) rfl ?_
    refine AV.daload (Gw107.cell 1 3 (by decide) (by decide)) X111 hx hZ e111 (j := (0 : Int32)) (by decide) (hb hby d10_68) ?_
    refine XS.daddS X111.here hx rfl (hb hby d10_69) rfl (hnn 1 3 0 (by decide) (by decide) (by decide)).2 rfl ?_
    exact kZ
  obtain ⟨T112, h112, X112, e112, W112, V112, st112⟩ := AV.dastore (c108_3.cell 1 3 (by decide) (by decide)) X111 hx hZ e111 (j := (0 : Int32)) (by decide) (Ls := #[sR o0, sI 1, sI 3, sR (vA + 2 + 5 * 1 + 3), sR (dA + 2 + 5 * 1 + 3), sI 0]) (rest := []) (hb hby d10_70) (x := (FP.dadd (FP.dmul (4606732058837280358 : UInt64) (((own_vl f g 21) 1 3) (0 : Int32).toNatClampNeg)) (((own_dp g 21) 1 3) (0 : Int32).toNatClampNeg)))
  have N112 := Fr.snoc X112 N107 (Nat.le_trans ha5 (show vA ≤ (vA + 2 + 5 * 1 + 3) by omega))
  have c113_0 := c108_0.wr W112
  have c113_1 := c108_1.other W112 (Or.inl (own_na (by omega)))
  have c113_2 := c108_2.other W112 (Or.inl (own_na (by omega)))
  have c113_3 := c108_3
  have c113_4 := Gw107.other W112 (by omega)
  have K112 : Keep h0 h112 [(vA + 2 + 5 * 0 + 0), (dA + 2 + 5 * 0 + 0), (vA + 2 + 5 * 0 + 1), (dA + 2 + 5 * 0 + 1), (vA + 2 + 5 * 0 + 2), (dA + 2 + 5 * 0 + 2), (vA + 2 + 5 * 0 + 3), (dA + 2 + 5 * 0 + 3), (vA + 2 + 5 * 1 + 0), (dA + 2 + 5 * 1 + 0), (vA + 2 + 5 * 1 + 1), (dA + 2 + 5 * 1 + 1), (vA + 2 + 5 * 1 + 2), (dA + 2 + 5 * 1 + 2), (vA + 2 + 5 * 1 + 3), (dA + 2 + 5 * 1 + 3)] := K107.wr W112 (Or.inl (by simp))
  have Z112 := Nat.le_trans Z107 (Keep.of_wr W112).1
  have Gw112 : Gd Z h112 vA (own_vl f g 22) := (Gd.set c108_3 1 3 (by decide) (by decide) W112 V112).congr (own_vl_step rfl (by decide) (by decide) rfl)
  refine Go.via st112 ?_
  refine Vi (T112.setTop (mkF m 76 #[sR o0, sI 1, sI 3, sR (vA + 2 + 5 * 1 + 3), sR (dA + 2 + 5 * 1 + 3), sI 0] [(.double FP.dconst0), (.int 0), (.ref (dA + 2 + 5 * 1 + 3))])) (fun tZ kZ => ?_) ?_
  · refine XS.aload X112.here hx rfl (hb hby d10_71) rfl rfl ?_
    refine XS.iload X112.here hx rfl (hb hby d10_73) rfl ?_
    refine XS.dconst0 X112.here hx rfl (hb hby d10_75) rfl ?_
    exact kZ
  obtain ⟨T114, h114, X114, e114, W114, V114, st114⟩ := AV.dastore (c113_4.cell 1 3 (by decide) (by decide)) X112 hx hZ e112 (j := (0 : Int32)) (by decide) (Ls := #[sR o0, sI 1, sI 3, sR (vA + 2 + 5 * 1 + 3), sR (dA + 2 + 5 * 1 + 3), sI 0]) (rest := []) (hb hby d10_76) (x := FP.dconst0)
  have N114 := Fr.snoc X114 N112 (Nat.le_trans ha6 (show dA ≤ (dA + 2 + 5 * 1 + 3) by omega))
  have c115_0 := c113_0.wr W114
  have c115_1 := c113_1.other W114 (Or.inl (own_na (by omega)))
  have c115_2 := c113_2.other W114 (Or.inl (own_na (by omega)))
  have c115_3 := Gw112.other W114 (by omega)
  have c115_4 := c113_4
  have K114 : Keep h0 h114 [(vA + 2 + 5 * 0 + 0), (dA + 2 + 5 * 0 + 0), (vA + 2 + 5 * 0 + 1), (dA + 2 + 5 * 0 + 1), (vA + 2 + 5 * 0 + 2), (dA + 2 + 5 * 0 + 2), (vA + 2 + 5 * 0 + 3), (dA + 2 + 5 * 0 + 3), (vA + 2 + 5 * 1 + 0), (dA + 2 + 5 * 1 + 0), (vA + 2 + 5 * 1 + 1), (dA + 2 + 5 * 1 + 1), (vA + 2 + 5 * 1 + 2), (dA + 2 + 5 * 1 + 2), (vA + 2 + 5 * 1 + 3), (dA + 2 + 5 * 1 + 3)] := K112.wr W114 (Or.inl (by simp))
  have Z114 := Nat.le_trans Z112 (Keep.of_wr W114).1
  have Gw114 : Gd Z h114 dA (own_dp g 22) := (Gd.set c113_4 1 3 (by decide) (by decide) W114 V114).congr (own_dp_step rfl (by decide) (by decide))
  refine Go.via st114 ?_
  refine Vi (T114.setTop (mkF m 70 #[sR o0, sI 1, sI 3, sR (vA + 2 + 5 * 1 + 3), sR (dA + 2 + 5 * 1 + 3), sI 1] [(.double (FP.dadd (FP.dmul (4606732058837280358 : UInt64) (((own_vl f g 22) 1 3) (1 : Int32).toNatClampNeg)) (((own_dp g 22) 1 3) (1 : Int32).toNatClampNeg))), (.int 1), (.ref (vA + 2 + 5 * 1 + 3))])) (fun tZ kZ => ?_) ?_
  · refine XS.iinc X114.here hx rfl (hb hby d10_77) rfl (l' := #[sR o0, sI 1, sI 3, sR (vA + 2 + 5 * 1 + 3), sR (dA + 2 + 5 * 1 + 3), sI 1]) rfl ?_
    refine XS.goto X114.here hx rfl (pc0 := 80) (pc' := 46) rfl (hb hby d10_80) (by decide) (by decide) ?_
    refine XS.iload X114.here hx rfl (hb hby d10_46) rfl ?_
    refine XS.aloadN X114.here hx rfl (hb hby d10_48) rfl rfl ?_
    refine AV.len (c115_3.cell 1 3 (by decide) (by decide)) X114 hx hZ e114 (hb hby d10_49) ?_
    refine XS.icmpNo X114.here hx rfl (hb hby d10_50) rfl (tlt (by decide)).2.1 ?_
    refine XS.aloadN X114.here hx rfl (hb hby d10_53) rfl rfl ?_
    refine XS.iload X114.here hx rfl (hb hby d10_54) rfl ?_
    refine X114.ldc2DoubleC hx hown (wz hZ hw 76 rfl) (g := (mkF m 56 #[sR o0, sI 1, sI 3, sR (vA + 2 + 5 * 1 + 3), sR (dA + 2 + 5 * 1 + 3), sI 1] [(.int 1), (.ref (vA + 2 + 5 * 1 + 3))])) rfl (hb hby d10_56) _ ?_
    refine XS.aloadN X114.here hx rfl (hb hby d10_59) rfl rfl ?_
    refine XS.iload X114.here hx rfl (hb hby d10_60) rfl ?_
    refine AV.daload (c115_3.cell 1 3 (by decide) (by decide)) X114 hx hZ e114 (j := (1 : Int32)) (by decide) (hb hby d10_62) ?_
    refine XS.dmulS X114.here hx rfl (hb hby d10_63) rfl (hnn 1 3 1 (by decide) (by decide) (by decide)).1 rfl ?_
    refine XS.aload X114.here hx rfl (hb hby d10_64) rfl rfl ?_
    refine XS.iload X114.here hx rfl (hb hby d10_66) rfl ?_
    refine AV.daload (Gw114.cell 1 3 (by decide) (by decide)) X114 hx hZ e114 (j := (1 : Int32)) (by decide) (hb hby d10_68) ?_
    refine XS.daddS X114.here hx rfl (hb hby d10_69) rfl (hnn 1 3 1 (by decide) (by decide) (by decide)).2 rfl ?_
    exact kZ
  obtain ⟨T116, h116, X116, e116, W116, V116, st116⟩ := AV.dastore (c115_3.cell 1 3 (by decide) (by decide)) X114 hx hZ e114 (j := (1 : Int32)) (by decide) (Ls := #[sR o0, sI 1, sI 3, sR (vA + 2 + 5 * 1 + 3), sR (dA + 2 + 5 * 1 + 3), sI 1]) (rest := []) (hb hby d10_70) (x := (FP.dadd (FP.dmul (4606732058837280358 : UInt64) (((own_vl f g 22) 1 3) (1 : Int32).toNatClampNeg)) (((own_dp g 22) 1 3) (1 : Int32).toNatClampNeg)))
  have N116 := Fr.snoc X116 N114 (Nat.le_trans ha5 (show vA ≤ (vA + 2 + 5 * 1 + 3) by omega))
  have c117_0 := c115_0.wr W116
  have c117_1 := c115_1.other W116 (Or.inl (own_na (by omega)))
  have c117_2 := c115_2.other W116 (Or.inl (own_na (by omega)))
  have c117_3 := c115_3
  have c117_4 := Gw114.other W116 (by omega)
  have K116 : Keep h0 h116 [(vA + 2 + 5 * 0 + 0), (dA + 2 + 5 * 0 + 0), (vA + 2 + 5 * 0 + 1), (dA + 2 + 5 * 0 + 1), (vA + 2 + 5 * 0 + 2), (dA + 2 + 5 * 0 + 2), (vA + 2 + 5 * 0 + 3), (dA + 2 + 5 * 0 + 3), (vA + 2 + 5 * 1 + 0), (dA + 2 + 5 * 1 + 0), (vA + 2 + 5 * 1 + 1), (dA + 2 + 5 * 1 + 1), (vA + 2 + 5 * 1 + 2), (dA + 2 + 5 * 1 + 2), (vA + 2 + 5 * 1 + 3), (dA + 2 + 5 * 1 + 3)] := K114.wr W116 (Or.inl (by simp))
  have Z116 := Nat.le_trans Z114 (Keep.of_wr W116).1
  have Gw116 : Gd Z h116 vA (own_vl f g 23) := (Gd.set c115_3 1 3 (by decide) (by decide) W116 V116).congr (own_vl_step rfl (by decide) (by decide) rfl)
  refine Go.via st116 ?_
  refine Vi (T116.setTop (mkF m 76 #[sR o0, sI 1, sI 3, sR (vA + 2 + 5 * 1 + 3), sR (dA + 2 + 5 * 1 + 3), sI 1] [(.double FP.dconst0), (.int 1), (.ref (dA + 2 + 5 * 1 + 3))])) (fun tZ kZ => ?_) ?_
  · refine XS.aload X116.here hx rfl (hb hby d10_71) rfl rfl ?_
    refine XS.iload X116.here hx rfl (hb hby d10_73) rfl ?_
    refine XS.dconst0 X116.here hx rfl (hb hby d10_75) rfl ?_
    exact kZ
  obtain ⟨T118, h118, X118, e118, W118, V118, st118⟩ := AV.dastore (c117_4.cell 1 3 (by decide) (by decide)) X116 hx hZ e116 (j := (1 : Int32)) (by decide) (Ls := #[sR o0, sI 1, sI 3, sR (vA + 2 + 5 * 1 + 3), sR (dA + 2 + 5 * 1 + 3), sI 1]) (rest := []) (hb hby d10_76) (x := FP.dconst0)
  have N118 := Fr.snoc X118 N116 (Nat.le_trans ha6 (show dA ≤ (dA + 2 + 5 * 1 + 3) by omega))
  have c119_0 := c117_0.wr W118
  have c119_1 := c117_1.other W118 (Or.inl (own_na (by omega)))
  have c119_2 := c117_2.other W118 (Or.inl (own_na (by omega)))
  have c119_3 := Gw116.other W118 (by omega)
  have c119_4 := c117_4
  have K118 : Keep h0 h118 [(vA + 2 + 5 * 0 + 0), (dA + 2 + 5 * 0 + 0), (vA + 2 + 5 * 0 + 1), (dA + 2 + 5 * 0 + 1), (vA + 2 + 5 * 0 + 2), (dA + 2 + 5 * 0 + 2), (vA + 2 + 5 * 0 + 3), (dA + 2 + 5 * 0 + 3), (vA + 2 + 5 * 1 + 0), (dA + 2 + 5 * 1 + 0), (vA + 2 + 5 * 1 + 1), (dA + 2 + 5 * 1 + 1), (vA + 2 + 5 * 1 + 2), (dA + 2 + 5 * 1 + 2), (vA + 2 + 5 * 1 + 3), (dA + 2 + 5 * 1 + 3)] := K116.wr W118 (Or.inl (by simp))
  have Z118 := Nat.le_trans Z116 (Keep.of_wr W118).1
  have Gw118 : Gd Z h118 dA (own_dp g 23) := (Gd.set c117_4 1 3 (by decide) (by decide) W118 V118).congr (own_dp_step rfl (by decide) (by decide))
  refine Go.via st118 ?_
  refine Vi (T118.setTop (mkF m 70 #[sR o0, sI 1, sI 3, sR (vA + 2 + 5 * 1 + 3), sR (dA + 2 + 5 * 1 + 3), sI 2] [(.double (FP.dadd (FP.dmul (4606732058837280358 : UInt64) (((own_vl f g 23) 1 3) (2 : Int32).toNatClampNeg)) (((own_dp g 23) 1 3) (2 : Int32).toNatClampNeg))), (.int 2), (.ref (vA + 2 + 5 * 1 + 3))])) (fun tZ kZ => ?_) ?_
  · refine XS.iinc X118.here hx rfl (hb hby d10_77) rfl (l' := #[sR o0, sI 1, sI 3, sR (vA + 2 + 5 * 1 + 3), sR (dA + 2 + 5 * 1 + 3), sI 2]) rfl ?_
    refine XS.goto X118.here hx rfl (pc0 := 80) (pc' := 46) rfl (hb hby d10_80) (by decide) (by decide) ?_
    refine XS.iload X118.here hx rfl (hb hby d10_46) rfl ?_
    refine XS.aloadN X118.here hx rfl (hb hby d10_48) rfl rfl ?_
    refine AV.len (c119_3.cell 1 3 (by decide) (by decide)) X118 hx hZ e118 (hb hby d10_49) ?_
    refine XS.icmpNo X118.here hx rfl (hb hby d10_50) rfl (tlt (by decide)).2.1 ?_
    refine XS.aloadN X118.here hx rfl (hb hby d10_53) rfl rfl ?_
    refine XS.iload X118.here hx rfl (hb hby d10_54) rfl ?_
    refine X118.ldc2DoubleC hx hown (wz hZ hw 76 rfl) (g := (mkF m 56 #[sR o0, sI 1, sI 3, sR (vA + 2 + 5 * 1 + 3), sR (dA + 2 + 5 * 1 + 3), sI 2] [(.int 2), (.ref (vA + 2 + 5 * 1 + 3))])) rfl (hb hby d10_56) _ ?_
    refine XS.aloadN X118.here hx rfl (hb hby d10_59) rfl rfl ?_
    refine XS.iload X118.here hx rfl (hb hby d10_60) rfl ?_
    refine AV.daload (c119_3.cell 1 3 (by decide) (by decide)) X118 hx hZ e118 (j := (2 : Int32)) (by decide) (hb hby d10_62) ?_
    refine XS.dmulS X118.here hx rfl (hb hby d10_63) rfl (hnn 1 3 2 (by decide) (by decide) (by decide)).1 rfl ?_
    refine XS.aload X118.here hx rfl (hb hby d10_64) rfl rfl ?_
    refine XS.iload X118.here hx rfl (hb hby d10_66) rfl ?_
    refine AV.daload (Gw118.cell 1 3 (by decide) (by decide)) X118 hx hZ e118 (j := (2 : Int32)) (by decide) (hb hby d10_68) ?_
    refine XS.daddS X118.here hx rfl (hb hby d10_69) rfl (hnn 1 3 2 (by decide) (by decide) (by decide)).2 rfl ?_
    exact kZ
  obtain ⟨T120, h120, X120, e120, W120, V120, st120⟩ := AV.dastore (c119_3.cell 1 3 (by decide) (by decide)) X118 hx hZ e118 (j := (2 : Int32)) (by decide) (Ls := #[sR o0, sI 1, sI 3, sR (vA + 2 + 5 * 1 + 3), sR (dA + 2 + 5 * 1 + 3), sI 2]) (rest := []) (hb hby d10_70) (x := (FP.dadd (FP.dmul (4606732058837280358 : UInt64) (((own_vl f g 23) 1 3) (2 : Int32).toNatClampNeg)) (((own_dp g 23) 1 3) (2 : Int32).toNatClampNeg)))
  have N120 := Fr.snoc X120 N118 (Nat.le_trans ha5 (show vA ≤ (vA + 2 + 5 * 1 + 3) by omega))
  have c121_0 := c119_0.wr W120
  have c121_1 := c119_1.other W120 (Or.inl (own_na (by omega)))
  have c121_2 := c119_2.other W120 (Or.inl (own_na (by omega)))
  have c121_3 := c119_3
  have c121_4 := Gw118.other W120 (by omega)
  have K120 : Keep h0 h120 [(vA + 2 + 5 * 0 + 0), (dA + 2 + 5 * 0 + 0), (vA + 2 + 5 * 0 + 1), (dA + 2 + 5 * 0 + 1), (vA + 2 + 5 * 0 + 2), (dA + 2 + 5 * 0 + 2), (vA + 2 + 5 * 0 + 3), (dA + 2 + 5 * 0 + 3), (vA + 2 + 5 * 1 + 0), (dA + 2 + 5 * 1 + 0), (vA + 2 + 5 * 1 + 1), (dA + 2 + 5 * 1 + 1), (vA + 2 + 5 * 1 + 2), (dA + 2 + 5 * 1 + 2), (vA + 2 + 5 * 1 + 3), (dA + 2 + 5 * 1 + 3)] := K118.wr W120 (Or.inl (by simp))
  have Z120 := Nat.le_trans Z118 (Keep.of_wr W120).1
  have Gw120 : Gd Z h120 vA (own_vl f g 24) := (Gd.set c119_3 1 3 (by decide) (by decide) W120 V120).congr (own_vl_step rfl (by decide) (by decide) rfl)
  refine Go.via st120 ?_
  refine Vi (T120.setTop (mkF m 76 #[sR o0, sI 1, sI 3, sR (vA + 2 + 5 * 1 + 3), sR (dA + 2 + 5 * 1 + 3), sI 2] [(.double FP.dconst0), (.int 2), (.ref (dA + 2 + 5 * 1 + 3))])) (fun tZ kZ => ?_) ?_
  · refine XS.aload X120.here hx rfl (hb hby d10_71) rfl rfl ?_
    refine XS.iload X120.here hx rfl (hb hby d10_73) rfl ?_
    refine XS.dconst0 X120.here hx rfl (hb hby d10_75) rfl ?_
    exact kZ
  obtain ⟨T122, h122, X122, e122, W122, V122, st122⟩ := AV.dastore (c121_4.cell 1 3 (by decide) (by decide)) X120 hx hZ e120 (j := (2 : Int32)) (by decide) (Ls := #[sR o0, sI 1, sI 3, sR (vA + 2 + 5 * 1 + 3), sR (dA + 2 + 5 * 1 + 3), sI 2]) (rest := []) (hb hby d10_76) (x := FP.dconst0)
  have N122 := Fr.snoc X122 N120 (Nat.le_trans ha6 (show dA ≤ (dA + 2 + 5 * 1 + 3) by omega))
  have c123_0 := c121_0.wr W122
  have c123_1 := c121_1.other W122 (Or.inl (own_na (by omega)))
  have c123_2 := c121_2.other W122 (Or.inl (own_na (by omega)))
  have c123_3 := Gw120.other W122 (by omega)
  have c123_4 := c121_4
  have K122 : Keep h0 h122 [(vA + 2 + 5 * 0 + 0), (dA + 2 + 5 * 0 + 0), (vA + 2 + 5 * 0 + 1), (dA + 2 + 5 * 0 + 1), (vA + 2 + 5 * 0 + 2), (dA + 2 + 5 * 0 + 2), (vA + 2 + 5 * 0 + 3), (dA + 2 + 5 * 0 + 3), (vA + 2 + 5 * 1 + 0), (dA + 2 + 5 * 1 + 0), (vA + 2 + 5 * 1 + 1), (dA + 2 + 5 * 1 + 1), (vA + 2 + 5 * 1 + 2), (dA + 2 + 5 * 1 + 2), (vA + 2 + 5 * 1 + 3), (dA + 2 + 5 * 1 + 3)] := K120.wr W122 (Or.inl (by simp))
  have Z122 := Nat.le_trans Z120 (Keep.of_wr W122).1
  have Gw122 : Gd Z h122 dA (own_dp g 24) := (Gd.set c121_4 1 3 (by decide) (by decide) W122 V122).congr (own_dp_step rfl (by decide) (by decide))
  refine Go.via st122 ?_
  refine Vi (T122.setTop (mkF m 15 #[sR o0, sI 1, sI 4, sR (vA + 2 + 5 * 1 + 3), sR (dA + 2 + 5 * 1 + 3), sI 3] [(.ref o0), (.int 4)])) (fun tZ kZ => ?_) ?_
  · refine XS.iinc X122.here hx rfl (hb hby d10_77) rfl (l' := #[sR o0, sI 1, sI 3, sR (vA + 2 + 5 * 1 + 3), sR (dA + 2 + 5 * 1 + 3), sI 3]) rfl ?_
    refine XS.goto X122.here hx rfl (pc0 := 80) (pc' := 46) rfl (hb hby d10_80) (by decide) (by decide) ?_
    refine XS.iload X122.here hx rfl (hb hby d10_46) rfl ?_
    refine XS.aloadN X122.here hx rfl (hb hby d10_48) rfl rfl ?_
    refine AV.len (c123_3.cell 1 3 (by decide) (by decide)) X122 hx hZ e122 (hb hby d10_49) ?_
    refine XS.icmpYes X122.here hx rfl (pc0 := 50) (pc' := 83) rfl (hb hby d10_50) rfl (flt (by decide)).2.1 (by decide) (by decide) ?_
    refine XS.iinc X122.here hx rfl (hb hby d10_83) rfl (l' := #[sR o0, sI 1, sI 4, sR (vA + 2 + 5 * 1 + 3), sR (dA + 2 + 5 * 1 + 3), sI 3]) rfl ?_
    refine XS.goto X122.here hx rfl (pc0 := 86) (pc' := 13) rfl (hb hby d10_86) (by decide) (by decide) ?_
    refine XS.iloadN X122.here hx rfl (hb hby d10_13) rfl ?_
    refine XS.aloadN X122.here hx rfl (hb hby d10_14) rfl rfl ?_
    exact kZ
  refine GF X122 hx hZ hown (wq hw 38 rfl) e122 c123_1 (hb hby d10_15) fun T124 X124 e124 => ?_
  refine Vi (T124.setTop (mkF m 4 #[sR o0, sI 2, sI 4, sR (vA + 2 + 5 * 1 + 3), sR (dA + 2 + 5 * 1 + 3), sI 3] [(.ref o0), (.int 2)])) (fun tZ kZ => ?_) ?_
  · refine XS.iloadN X124.here hx rfl (hb hby d10_18) rfl ?_
    refine AV.aaload c123_3.top rfl X124 hx hZ e124 (j := (1 : Int32)) (by decide) (hb hby d10_19) ?_
    refine AV.len (c123_3.row 1 (by decide)) X124 hx hZ e124 (hb hby d10_20) ?_
    refine XS.icmpYes X124.here hx rfl (pc0 := 21) (pc' := 89) rfl (hb hby d10_21) rfl (flt (by decide)).2.1 (by decide) (by decide) ?_
    refine XS.iinc X124.here hx rfl (hb hby d10_89) rfl (l' := #[sR o0, sI 2, sI 4, sR (vA + 2 + 5 * 1 + 3), sR (dA + 2 + 5 * 1 + 3), sI 3]) rfl ?_
    refine XS.goto X124.here hx rfl (pc0 := 92) (pc' := 2) rfl (hb hby d10_92) (by decide) (by decide) ?_
    refine XS.iloadN X124.here hx rfl (hb hby d10_2) rfl ?_
    refine XS.aloadN X124.here hx rfl (hb hby d10_3) rfl rfl ?_
    exact kZ
  refine GF X124 hx hZ hown (wq hw 38 rfl) e124 c123_1 (hb hby d10_4) fun T125 X125 e125 => ?_
  refine Vi (T125.setTop (mkF m 95 #[sR o0, sI 2, sI 4, sR (vA + 2 + 5 * 1 + 3), sR (dA + 2 + 5 * 1 + 3), sI 3] [])) (fun tZ kZ => ?_) ?_
  · refine AV.len c123_3.top X125 hx hZ e125 (hb hby d10_7) ?_
    refine XS.icmpYes X125.here hx rfl (pc0 := 8) (pc' := 95) rfl (hb hby d10_8) rfl (flt (by decide)).2.1 (by decide) (by decide) ?_
    exact kZ
  have Gve : Gd Z h122 vA (fun i j k => FP.dadd (FP.dmul (4606732058837280358 : UInt64) (f i j k)) (g i j k)) := c123_3.congr own_vl_end
  have Gde : Gd Z h122 dA (fun _ _ _ => FP.dconst0) := Gw122.congr own_dp_end
  refine Go.retV X125 hx Bd.notSynchronized Bd.returns (hb hby d10_95) (by decide) (by decide) ?_
  rw [e125]
  exact ⟨rfl, N122, K122, c123_0, c123_1, c123_2, Gve, Gde⟩
theorem d6_0 : DC B6 0 (.aload_n 0) 1 := by decide +kernel
theorem d6_1 : DC B6 1 (.getfield 15) 3 := by decide +kernel
theorem d6_4 : DC B6 4 (.iload_n 1) 1 := by decide +kernel
theorem d6_5 : DC B6 5 (.aaload) 1 := by decide +kernel
theorem d6_6 : DC B6 6 (.iload_n 2) 1 := by decide +kernel
theorem d6_7 : DC B6 7 (.iconst 1) 1 := by decide +kernel
theorem d6_8 : DC B6 8 (.iadd) 1 := by decide +kernel
theorem d6_9 : DC B6 9 (.aaload) 1 := by decide +kernel
theorem d6_10 : DC B6 10 (.iload_n 3) 1 := by decide +kernel
theorem d6_11 : DC B6 11 (.daload) 1 := by decide +kernel
theorem d6_12 : DC B6 12 (.dreturn) 1 := by decide +kernel
def f6 (o0 : Nat) (p1 : Int32) (p2 : Int32) (p3 : Int32) (vA : Nat) (f : Nat → Nat → Nat → UInt64) : UInt64 := ((f p1.toNatClampNeg (p2 + (1 : Int32)).toNatClampNeg) p3.toNatClampNeg)
def Q6 (o0 : Nat) (p1 : Int32) (p2 : Int32) (p3 : Int32) (vA : Nat) (f : Nat → Nat → Nat → UInt64) (h0 : Heap) (n0 : Nat) (v : Option Value) (h : Heap) (L : List Loc) : Prop := v = some (.double (f6 o0 p1 p2 p3 vA f)) ∧ Fr n0 L ∧ h = h0
theorem ef_6_aaaa (m : MethodId) (x0 : Nat) (x1 : Int32) (x2 : Int32) (x3 : Int32) : entryFrame m #[(.ref x0), (.int x1), (.int x2), (.int x3)] 4 = mkF m 0 #[.val (.ref x0), .val (.int x1), .val (.int x2), .val (.int x3)] [] := by first | (simp [entryFrame, mkF, argsToLocals, Value.category]; done) | rfl
theorem rm6 (l : Launch) (Z : State) (a0 : Array Value) (hw : HW a0 Z) (ws : List Jvm.Cond) (o0 : Nat) (p1 : Int32) (p2 : Int32) (p3 : Int32) (vA : Nat) (f : Nat → Nat → Nat → UInt64) (h0 : Heap) (n0 : Nat) (Z0 : n0 ≤ h0.size) (ha0 : Exa Z h0 o0 "com/example/muster/muster/solvers/Pheromone") (ha1 : Fld Z h0 o0 "com/example/muster/muster/solvers/Pheromone" "value" "[[[D" (.ref vA)) (ha2 : Gd Z h0 vA f) (hr1 : ¬ p1 < 0 ∧ p1.toNatClampNeg < 2) (hr2 : ¬ p2 + (1 : Int32) < 0 ∧ (p2 + (1 : Int32)).toNatClampNeg < 4) (hr3 : ¬ p3 < 0 ∧ p3.toNatClampNeg < 3) :
    MetFree l y6 (head1 (Jvm.Cond.code y6 prog_48_method_3_code 4 (some .double) :: ws) RM_0_0_0_0) (fun a U => a = #[(.ref o0), (.int p1), (.int p2), (.int p3)] ∧ Z.Warmed39 U.vm ∧ U.heap = h0) (fun _ _ _ _ _ => True) (fun _ U o U' => ∃ v L, o = .returned v ∧ Q6 o0 p1 p2 p3 vA f h0 n0 v U'.heap L ∧ FrameEnd U o U' L RM_0_0_0_0.cells RM_0_0_0_0.slots) := by
  refine MetFree.of_bodySF (plainFor_of_name pn_1) hisR ?_
  intro p e s m args below meth c s₁ Bd hml0 hP hK
  obtain ⟨rfl, hZ, hh⟩ := hP
  have hx := Bd.exec
  have hby := Bd.bytes
  have hml : c.maxLocals = 4 := hml0
  have hown : s.vm.findClass "com/example/muster/muster/solvers/Pheromone" = some m.cls := findClass_of_methodNamed Bd.named
  have X0 : Stand p l e RM_0_0_0_0 s m _ below meth c s₁ [] 0 0 := Stand.of_body Bd
  have e0 : s₁.heap = h0 := by rw [← hh, Bd.state]; rfl
  have N0 := Fr.nil n0
  refine Go.into (P := fun oo uu => ∃ v L, oo = .returned v ∧ Q6 o0 p1 p2 p3 vA f h0 n0 v uu.heap L ∧ FrameEnd s oo uu L RM_0_0_0_0.cells RM_0_0_0_0.slots) (ef_6_aaaa m o0 p1 p2 p3) ?_
  show Go p e below _ (s₁.setTop (mkF m 0 #[sR o0, sI p1, sI p2, sI p3] []))
  refine Vi (s₁.setTop (mkF m 1 #[sR o0, sI p1, sI p2, sI p3] [(.ref o0)])) (fun tZ kZ => ?_) ?_
  · refine XS.aloadN X0.here hx rfl (hb hby d6_0) rfl rfl ?_
    exact kZ
  refine GF X0 hx hZ hown (wq hw 38 rfl) e0 ha1 (hb hby d6_1) fun T1 X1 e1 => ?_
  refine Vi (T1.setTop (mkF m 12 #[sR o0, sI p1, sI p2, sI p3] [(.double ((f p1.toNatClampNeg (p2 + (1 : Int32)).toNatClampNeg) p3.toNatClampNeg))])) (fun tZ kZ => ?_) ?_
  · refine XS.iloadN X1.here hx rfl (hb hby d6_4) rfl ?_
    refine AV.aaload ha2.top rfl X1 hx hZ e1 (j := p1) hr1 (hb hby d6_5) ?_
    refine XS.iloadN X1.here hx rfl (hb hby d6_6) rfl ?_
    refine XS.iconst X1.here hx rfl (hb hby d6_7) ?_
    refine XS.iadd X1.here hx rfl (hb hby d6_8) rfl ?_
    refine AV.aaload (ha2.row p1.toNatClampNeg hr1.2) rfl X1 hx hZ e1 (j := (p2 + (1 : Int32))) hr2 (hb hby d6_9) ?_
    refine XS.iloadN X1.here hx rfl (hb hby d6_10) rfl ?_
    refine AV.daload (ha2.cell p1.toNatClampNeg (p2 + (1 : Int32)).toNatClampNeg hr1.2 hr2.2) X1 hx hZ e1 (j := p3) hr3 (hb hby d6_11) ?_
    exact kZ
  refine Go.retD X1 hx Bd.notSynchronized Bd.returns (hb hby d6_12) (by decide) (by decide) ?_
  refine ⟨?_, N0, e1⟩
  show some ((.double ((f p1.toNatClampNeg (p2 + (1 : Int32)).toNatClampNeg) p3.toNatClampNeg)) : Value) = some (.double (f6 o0 p1 p2 p3 vA f))
  rfl
theorem own_andn (p m : Int32) (hm : m.toBitVec.toNat < 2 ^ 31) : (p &&& m).toInt = (p &&& m).toBitVec.toNat ∧ (p &&& m).toBitVec.toNat ≤ m.toBitVec.toNat := by
  have h : (p &&& m).toBitVec.toNat ≤ m.toBitVec.toNat := by
    rw [Int32.toBitVec_and, BitVec.toNat_and]; exact Nat.and_le_right
  refine ⟨?_, h⟩
  show (p &&& m).toBitVec.toInt = _
  rw [BitVec.toInt_eq_toNat_cond, if_pos (by omega)]
theorem own_bit1 (s : Int32) : s &&& 1 = 0 ∨ s &&& 1 = 1 := by
  obtain ⟨a, b⟩ := own_andn s 1 (by decide)
  have e : (1 : Int32).toBitVec.toNat = 1 := rfl
  rcases (show (s &&& 1).toBitVec.toNat = 0 ∨ (s &&& 1).toBitVec.toNat = 1 by omega) with h | h
  · left; rw [← Int32.toInt_inj, a, h]; rfl
  · right; rw [← Int32.toInt_inj, a, h]; rfl
theorem own_sh2 (x : Int32) : 0 ≤ ((x.toUInt32 >>> ((2 : Int32) &&& 31).toUInt32).toInt32).toInt := by
  have e : ((x.toUInt32 >>> ((2 : Int32) &&& 31).toUInt32).toInt32).toInt = ((x.toUInt32 >>> ((2 : Int32) &&& 31).toUInt32).toBitVec).toInt := rfl
  have e2 : (x.toUInt32 >>> ((2 : Int32) &&& 31).toUInt32).toBitVec.toNat = x.toBitVec.toNat / 4 := by
    rw [UInt32.toBitVec_shiftRight]
    have : x.toUInt32.toBitVec = x.toBitVec := rfl
    rw [this, BitVec.ushiftRight_eq', BitVec.toNat_ushiftRight, Nat.shiftRight_eq_div_pow]
    rfl
  have := x.toBitVec.isLt
  rw [e, BitVec.toInt_eq_toNat_cond, e2, if_pos (by omega)]
  omega
theorem own_mod3 {x : Int32} (h : 0 ≤ x.toInt) : x % 3 = 0 ∨ x % 3 = 1 ∨ x % 3 = 2 := by
  have e : (x % 3).toInt = x.toInt.tmod 3 := Int32.toInt_mod _ _
  have e3 : x.toInt.tmod 3 = x.toInt % 3 := Int.tmod_eq_emod_of_nonneg h
  rcases (show x.toInt % 3 = 0 ∨ x.toInt % 3 = 1 ∨ x.toInt % 3 = 2 by omega) with q | q | q
  · left; rw [← Int32.toInt_inj, e, e3, q]; rfl
  · right; left; rw [← Int32.toInt_inj, e, e3, q]; rfl
  · right; right; rw [← Int32.toInt_inj, e, e3, q]; rfl
theorem own_p3' {x : Int32} (h : x = 0 ∨ x = 1 ∨ x = 2) : ¬ x - 1 + 1 < 0 ∧ (x - 1 + 1).toNatClampNeg < 3 := by rcases h with rfl | rfl | rfl <;> decide
open Jvm.Free.Fl in
theorem own_gb0 : GB 1060 (fun _ _ _ => 0) := fun _ _ _ => by show Mag64 1060 0; unfold Mag64; decide
open Jvm.Free.Fl in
theorem own_m0 : Mag64 1060 FP.dconst0 := by unfold Mag64; decide +kernel
open Jvm.Free.Fl in
theorem own_mP : Mag64 1023 4606732058837280358 := by unfold Mag64; decide
open Jvm.Free.Fl in
theorem own_mm {K : Nat} {x : UInt64} (h : Mag64 K x) (hK : 2 ≤ K ∧ K ≤ 2000) : Mag64 (K + 1) (FP.dmul 4606732058837280358 x) := (dmul_mag own_mP h (by decide) (by omega)).mono (by omega)
open Jvm.Free.Fl in
theorem own_nnG {K : Nat} {f g : Nat → Nat → Nat → UInt64} (hf : GB K f) (hg : GB K g) (hK : 2 ≤ K ∧ K ≤ 2000) : ∀ i j k : Nat, i < 2 → j < 4 → k < 3 → NoNaN64 (FP.dmul 4606732058837280358 (f i j k)) ∧ NoNaN64 (FP.dadd (FP.dmul 4606732058837280358 (f i j k)) (g i j k)) := fun i j k _ _ _ =>
  ⟨((own_mm (hf i j k) hK).fin (by omega)).noNaN, own_add (own_mm (hf i j k) hK) ((hg i j k).mono (by omega)) (by omega)⟩
open Jvm.Free.Fl in
theorem own_gbU {K : Nat} {f g : Nat → Nat → Nat → UInt64} (hf : GB K f) (hg : GB K g) (hK : 2 ≤ K ∧ K ≤ 2000) : GB (K + 3) (fun i j k => FP.dadd (FP.dmul 4606732058837280358 (f i j k)) (g i j k)) := fun i j k => dadd_mag (own_mm (hf i j k) hK) ((hg i j k).mono (by omega)) (by omega)
theorem GB.mono {K K' : Nat} {f : Nat → Nat → Nat → UInt64} (h : GB K f) (hK : K ≤ K') : GB K' f := fun i j k => (h i j k).mono hK
theorem own_and3 (s : Int32) : s &&& 3 = 0 ∨ s &&& 3 = 1 ∨ s &&& 3 = 2 ∨ s &&& 3 = 3 := by
  obtain ⟨a, b⟩ := own_andn s 3 (by decide)
  have e : (3 : Int32).toBitVec.toNat = 3 := rfl
  rcases (show (s &&& 3).toBitVec.toNat = 0 ∨ (s &&& 3).toBitVec.toNat = 1 ∨ (s &&& 3).toBitVec.toNat = 2 ∨ (s &&& 3).toBitVec.toNat = 3 by omega) with h | h | h | h
  · left; rw [← Int32.toInt_inj, a, h]; rfl
  · right; left; rw [← Int32.toInt_inj, a, h]; rfl
  · right; right; left; rw [← Int32.toInt_inj, a, h]; rfl
  · right; right; right; rw [← Int32.toInt_inj, a, h]; rfl
theorem own_t3 (s : Int32) : (s &&& 3) % 3 = 0 ∨ (s &&& 3) % 3 = 1 ∨ (s &&& 3) % 3 = 2 := by rcases own_and3 s with h | h | h | h <;> rw [h] <;> decide
theorem own_f4 (s : Int32) : (s &&& 3) - 1 = -1 ∨ (s &&& 3) - 1 = 0 ∨ (s &&& 3) - 1 = 1 ∨ (s &&& 3) - 1 = 2 := by rcases own_and3 s with h | h | h | h <;> rw [h] <;> decide
theorem own_x (s : Int32) : (s &&& 2147483647) % 3 = 0 ∨ (s &&& 2147483647) % 3 = 1 ∨ (s &&& 2147483647) % 3 = 2 := own_mod3 (by rw [(own_andn s 2147483647 (by decide)).1]; omega)
theorem own_y {x b : Int32} (h : x = 0 ∨ x = 1 ∨ x = 2) (hb : b = 0 ∨ b = 1) : (x + 1 + b) % 3 = 0 ∨ (x + 1 + b) % 3 = 1 ∨ (x + 1 + b) % 3 = 2 := by rcases h with rfl | rfl | rfl <;> rcases hb with rfl | rfl <;> decide
theorem own_f1 {x : Int32} (h : x = -1 ∨ x = 0 ∨ x = 1 ∨ x = 2) : ¬ x + 1 < 0 ∧ (x + 1).toNatClampNeg < 4 := by rcases h with rfl | rfl | rfl | rfl <;> decide
open Jvm.FP Jvm.Free.Fl in
theorem own_z (n : Int32) : FP.dadd 0 (FP.i2d n) = FP.i2d n := by
  have b0 : B53 0 := by unfold B53; decide
  have bn : B53 n.toInt64 := by
    unfold B53; rw [Int32.toInt_toInt64]; have := Int32.toInt_lt n; have := Int32.le_toInt n; omega
  have e : FP.dadd (FP.l2d 0) (FP.l2d n.toInt64) = FP.l2d (0 + n.toInt64) := dadd_w b0 bn
  rw [l2d_zero, Int64.zero_add] at e
  rw [i2d_w]; exact e
open Jvm.Free.Fl in
theorem own_kz {K : Nat} {a : UInt64} (h : Mag64 K a) (hK : K ≤ 2047) : cmpValue (FP.dcmp (FP.dadd a 0) a) .l = 0 := by
  have z : Jvm.FP.Core.DZero 0 := ⟨_, _, rfl⟩
  rw [Jvm.FP.V.dadd_zero (fin64_core.mp (h.fin hK)) z]; rfl
def own_on (rr ff tt xa xb hz xc : Int32) : Int32 := if rr = 0 then (if ff = -1 then (if tt = xa then 1 else (if ff = xa then (if tt = xb then 1 else 0) else 0)) else (if ff = xa then (if tt = xb then 1 else 0) else 0)) else (if hz = 0 then 0 else (if ff = -1 then (if tt = xc then 1 else 0) else 0))
section Dgv
variable {xa xb xc rr tt ff hz : Int32} {d : UInt64}
theorem own_dga (ha : xa = 0 ∨ xa = 1 ∨ xa = 2) (hb : xb = 0 ∨ xb = 1 ∨ xb = 2) (hc : xc = 0 ∨ xc = 1 ∨ xc = 2) (hr : rr = 0 ∨ rr = 1) (ht : tt = 0 ∨ tt = 1 ∨ tt = 2) (hf : ff = -1 ∨ ff = 0 ∨ ff = 1 ∨ ff = 2) (hh : ¬ hz = 0) : own_d1 (own_d1 (own_d1 (fun _ _ _ => (0 : UInt64)) 0 0 xa.toNatClampNeg d) 0 (xa + (1 : Int32)).toNatClampNeg xb.toNatClampNeg d) 1 0 xc.toNatClampNeg d rr.toNatClampNeg (ff + (1 : Int32)).toNatClampNeg tt.toNatClampNeg = if own_on rr ff tt xa xb hz xc = 0 then 0 else FP.dadd 0 d := by
  unfold own_on; rw [if_neg hh]
  rcases ha with rfl | rfl | rfl <;> rcases hb with rfl | rfl | rfl <;> rcases hc with rfl | rfl | rfl <;> rcases hr with rfl | rfl <;> rcases ht with rfl | rfl | rfl <;> rcases hf with rfl | rfl | rfl | rfl <;> rfl
theorem own_dgb (ha : xa = 0 ∨ xa = 1 ∨ xa = 2) (hb : xb = 0 ∨ xb = 1 ∨ xb = 2) (hr : rr = 0 ∨ rr = 1) (ht : tt = 0 ∨ tt = 1 ∨ tt = 2) (hf : ff = -1 ∨ ff = 0 ∨ ff = 1 ∨ ff = 2) (hh : hz = 0) : own_d1 (own_d1 (fun _ _ _ => (0 : UInt64)) 0 0 xa.toNatClampNeg d) 0 (xa + (1 : Int32)).toNatClampNeg xb.toNatClampNeg d rr.toNatClampNeg (ff + (1 : Int32)).toNatClampNeg tt.toNatClampNeg = if own_on rr ff tt xa xb hz xc = 0 then 0 else FP.dadd 0 d := by
  unfold own_on; rw [if_pos hh]
  rcases ha with rfl | rfl | rfl <;> rcases hb with rfl | rfl | rfl <;> rcases hr with rfl | rfl <;> rcases ht with rfl | rfl | rfl <;> rcases hf with rfl | rfl | rfl | rfl <;> rfl
theorem own_d4a (ha : xa = 0 ∨ xa = 1 ∨ xa = 2) (hb : xb = 0 ∨ xb = 1 ∨ xb = 2) (hc : xc = 0 ∨ xc = 1 ∨ xc = 2) : own_d1 (own_d1 (own_d1 (fun _ _ _ => (0 : UInt64)) 0 0 xa.toNatClampNeg d) 0 (xa + (1 : Int32)).toNatClampNeg xb.toNatClampNeg d) 1 0 xc.toNatClampNeg d (0 : Int32).toNatClampNeg ((-1 : Int32) + (1 : Int32)).toNatClampNeg xa.toNatClampNeg = FP.dadd 0 d := by
  rcases ha with rfl | rfl | rfl <;> rcases hb with rfl | rfl | rfl <;> rcases hc with rfl | rfl | rfl <;> rfl
theorem own_d4b (ha : xa = 0 ∨ xa = 1 ∨ xa = 2) (hb : xb = 0 ∨ xb = 1 ∨ xb = 2) : own_d1 (own_d1 (fun _ _ _ => (0 : UInt64)) 0 0 xa.toNatClampNeg d) 0 (xa + (1 : Int32)).toNatClampNeg xb.toNatClampNeg d (0 : Int32).toNatClampNeg ((-1 : Int32) + (1 : Int32)).toNatClampNeg xa.toNatClampNeg = FP.dadd 0 d := by
  rcases ha with rfl | rfl | rfl <;> rcases hb with rfl | rfl | rfl <;> rfl
theorem own_d5a (ha : xa = 0 ∨ xa = 1 ∨ xa = 2) (hb : xb = 0 ∨ xb = 1 ∨ xb = 2) (hc : xc = 0 ∨ xc = 1 ∨ xc = 2) : own_d1 (own_d1 (own_d1 (fun _ _ _ => (0 : UInt64)) 0 0 xa.toNatClampNeg d) 0 (xa + (1 : Int32)).toNatClampNeg xb.toNatClampNeg d) 1 0 xc.toNatClampNeg d (0 : Int32).toNatClampNeg (xa + (1 : Int32)).toNatClampNeg xb.toNatClampNeg = FP.dadd 0 d := by
  rcases ha with rfl | rfl | rfl <;> rcases hb with rfl | rfl | rfl <;> rcases hc with rfl | rfl | rfl <;> rfl
theorem own_d5b (ha : xa = 0 ∨ xa = 1 ∨ xa = 2) (hb : xb = 0 ∨ xb = 1 ∨ xb = 2) : own_d1 (own_d1 (fun _ _ _ => (0 : UInt64)) 0 0 xa.toNatClampNeg d) 0 (xa + (1 : Int32)).toNatClampNeg xb.toNatClampNeg d (0 : Int32).toNatClampNeg (xa + (1 : Int32)).toNatClampNeg xb.toNatClampNeg = FP.dadd 0 d := by
  rcases ha with rfl | rfl | rfl <;> rcases hb with rfl | rfl | rfl <;> rfl
end Dgv
def Q0 (n0 : Nat) (v : Option Value) (h : Heap) (L : List Loc) : Prop := v = some (.int 1) ∧ Fr n0 L
theorem pd_0 : parseMethodDescriptor "([[I)V" = some ⟨[(.array (.array .int))], none⟩ := by decide +kernel
theorem pd_3 : parseMethodDescriptor "(IID)V" = some ⟨[.int, .int, .double], none⟩ := by decide +kernel
theorem pd_5 : parseMethodDescriptor "(III)D" = some ⟨[.int, .int, .int], some .double⟩ := by decide +kernel
theorem pd_6 : parseMethodDescriptor "(Lcom/example/muster/muster/core/MpdaPlan;D)V" = some ⟨[(.object "com/example/muster/muster/core/MpdaPlan"), .double], none⟩ := by decide +kernel
theorem pn_3 : plainName "com/example/muster/muster/solvers/PheromoneTowardPinLaw" = true := by first | (simp [plainName, overriddenIn]; done) | decide +kernel
theorem ef_0_aaaa (m : MethodId) (x0 : Int32) (x1 : Int32) (x2 : Int32) (x3 : Int32) : entryFrame m #[(.int x0), (.int x1), (.int x2), (.int x3)] maxLocals = mkF m 0 #[.val (.int x0), .val (.int x1), .val (.int x2), .val (.int x3), .unset, .unset, .unset, .unset, .unset, .unset, .unset, .unset, .unset, .unset, .unset, .unset, .unset, .unset, .unset, .unset, .unset, .unset, .unset, .unset, .unset] [] := by first | (simp [entryFrame, mkF, argsToLocals, Value.category, maxLocals]; done) | rfl
theorem rm0 (l : Launch) (Z : State) (a0 : Array Value) (hw : HW a0 Z) (ws : List Jvm.Cond) (p0 : Int32) (p1 : Int32) (p2 : Int32) (p3 : Int32) (h0 : Heap) (n0 : Nat) (Z0 : n0 ≤ h0.size) :
    MetFree l x (head1 (Jvm.Cond.code x code maxLocals ret :: ws) room_1) (fun a U => a = #[(.int p0), (.int p1), (.int p2), (.int p3)] ∧ Z.Warmed39 U.vm ∧ U.heap = h0) (fun _ _ _ _ _ => True) (fun _ U o U' => ∃ v L, o = .returned v ∧ Q0 n0 v U'.heap L ∧ FrameEnd U o U' L 72 256) := by
  refine MetFree.of_bodySF (plainFor_of_name pn_3) hisR ?_
  intro p e s m args below meth c s₁ Bd hml0 hP hK
  obtain ⟨rfl, hZ, hh⟩ := hP
  have hx := Bd.exec
  have hby := Bd.bytes
  have hml : c.maxLocals = 25 := hml0
  have hown : s.vm.findClass "com/example/muster/muster/solvers/PheromoneTowardPinLaw" = some m.cls := findClass_of_methodNamed Bd.named
  have X0 : Stand p l e room_1 s m #[(.int p0), (.int p1), (.int p2), (.int p3)] below meth c s₁ [] 0 0 := Stand.of_body Bd
  have e0 : s₁.heap = h0 := by rw [← hh, Bd.state]; rfl
  have N0 := Fr.nil n0
  refine Go.into (P := fun oo uu => ∃ v L, oo = .returned v ∧ Q0 n0 v uu.heap L ∧ FrameEnd s oo uu L 72 256) (ef_0_aaaa m p0 p1 p2 p3) ?_
  show Go p e below _ (s₁.setTop (mkF m 0 #[sI p0, sI p1, sI p2, sI p3, .unset, .unset, .unset, .unset, .unset, .unset, .unset, .unset, .unset, .unset, .unset, .unset, .unset, .unset, .unset, .unset, .unset, .unset, .unset, .unset, .unset] []))
  refine Vi (s₁.setTop (mkF m 45 #[sI p0, sI p1, sI p2, sI p3, sI (p0 &&& (1 : Int32)), sI ((((p0.toUInt32 >>> ((1 : Int32) &&& 31).toUInt32).toInt32) &&& (3 : Int32)) - (1 : Int32)), sI ((((p0.toUInt32 >>> ((3 : Int32) &&& 31).toUInt32).toInt32) &&& (3 : Int32)) % (3 : Int32)), sI ((p1 &&& (2147483647 : Int32)) % (3 : Int32)), sI (((((p1 &&& (2147483647 : Int32)) % (3 : Int32)) + (1 : Int32)) + (((p1.toUInt32 >>> ((2 : Int32) &&& 31).toUInt32).toInt32) &&& (1 : Int32))) % (3 : Int32)), .unset, .unset, .unset, .unset, .unset, .unset, .unset, .unset, .unset, .unset, .unset, .unset, .unset, .unset, .unset, .unset] [])) (fun tZ kZ => ?_) ?_
  · refine XS.iloadN X0.here hx rfl (hb hby at_0) rfl ?_
    refine XS.iconst X0.here hx rfl (hb hby at_1) ?_
    refine XS.iand X0.here hx rfl (hb hby at_2) rfl ?_
    refine XS.istore X0.here hx rfl (hb hby at_3) rfl (l' := #[sI p0, sI p1, sI p2, sI p3, sI (p0 &&& (1 : Int32)), .unset, .unset, .unset, .unset, .unset, .unset, .unset, .unset, .unset, .unset, .unset, .unset, .unset, .unset, .unset, .unset, .unset, .unset, .unset, .unset]) rfl ?_
    refine XS.iloadN X0.here hx rfl (hb hby at_5) rfl ?_
    refine XS.iconst X0.here hx rfl (hb hby at_6) ?_
    refine XS.iushr X0.here hx rfl (hb hby at_7) rfl ?_
    refine XS.iconst X0.here hx rfl (hb hby at_8) ?_
    refine XS.iand X0.here hx rfl (hb hby at_9) rfl ?_
    refine XS.iconst X0.here hx rfl (hb hby at_10) ?_
    refine XS.isub X0.here hx rfl (hb hby at_11) rfl ?_
    refine XS.istore X0.here hx rfl (hb hby at_12) rfl (l' := #[sI p0, sI p1, sI p2, sI p3, sI (p0 &&& (1 : Int32)), sI ((((p0.toUInt32 >>> ((1 : Int32) &&& 31).toUInt32).toInt32) &&& (3 : Int32)) - (1 : Int32)), .unset, .unset, .unset, .unset, .unset, .unset, .unset, .unset, .unset, .unset, .unset, .unset, .unset, .unset, .unset, .unset, .unset, .unset, .unset]) rfl ?_
    refine XS.iloadN X0.here hx rfl (hb hby at_14) rfl ?_
    refine XS.iconst X0.here hx rfl (hb hby at_15) ?_
    refine XS.iushr X0.here hx rfl (hb hby at_16) rfl ?_
    refine XS.iconst X0.here hx rfl (hb hby at_17) ?_
    refine XS.iand X0.here hx rfl (hb hby at_18) rfl ?_
    refine XS.iconst X0.here hx rfl (hb hby at_19) ?_
    refine iremM X0 hx rfl (hb hby at_20) rfl (by decide) ?_
    refine XS.istore X0.here hx rfl (hb hby at_21) rfl (l' := #[sI p0, sI p1, sI p2, sI p3, sI (p0 &&& (1 : Int32)), sI ((((p0.toUInt32 >>> ((1 : Int32) &&& 31).toUInt32).toInt32) &&& (3 : Int32)) - (1 : Int32)), sI ((((p0.toUInt32 >>> ((3 : Int32) &&& 31).toUInt32).toInt32) &&& (3 : Int32)) % (3 : Int32)), .unset, .unset, .unset, .unset, .unset, .unset, .unset, .unset, .unset, .unset, .unset, .unset, .unset, .unset, .unset, .unset, .unset, .unset]) rfl ?_
    refine XS.iloadN X0.here hx rfl (hb hby at_23) rfl ?_
    refine X0.ldcInt hx hown (wz hZ hw 0 rfl) (g := (mkF m 24 #[sI p0, sI p1, sI p2, sI p3, sI (p0 &&& (1 : Int32)), sI ((((p0.toUInt32 >>> ((1 : Int32) &&& 31).toUInt32).toInt32) &&& (3 : Int32)) - (1 : Int32)), sI ((((p0.toUInt32 >>> ((3 : Int32) &&& 31).toUInt32).toInt32) &&& (3 : Int32)) % (3 : Int32)), .unset, .unset, .unset, .unset, .unset, .unset, .unset, .unset, .unset, .unset, .unset, .unset, .unset, .unset, .unset, .unset, .unset, .unset] [(.int p1)])) rfl (hb hby at_24) _ ?_
    refine XS.iand X0.here hx rfl (hb hby at_26) rfl ?_
    refine XS.iconst X0.here hx rfl (hb hby at_27) ?_
    refine iremM X0 hx rfl (hb hby at_28) rfl (by decide) ?_
    refine XS.istore X0.here hx rfl (hb hby at_29) rfl (l' := #[sI p0, sI p1, sI p2, sI p3, sI (p0 &&& (1 : Int32)), sI ((((p0.toUInt32 >>> ((1 : Int32) &&& 31).toUInt32).toInt32) &&& (3 : Int32)) - (1 : Int32)), sI ((((p0.toUInt32 >>> ((3 : Int32) &&& 31).toUInt32).toInt32) &&& (3 : Int32)) % (3 : Int32)), sI ((p1 &&& (2147483647 : Int32)) % (3 : Int32)), .unset, .unset, .unset, .unset, .unset, .unset, .unset, .unset, .unset, .unset, .unset, .unset, .unset, .unset, .unset, .unset, .unset]) rfl ?_
    refine XS.iload X0.here hx rfl (hb hby at_31) rfl ?_
    refine XS.iconst X0.here hx rfl (hb hby at_33) ?_
    refine XS.iadd X0.here hx rfl (hb hby at_34) rfl ?_
    refine XS.iloadN X0.here hx rfl (hb hby at_35) rfl ?_
    refine XS.iconst X0.here hx rfl (hb hby at_36) ?_
    refine XS.iushr X0.here hx rfl (hb hby at_37) rfl ?_
    refine XS.iconst X0.here hx rfl (hb hby at_38) ?_
    refine XS.iand X0.here hx rfl (hb hby at_39) rfl ?_
    refine XS.iadd X0.here hx rfl (hb hby at_40) rfl ?_
    refine XS.iconst X0.here hx rfl (hb hby at_41) ?_
    refine iremM X0 hx rfl (hb hby at_42) rfl (by decide) ?_
    refine XS.istore X0.here hx rfl (hb hby at_43) rfl (l' := #[sI p0, sI p1, sI p2, sI p3, sI (p0 &&& (1 : Int32)), sI ((((p0.toUInt32 >>> ((1 : Int32) &&& 31).toUInt32).toInt32) &&& (3 : Int32)) - (1 : Int32)), sI ((((p0.toUInt32 >>> ((3 : Int32) &&& 31).toUInt32).toInt32) &&& (3 : Int32)) % (3 : Int32)), sI ((p1 &&& (2147483647 : Int32)) % (3 : Int32)), sI (((((p1 &&& (2147483647 : Int32)) % (3 : Int32)) + (1 : Int32)) + (((p1.toUInt32 >>> ((2 : Int32) &&& 31).toUInt32).toInt32) &&& (1 : Int32))) % (3 : Int32)), .unset, .unset, .unset, .unset, .unset, .unset, .unset, .unset, .unset, .unset, .unset, .unset, .unset, .unset, .unset, .unset]) rfl ?_
    exact kZ
  obtain ⟨xb, e_xb⟩ : ∃ z, z = (((((p1 &&& (2147483647 : Int32)) % (3 : Int32)) + (1 : Int32)) + (((p1.toUInt32 >>> ((2 : Int32) &&& 31).toUInt32).toInt32) &&& (1 : Int32))) % (3 : Int32)) := ⟨_, rfl⟩
  rw [← e_xb]
  obtain ⟨xa, e_xa⟩ : ∃ z, z = ((p1 &&& (2147483647 : Int32)) % (3 : Int32)) := ⟨_, rfl⟩
  rw [← e_xa]
  obtain ⟨tt, e_tt⟩ : ∃ z, z = ((((p0.toUInt32 >>> ((3 : Int32) &&& 31).toUInt32).toInt32) &&& (3 : Int32)) % (3 : Int32)) := ⟨_, rfl⟩
  rw [← e_tt]
  obtain ⟨ff, e_ff⟩ : ∃ z, z = ((((p0.toUInt32 >>> ((1 : Int32) &&& 31).toUInt32).toInt32) &&& (3 : Int32)) - (1 : Int32)) := ⟨_, rfl⟩
  rw [← e_ff]
  obtain ⟨rr, e_rr⟩ : ∃ z, z = (p0 &&& (1 : Int32)) := ⟨_, rfl⟩
  rw [← e_rr]
  show Go p e below _ (s₁.setTop (mkF m 45 #[sI p0, sI p1, sI p2, sI p3, sI rr, sI ff, sI tt, sI xa, sI xb, .unset, .unset, .unset, .unset, .unset, .unset, .unset, .unset, .unset, .unset, .unset, .unset, .unset, .unset, .unset, .unset] []))
  have ha : xa = 0 ∨ xa = 1 ∨ xa = 2 := by rw [e_xa]; exact own_x _
  have hb_ : xb = 0 ∨ xb = 1 ∨ xb = 2 := by rw [e_xb]; exact own_y (own_x _) (own_bit1 _)
  have ht : tt = 0 ∨ tt = 1 ∨ tt = 2 := by rw [e_tt]; exact own_t3 _
  have hf : ff = -1 ∨ ff = 0 ∨ ff = 1 ∨ ff = 2 := by rw [e_ff]; exact own_f4 _
  have hr : rr = 0 ∨ rr = 1 := by rw [e_rr]; exact own_bit1 _
  refine Vi (s₁.setTop (mkF m 60 #[sI p0, sI p1, sI p2, sI p3, sI rr, sI ff, sI tt, sI xa, sI xb, sI (if (((p1.toUInt32 >>> ((5 : Int32) &&& 31).toUInt32).toInt32) &&& (1 : Int32)) = (0 : Int32) then (0 : Int32) else (1 : Int32)), .unset, .unset, .unset, .unset, .unset, .unset, .unset, .unset, .unset, .unset, .unset, .unset, .unset, .unset, .unset] [])) (fun tZ kZ => ?_) ?_
  · refine XS.iloadN X0.here hx rfl (hb hby at_45) rfl ?_
    refine XS.iconst X0.here hx rfl (hb hby at_46) ?_
    refine XS.iushr X0.here hx rfl (hb hby at_47) rfl ?_
    refine XS.iconst X0.here hx rfl (hb hby at_48) ?_
    refine XS.iand X0.here hx rfl (hb hby at_49) rfl ?_
    have sg50 : Steps p.tables e below (s₁.setTop (mkF m 58 #[sI p0, sI p1, sI p2, sI p3, sI rr, sI ff, sI tt, sI xa, sI xb, .unset, .unset, .unset, .unset, .unset, .unset, .unset, .unset, .unset, .unset, .unset, .unset, .unset, .unset, .unset, .unset] [(.int (if (((p1.toUInt32 >>> ((5 : Int32) &&& 31).toUInt32).toInt32) &&& (1 : Int32)) = (0 : Int32) then (0 : Int32) else (1 : Int32)))])) tZ → Steps p.tables e below (s₁.setTop (mkF m 50 #[sI p0, sI p1, sI p2, sI p3, sI rr, sI ff, sI tt, sI xa, sI xb, .unset, .unset, .unset, .unset, .unset, .unset, .unset, .unset, .unset, .unset, .unset, .unset, .unset, .unset, .unset, .unset] [(.int (((p1.toUInt32 >>> ((5 : Int32) &&& 31).toUInt32).toInt32) &&& (1 : Int32)))])) tZ := by
      intro kj
      by_cases hc50 : (((p1.toUInt32 >>> ((5 : Int32) &&& 31).toUInt32).toInt32) &&& (1 : Int32)) = (0 : Int32)
      · try simp only [if_pos hc50] at kj
        refine XS.ifYes X0.here hx rfl (pc0 := 50) (pc' := 57) rfl (hb hby at_50) rfl ((if0 _ _).trans (teq hc50).1) (by decide) (by decide) ?_
        refine XS.iconst X0.here hx rfl (hb hby at_57) ?_
        exact kj
      · try simp only [if_neg hc50] at kj
        refine XS.ifNo X0.here hx rfl (hb hby at_50) rfl ((if0 _ _).trans (feq hc50).1) ?_
        refine XS.iconst X0.here hx rfl (hb hby at_53) ?_
        refine XS.goto X0.here hx rfl (pc0 := 54) (pc' := 58) rfl (hb hby at_54) (by decide) (by decide) ?_
        exact kj
    refine sg50 ?_
    show Steps p.tables e below (s₁.setTop (mkF m 58 #[sI p0, sI p1, sI p2, sI p3, sI rr, sI ff, sI tt, sI xa, sI xb, .unset, .unset, .unset, .unset, .unset, .unset, .unset, .unset, .unset, .unset, .unset, .unset, .unset, .unset, .unset, .unset] [(.int (if (((p1.toUInt32 >>> ((5 : Int32) &&& 31).toUInt32).toInt32) &&& (1 : Int32)) = (0 : Int32) then (0 : Int32) else (1 : Int32)))])) _
    refine XS.istore X0.here hx rfl (hb hby at_58) rfl (l' := #[sI p0, sI p1, sI p2, sI p3, sI rr, sI ff, sI tt, sI xa, sI xb, sI (if (((p1.toUInt32 >>> ((5 : Int32) &&& 31).toUInt32).toInt32) &&& (1 : Int32)) = (0 : Int32) then (0 : Int32) else (1 : Int32)), .unset, .unset, .unset, .unset, .unset, .unset, .unset, .unset, .unset, .unset, .unset, .unset, .unset, .unset, .unset]) rfl ?_
    exact kZ
  obtain ⟨hz, e_hz⟩ : ∃ z, z = (if (((p1.toUInt32 >>> ((5 : Int32) &&& 31).toUInt32).toInt32) &&& (1 : Int32)) = (0 : Int32) then (0 : Int32) else (1 : Int32)) := ⟨_, rfl⟩
  rw [← e_hz]
  show Go p e below _ (s₁.setTop (mkF m 60 #[sI p0, sI p1, sI p2, sI p3, sI rr, sI ff, sI tt, sI xa, sI xb, sI hz, .unset, .unset, .unset, .unset, .unset, .unset, .unset, .unset, .unset, .unset, .unset, .unset, .unset, .unset, .unset] []))
  refine Vi (s₁.setTop (mkF m 69 #[sI p0, sI p1, sI p2, sI p3, sI rr, sI ff, sI tt, sI xa, sI xb, sI hz, sI ((((p1.toUInt32 >>> ((3 : Int32) &&& 31).toUInt32).toInt32) &&& (3 : Int32)) % (3 : Int32)), .unset, .unset, .unset, .unset, .unset, .unset, .unset, .unset, .unset, .unset, .unset, .unset, .unset, .unset] [])) (fun tZ kZ => ?_) ?_
  · refine XS.iloadN X0.here hx rfl (hb hby at_60) rfl ?_
    refine XS.iconst X0.here hx rfl (hb hby at_61) ?_
    refine XS.iushr X0.here hx rfl (hb hby at_62) rfl ?_
    refine XS.iconst X0.here hx rfl (hb hby at_63) ?_
    refine XS.iand X0.here hx rfl (hb hby at_64) rfl ?_
    refine XS.iconst X0.here hx rfl (hb hby at_65) ?_
    refine iremM X0 hx rfl (hb hby at_66) rfl (by decide) ?_
    refine XS.istore X0.here hx rfl (hb hby at_67) rfl (l' := #[sI p0, sI p1, sI p2, sI p3, sI rr, sI ff, sI tt, sI xa, sI xb, sI hz, sI ((((p1.toUInt32 >>> ((3 : Int32) &&& 31).toUInt32).toInt32) &&& (3 : Int32)) % (3 : Int32)), .unset, .unset, .unset, .unset, .unset, .unset, .unset, .unset, .unset, .unset, .unset, .unset, .unset, .unset]) rfl ?_
    exact kZ
  obtain ⟨xc, e_xc⟩ : ∃ z, z = ((((p1.toUInt32 >>> ((3 : Int32) &&& 31).toUInt32).toInt32) &&& (3 : Int32)) % (3 : Int32)) := ⟨_, rfl⟩
  rw [← e_xc]
  show Go p e below _ (s₁.setTop (mkF m 69 #[sI p0, sI p1, sI p2, sI p3, sI rr, sI ff, sI tt, sI xa, sI xb, sI hz, sI xc, .unset, .unset, .unset, .unset, .unset, .unset, .unset, .unset, .unset, .unset, .unset, .unset, .unset, .unset] []))
  have hc_ : xc = 0 ∨ xc = 1 ∨ xc = 2 := by rw [e_xc]; exact own_t3 _
  refine Vi (s₁.setTop (mkF m 83 #[sI p0, sI p1, sI p2, sI p3, sI rr, sI ff, sI tt, sI xa, sI xb, sI hz, sI xc, .val (.double (FP.i2d (p2 &&& (1048575 : Int32)))), .second, .val (.double (FP.i2d (p3 &&& (1048575 : Int32)))), .second, .unset, .unset, .unset, .unset, .unset, .unset, .unset, .unset, .unset, .unset] [])) (fun tZ kZ => ?_) ?_
  · refine XS.iloadN X0.here hx rfl (hb hby at_69) rfl ?_
    refine X0.ldcInt hx hown (wz hZ hw 1 rfl) (g := (mkF m 70 #[sI p0, sI p1, sI p2, sI p3, sI rr, sI ff, sI tt, sI xa, sI xb, sI hz, sI xc, .unset, .unset, .unset, .unset, .unset, .unset, .unset, .unset, .unset, .unset, .unset, .unset, .unset, .unset] [(.int p2)])) rfl (hb hby at_70) _ ?_
    refine XS.iand X0.here hx rfl (hb hby at_72) rfl ?_
    refine XS.i2dS X0.here hx rfl (hb hby at_73) rfl rfl ?_
    refine XS.dstore X0.here hx rfl (hb hby at_74) rfl (l' := #[sI p0, sI p1, sI p2, sI p3, sI rr, sI ff, sI tt, sI xa, sI xb, sI hz, sI xc, .val (.double (FP.i2d (p2 &&& (1048575 : Int32)))), .second, .unset, .unset, .unset, .unset, .unset, .unset, .unset, .unset, .unset, .unset, .unset, .unset]) rfl ?_
    refine XS.iloadN X0.here hx rfl (hb hby at_76) rfl ?_
    refine X0.ldcInt hx hown (wz hZ hw 1 rfl) (g := (mkF m 77 #[sI p0, sI p1, sI p2, sI p3, sI rr, sI ff, sI tt, sI xa, sI xb, sI hz, sI xc, .val (.double (FP.i2d (p2 &&& (1048575 : Int32)))), .second, .unset, .unset, .unset, .unset, .unset, .unset, .unset, .unset, .unset, .unset, .unset, .unset] [(.int p3)])) rfl (hb hby at_77) _ ?_
    refine XS.iand X0.here hx rfl (hb hby at_79) rfl ?_
    refine XS.i2dS X0.here hx rfl (hb hby at_80) rfl rfl ?_
    refine XS.dstore X0.here hx rfl (hb hby at_81) rfl (l' := #[sI p0, sI p1, sI p2, sI p3, sI rr, sI ff, sI tt, sI xa, sI xb, sI hz, sI xc, .val (.double (FP.i2d (p2 &&& (1048575 : Int32)))), .second, .val (.double (FP.i2d (p3 &&& (1048575 : Int32)))), .second, .unset, .unset, .unset, .unset, .unset, .unset, .unset, .unset, .unset, .unset]) rfl ?_
    exact kZ
  obtain ⟨dS, e_dS⟩ : ∃ z, z = (FP.i2d (p2 &&& (1048575 : Int32))) := ⟨_, rfl⟩
  rw [← e_dS]
  obtain ⟨dM, e_dM⟩ : ∃ z, z = (FP.i2d (p3 &&& (1048575 : Int32))) := ⟨_, rfl⟩
  rw [← e_dM]
  show Go p e below _ (s₁.setTop (mkF m 83 #[sI p0, sI p1, sI p2, sI p3, sI rr, sI ff, sI tt, sI xa, sI xb, sI hz, sI xc, .val (.double dS), .second, .val (.double dM), .second, .unset, .unset, .unset, .unset, .unset, .unset, .unset, .unset, .unset, .unset] []))
  have hS : Jvm.Free.Fl.Mag64 1060 dS := by rw [e_dS]; exact (Jvm.Free.Fl.i2d_mag _).mono (by decide)
  have hM : Jvm.Free.Fl.Mag64 1060 dM := by rw [e_dM]; exact (Jvm.Free.Fl.i2d_mag _).mono (by decide)
  have zM : FP.dadd 0 dM = dM := by rw [e_dM]; exact own_z _
  have nS : Jvm.Free.Fl.NoNaN64 dS := (hS.fin (by decide)).noNaN
  refine Vi (s₁.setTop (mkF m 85 #[sI p0, sI p1, sI p2, sI p3, sI rr, sI ff, sI tt, sI xa, sI xb, sI hz, sI xc, .val (.double dS), .second, .val (.double dM), .second, .unset, .unset, .unset, .unset, .unset, .unset, .unset, .unset, .unset, .unset] [(.int hz)])) (fun tZ kZ => ?_) ?_
  · refine XS.iload X0.here hx rfl (hb hby at_83) rfl ?_
    exact kZ
  by_cases hc85 : hz = (0 : Int32)
  · refine Vi (s₁.setTop (mkF m 99 #[sI p0, sI p1, sI p2, sI p3, sI rr, sI ff, sI tt, sI xa, sI xb, sI hz, sI xc, .val (.double dS), .second, .val (.double dM), .second, .unset, .unset, .unset, .unset, .unset, .unset, .unset, .unset, .unset, .unset] [])) (fun tZ kZ => ?_) ?_
    · show Steps p.tables e below (s₁.setTop (mkF m 85 #[sI p0, sI p1, sI p2, sI p3, sI rr, sI ff, sI tt, sI xa, sI xb, sI hz, sI xc, .val (.double dS), .second, .val (.double dM), .second, .unset, .unset, .unset, .unset, .unset, .unset, .unset, .unset, .unset, .unset] [(.int hz)])) _
      refine XS.ifYes X0.here hx rfl (pc0 := 85) (pc' := 99) rfl (hb hby at_85) rfl ((if0 _ _).trans (teq hc85).1) (by decide) (by decide) ?_
      exact kZ
    refine Vi (s₁.setTop (mkF m 100 #[sI p0, sI p1, sI p2, sI p3, sI rr, sI ff, sI tt, sI xa, sI xb, sI hz, sI xc, .val (.double dS), .second, .val (.double dM), .second, .unset, .unset, .unset, .unset, .unset, .unset, .unset, .unset, .unset, .unset] [(.int 0)])) (fun tZ kZ => ?_) ?_
    · refine XS.iconst X0.here hx rfl (hb hby at_99) ?_
      exact kZ
    obtain ⟨T1, h1, k1, X1, e1, E1, A1, B1, st1⟩ := newPE X0 hx hZ (wq hw 2 rfl) e0 (g := (mkF m 100 #[sI p0, sI p1, sI p2, sI p3, sI rr, sI ff, sI tt, sI xa, sI xb, sI hz, sI xc, .val (.double dS), .second, .val (.double dM), .second, .unset, .unset, .unset, .unset, .unset, .unset, .unset, .unset, .unset, .unset] [(.int 0)])) rfl (hb hby at_100) rfl (by decide) (cap := 0) (by decide) (by decide) (by decide) (by decide) (ad := "[I") rfl
    obtain ⟨b1, g1⟩ : ∃ z, z = h0.size := ⟨_, rfl⟩
    rw [← g1] at A1 B1 st1
    have g_b1 : n0 ≤ b1 := Nat.le_trans Z0 (Nat.le_of_eq g1.symm)
    have sz_b1 : h0.size ≤ b1 := Nat.le_trans ((Keep.refl h0 [])).1 (Nat.le_of_eq g1.symm)
    have K1 : Keep h0 h1 [] := (Keep.refl h0 []).ext E1
    have Z1 := Nat.le_trans Z0 E1.1
    have V1 : AV Z h1 b1 .int 0 (fun k => .int ((fun _ => (0 : Int32)) k)) := by have q := AV.new A1; exact q
    refine Go.via st1 ?_
    refine Vi (T1.setTop (mkF m 105 #[sI p0, sI p1, sI p2, sI p3, sI rr, sI ff, sI tt, sI xa, sI xb, sI hz, sI xc, .val (.double dS), .second, .val (.double dM), .second, sR b1, .unset, .unset, .unset, .unset, .unset, .unset, .unset, .unset, .unset] [(.int 2)])) (fun tZ kZ => ?_) ?_
    · refine XS.astore X1.here hx rfl (hb hby at_102) rfl rfl (l' := #[sI p0, sI p1, sI p2, sI p3, sI rr, sI ff, sI tt, sI xa, sI xb, sI hz, sI xc, .val (.double dS), .second, .val (.double dM), .second, sR b1, .unset, .unset, .unset, .unset, .unset, .unset, .unset, .unset, .unset]) rfl ?_
      refine XS.iconst X1.here hx rfl (hb hby at_104) ?_
      exact kZ
    obtain ⟨T3, h3, k3, X3, e3, E3, A3, B3, O3, st3⟩ := newRA X1 hx hZ hown (C := "[I") (ty := .int) rfl (wq hw 3 rfl) (wq hw 4 rfl) e1 (g := (mkF m 105 #[sI p0, sI p1, sI p2, sI p3, sI rr, sI ff, sI tt, sI xa, sI xb, sI hz, sI xc, .val (.double dS), .second, .val (.double dM), .second, sR b1, .unset, .unset, .unset, .unset, .unset, .unset, .unset, .unset, .unset] [(.int 2)])) rfl (hb hby at_105) rfl (by decide) (cap := 2) (by decide) (by decide) (by decide) (by decide) (ad := "[[I") rfl
    obtain ⟨b3, g3⟩ : ∃ z, z = h1.size := ⟨_, rfl⟩
    rw [← g3] at A3 B3 st3
    have g_b3 : n0 ≤ b3 := Nat.le_trans Z1 (Nat.le_of_eq g3.symm)
    have sz_b3 : h0.size ≤ b3 := Nat.le_trans (K1).1 (Nat.le_of_eq g3.symm)
    have ne_b1_b3 : b1 ≠ b3 := Nat.ne_of_lt (Nat.lt_of_lt_of_le B1.lt (Nat.le_of_eq g3.symm))
    have lt_b1_b3 : (b1 : Nat) < b3 := Nat.lt_of_lt_of_le B1.lt (Nat.le_of_eq g3.symm)
    have c4_1 := B1.ext E3
    have c4_2 := V1.ext E3
    have K3 : Keep h0 h3 [] := K1.ext E3
    have Z3 := Nat.le_trans Z1 E3.1
    have V3 : AV Z h3 b3 (.array .int) 2 (fun _ => Value.null) := by have q := AV.new A3; exact q
    have OV3 : OV Z h3 b3 .int "[I" := ⟨_, A3.1, O3⟩
    refine Go.via st3 ?_
    refine Vi (T3.setTop (mkF m 111 #[sI p0, sI p1, sI p2, sI p3, sI rr, sI ff, sI tt, sI xa, sI xb, sI hz, sI xc, .val (.double dS), .second, .val (.double dM), .second, sR b1, .unset, .unset, .unset, .unset, .unset, .unset, .unset, .unset, .unset] [(.int 2), (.int 0), (.ref b3), (.ref b3)])) (fun tZ kZ => ?_) ?_
    · refine XS.dup X3.here hx rfl (hb hby at_108) rfl rfl ?_
      refine XS.iconst X3.here hx rfl (hb hby at_109) ?_
      refine XS.iconst X3.here hx rfl (hb hby at_110) ?_
      exact kZ
    obtain ⟨T5, h5, k5, X5, e5, E5, A5, B5, st5⟩ := newPE X3 hx hZ (wq hw 2 rfl) e3 (g := (mkF m 111 #[sI p0, sI p1, sI p2, sI p3, sI rr, sI ff, sI tt, sI xa, sI xb, sI hz, sI xc, .val (.double dS), .second, .val (.double dM), .second, sR b1, .unset, .unset, .unset, .unset, .unset, .unset, .unset, .unset, .unset] [(.int 2), (.int 0), (.ref b3), (.ref b3)])) rfl (hb hby at_111) rfl (by decide) (cap := 2) (by decide) (by decide) (by decide) (by decide) (ad := "[I") rfl
    obtain ⟨b5, g5⟩ : ∃ z, z = h3.size := ⟨_, rfl⟩
    rw [← g5] at A5 B5 st5
    have g_b5 : n0 ≤ b5 := Nat.le_trans Z3 (Nat.le_of_eq g5.symm)
    have sz_b5 : h0.size ≤ b5 := Nat.le_trans (K3).1 (Nat.le_of_eq g5.symm)
    have ne_b1_b5 : b1 ≠ b5 := Nat.ne_of_lt (Nat.lt_of_lt_of_le c4_1.lt (Nat.le_of_eq g5.symm))
    have ne_b3_b5 : b3 ≠ b5 := Nat.ne_of_lt (Nat.lt_of_lt_of_le V3.lt (Nat.le_of_eq g5.symm))
    have lt_b3_b5 : (b3 : Nat) < b5 := Nat.lt_of_lt_of_le V3.lt (Nat.le_of_eq g5.symm)
    have lt_b1_b5 : (b1 : Nat) < b5 := Nat.lt_of_lt_of_le c4_1.lt (Nat.le_of_eq g5.symm)
    have c6_1 := c4_1.ext E5
    have c6_2 := c4_2.ext E5
    have c6_4 := V3.ext E5
    have c6_5 := B3.ext E5
    have c6_6 := OV3.ext E5
    have K5 : Keep h0 h5 [] := K3.ext E5
    have Z5 := Nat.le_trans Z3 E5.1
    have V5 : AV Z h5 b5 .int 2 (fun k => .int ((fun _ => (0 : Int32)) k)) := by have q := AV.new A5; exact q
    refine Go.via st5 ?_
    refine Vi (T5.setTop (mkF m 117 #[sI p0, sI p1, sI p2, sI p3, sI rr, sI ff, sI tt, sI xa, sI xb, sI hz, sI xc, .val (.double dS), .second, .val (.double dM), .second, sR b1, .unset, .unset, .unset, .unset, .unset, .unset, .unset, .unset, .unset] [(.int xa), (.int 0), (.ref b5), (.ref b5), (.int 0), (.ref b3), (.ref b3)])) (fun tZ kZ => ?_) ?_
    · refine XS.dup X5.here hx rfl (hb hby at_113) rfl rfl ?_
      refine XS.iconst X5.here hx rfl (hb hby at_114) ?_
      refine XS.iload X5.here hx rfl (hb hby at_115) rfl ?_
      exact kZ
    obtain ⟨T7, h7, X7, e7, W7, V7, st7⟩ := AV.iastore V5 X5 hx hZ e5 (j := (0 : Int32)) (by decide) (Ls := #[sI p0, sI p1, sI p2, sI p3, sI rr, sI ff, sI tt, sI xa, sI xb, sI hz, sI xc, .val (.double dS), .second, .val (.double dM), .second, sR b1, .unset, .unset, .unset, .unset, .unset, .unset, .unset, .unset, .unset]) (rest := [(.ref b5), (.int 0), (.ref b3), (.ref b3)]) (hb hby at_117) (x := xa)
    have N7 := Fr.snoc X7 N0 g_b5
    have c8_1 := c6_1.wr W7
    have c8_2 := c6_2.other W7 ne_b1_b5
    have c8_4 := c6_4.other W7 ne_b3_b5
    have c8_5 := c6_5.wr W7
    have c8_6 := c6_6.wr W7
    have c8_8 := B5.wr W7
    have K7 : Keep h0 h7 [] := K5.wr W7 (Or.inr sz_b5)
    have Z7 := Nat.le_trans Z5 (Keep.of_wr W7).1
    refine Go.via st7 ?_
    refine Vi (T7.setTop (mkF m 122 #[sI p0, sI p1, sI p2, sI p3, sI rr, sI ff, sI tt, sI xa, sI xb, sI hz, sI xc, .val (.double dS), .second, .val (.double dM), .second, sR b1, .unset, .unset, .unset, .unset, .unset, .unset, .unset, .unset, .unset] [(.int xb), (.int 1), (.ref b5), (.ref b5), (.int 0), (.ref b3), (.ref b3)])) (fun tZ kZ => ?_) ?_
    · refine XS.dup X7.here hx rfl (hb hby at_118) rfl rfl ?_
      refine XS.iconst X7.here hx rfl (hb hby at_119) ?_
      refine XS.iload X7.here hx rfl (hb hby at_120) rfl ?_
      exact kZ
    obtain ⟨T9, h9, X9, e9, W9, V9, st9⟩ := AV.iastore V7 X7 hx hZ e7 (j := (1 : Int32)) (by decide) (Ls := #[sI p0, sI p1, sI p2, sI p3, sI rr, sI ff, sI tt, sI xa, sI xb, sI hz, sI xc, .val (.double dS), .second, .val (.double dM), .second, sR b1, .unset, .unset, .unset, .unset, .unset, .unset, .unset, .unset, .unset]) (rest := [(.ref b5), (.int 0), (.ref b3), (.ref b3)]) (hb hby at_122) (x := xb)
    have N9 := Fr.snoc X9 N7 g_b5
    have c10_1 := c8_1.wr W9
    have c10_2 := c8_2.other W9 ne_b1_b5
    have c10_4 := c8_4.other W9 ne_b3_b5
    have c10_5 := c8_5.wr W9
    have c10_6 := c8_6.wr W9
    have c10_8 := c8_8.wr W9
    have K9 : Keep h0 h9 [] := K7.wr W9 (Or.inr sz_b5)
    have Z9 := Nat.le_trans Z7 (Keep.of_wr W9).1
    refine Go.via st9 ?_
    obtain ⟨T11, h11, X11, e11, W11, V11, st11⟩ := AV.aastore c10_4 rfl (OV.sto c10_6 c10_4 (Ins.self c10_8)) X9 hx hZ e9 (j := (0 : Int32)) (by decide) (Ls := #[sI p0, sI p1, sI p2, sI p3, sI rr, sI ff, sI tt, sI xa, sI xb, sI hz, sI xc, .val (.double dS), .second, .val (.double dM), .second, sR b1, .unset, .unset, .unset, .unset, .unset, .unset, .unset, .unset, .unset]) (rest := [(.ref b3)]) (hb hby at_123) (v := (.ref b5))
    have N11 := Fr.snoc X11 N9 g_b3
    have c12_1 := c10_1.wr W11
    have c12_2 := c10_2.other W11 ne_b1_b3
    have c12_5 := c10_5.wr W11
    have c12_6 := c10_6.wr W11
    have c12_8 := c10_8.wr W11
    have c12_9 := V9.other W11 (Ne.symm ne_b3_b5)
    have K11 : Keep h0 h11 [] := K9.wr W11 (Or.inr sz_b3)
    have Z11 := Nat.le_trans Z9 (Keep.of_wr W11).1
    refine Go.via st11 ?_
    refine Vi (T11.setTop (mkF m 128 #[sI p0, sI p1, sI p2, sI p3, sI rr, sI ff, sI tt, sI xa, sI xb, sI hz, sI xc, .val (.double dS), .second, .val (.double dM), .second, sR b1, .unset, .unset, .unset, .unset, .unset, .unset, .unset, .unset, .unset] [(.ref b1), (.int 1), (.ref b3), (.ref b3)])) (fun tZ kZ => ?_) ?_
    · refine XS.dup X11.here hx rfl (hb hby at_124) rfl rfl ?_
      refine XS.iconst X11.here hx rfl (hb hby at_125) ?_
      refine XS.aload X11.here hx rfl (hb hby at_126) rfl rfl ?_
      exact kZ
    obtain ⟨T13, h13, X13, e13, W13, V13, st13⟩ := AV.aastore V11 rfl (OV.sto c12_6 V11 (Ins.self c12_1)) X11 hx hZ e11 (j := (1 : Int32)) (by decide) (Ls := #[sI p0, sI p1, sI p2, sI p3, sI rr, sI ff, sI tt, sI xa, sI xb, sI hz, sI xc, .val (.double dS), .second, .val (.double dM), .second, sR b1, .unset, .unset, .unset, .unset, .unset, .unset, .unset, .unset, .unset]) (rest := [(.ref b3)]) (hb hby at_128) (v := (.ref b1))
    have N13 := Fr.snoc X13 N11 g_b3
    have c14_1 := c12_1.wr W13
    have c14_2 := c12_2.other W13 ne_b1_b3
    have c14_5 := c12_5.wr W13
    have c14_6 := c12_6.wr W13
    have c14_8 := c12_8.wr W13
    have c14_9 := c12_9.other W13 (Ne.symm ne_b3_b5)
    have K13 : Keep h0 h13 [] := K11.wr W13 (Or.inr sz_b3)
    have Z13 := Nat.le_trans Z11 (Keep.of_wr W13).1
    refine Go.via st13 ?_
    refine Vi (T13.setTop (mkF m 131 #[sI p0, sI p1, sI p2, sI p3, sI rr, sI ff, sI tt, sI xa, sI xb, sI hz, sI xc, .val (.double dS), .second, .val (.double dM), .second, sR b1, sR b3, .unset, .unset, .unset, .unset, .unset, .unset, .unset, .unset] [])) (fun tZ kZ => ?_) ?_
    · refine XS.astore X13.here hx rfl (hb hby at_129) rfl rfl (l' := #[sI p0, sI p1, sI p2, sI p3, sI rr, sI ff, sI tt, sI xa, sI xb, sI hz, sI xc, .val (.double dS), .second, .val (.double dM), .second, sR b1, sR b3, .unset, .unset, .unset, .unset, .unset, .unset, .unset, .unset]) rfl ?_
      exact kZ
    obtain ⟨T15, h15, X15, e15, E15, A15, D15, -, st15⟩ := newO X13 hx hZ hown (wq hw 6 rfl) (wq hw 7 rfl) (wq hw 8 rfl) e13 (g := (mkF m 131 #[sI p0, sI p1, sI p2, sI p3, sI rr, sI ff, sI tt, sI xa, sI xb, sI hz, sI xc, .val (.double dS), .second, .val (.double dM), .second, sR b1, sR b3, .unset, .unset, .unset, .unset, .unset, .unset, .unset, .unset] [])) rfl (hb hby at_131) (by decide) (by decide)
    obtain ⟨b15, g15⟩ : ∃ z, z = h13.size := ⟨_, rfl⟩
    rw [← g15] at A15 D15 st15
    have g_b15 : n0 ≤ b15 := Nat.le_trans Z13 (Nat.le_of_eq g15.symm)
    have sz_b15 : h0.size ≤ b15 := Nat.le_trans (K13).1 (Nat.le_of_eq g15.symm)
    have ne_b1_b15 : b1 ≠ b15 := Nat.ne_of_lt (Nat.lt_of_lt_of_le c14_1.lt (Nat.le_of_eq g15.symm))
    have ne_b3_b15 : b3 ≠ b15 := Nat.ne_of_lt (Nat.lt_of_lt_of_le V13.lt (Nat.le_of_eq g15.symm))
    have ne_b5_b15 : b5 ≠ b15 := Nat.ne_of_lt (Nat.lt_of_lt_of_le c14_8.lt (Nat.le_of_eq g15.symm))
    have lt_b3_b15 : (b3 : Nat) < b15 := Nat.lt_of_lt_of_le V13.lt (Nat.le_of_eq g15.symm)
    have lt_b5_b15 : (b5 : Nat) < b15 := Nat.lt_of_lt_of_le c14_8.lt (Nat.le_of_eq g15.symm)
    have lt_b1_b15 : (b1 : Nat) < b15 := Nat.lt_of_lt_of_le c14_1.lt (Nat.le_of_eq g15.symm)
    have c16_1 := c14_1.ext E15
    have c16_2 := c14_2.ext E15
    have c16_4 := V13.ext E15
    have c16_5 := c14_5.ext E15
    have c16_6 := c14_6.ext E15
    have c16_8 := c14_8.ext E15
    have c16_9 := c14_9.ext E15
    have K15 : Keep h0 h15 [] := K13.ext E15
    have Z15 := Nat.le_trans Z13 E15.1
    have F15_routes : Fld Z h15 b15 "com/example/muster/muster/core/MpdaPlan" "routes" "[[I" .null := D15 (Or.inr (wq hw 17 rfl)) (ty := (.array (.array .int))) (by decide)
    refine Go.via st15 ?_
    refine Vi (T15.setTop (mkF m 137 #[sI p0, sI p1, sI p2, sI p3, sI rr, sI ff, sI tt, sI xa, sI xb, sI hz, sI xc, .val (.double dS), .second, .val (.double dM), .second, sR b1, sR b3, .unset, .unset, .unset, .unset, .unset, .unset, .unset, .unset] [(.ref b3), (.ref b15), (.ref b15)])) (fun tZ kZ => ?_) ?_
    · refine XS.dup X15.here hx rfl (hb hby at_134) rfl rfl ?_
      refine XS.aload X15.here hx rfl (hb hby at_135) rfl rfl ?_
      exact kZ
    have VR : AV Z h15 b3 (.array .int) 2 (own_b2 b5 b1) := c16_4.congr (fun j hj => by rcases (show j = 0 ∨ j = 1 by omega) with rfl | rfl <;> rfl)
    have VR0 : AV Z h15 b5 .int 2 (fun k => .int ((own_2 xa xb) k)) := c16_9.congr (fun j hj => by rcases (show j = 0 ∨ j = 1 by omega) with rfl | rfl <;> rfl)
    obtain ⟨_, _, ⟨T17, L17, k17, n17⟩, -, X17, ⟨Lc17, hQ17, l17, y17, z17⟩, st17⟩ := X15.specialBack hx (y := y1) rfl hown (wz hZ hw 9 rfl) (wz hZ hw 10 rfl) (wz hZ hw 11 rfl) (by decide) (backOf (W := 1) (rm1b l Z a0 hw [] b15 b3 b5 b1 xa xb h15 n0 Z15 A15 F15_routes g_b15 c16_8 c16_1 VR VR0 c16_2 (Ne.symm ne_b3_b15) (Ne.symm ne_b5_b15) (Ne.symm ne_b1_b15) ne_b3_b5 (Ne.symm ne_b1_b3) (Ne.symm ne_b1_b5)) hZ (wq hw 11 rfl) (wq hw 8 rfl) (by decide) (by decide)) (g := (mkF m 137 #[sI p0, sI p1, sI p2, sI p3, sI rr, sI ff, sI tt, sI xa, sI xb, sI hz, sI xc, .val (.double dS), .second, .val (.double dM), .second, sR b1, sR b3, .unset, .unset, .unset, .unset, .unset, .unset, .unset, .unset] [(.ref b3), (.ref b15), (.ref b15)])) rfl (by rw [hml]; rfl) (Steps.refl _) (a := b15) (argsL := [(.ref b3)]) (rest := [(.ref b15)]) (lenOf pd_0 rfl) rfl (leW rfl) (hb hby at_137) (fun _ _ => ⟨rfl, e15, (by decide : 0 + 1 + 1 + 1 + 1 + 3 ≤ _), (by decide : 0 + 0 + 2 + 2 + 1 + 6 ≤ _)⟩)
    dsimp only [Pt.U, Pt.locs, Pt.cells, Pt.slots] at X17 l17 y17 z17 st17 hQ17
    subst l17 y17 z17
    obtain ⟨rfl, N17q, b17_0, b17_1, b17_2, hz_b17_0, hz_b17_1, hz_b17_2, ne_b17_0_b17_1, ne_b17_0_b17_2, ne_b17_1_b17_2, Kq17, f17_0, f17_1, f17_2, f17_3, f17_4, f17_5, f17_6, f17_7, f17_8, f17_9, f17_10, f17_11, f17_12, f17_13⟩ := hQ17
    have g_b17_0 : n0 ≤ b17_0 := Nat.le_trans Z15 hz_b17_0
    have sz_b17_0 : h0.size ≤ b17_0 := Nat.le_trans (K15).1 hz_b17_0
    have ne_b1_b17_0 : b1 ≠ b17_0 := Nat.ne_of_lt (Nat.lt_of_lt_of_le c16_1.lt hz_b17_0)
    have ne_b3_b17_0 : b3 ≠ b17_0 := Nat.ne_of_lt (Nat.lt_of_lt_of_le VR.lt hz_b17_0)
    have ne_b5_b17_0 : b5 ≠ b17_0 := Nat.ne_of_lt (Nat.lt_of_lt_of_le c16_8.lt hz_b17_0)
    have ne_b15_b17_0 : b15 ≠ b17_0 := Nat.ne_of_lt (Nat.lt_of_lt_of_le A15.lt hz_b17_0)
    have lt_b1_b17_0 : (b1 : Nat) < b17_0 := Nat.lt_of_lt_of_le c16_1.lt hz_b17_0
    have lt_b3_b17_0 : (b3 : Nat) < b17_0 := Nat.lt_of_lt_of_le VR.lt hz_b17_0
    have lt_b5_b17_0 : (b5 : Nat) < b17_0 := Nat.lt_of_lt_of_le c16_8.lt hz_b17_0
    have lt_b15_b17_0 : (b15 : Nat) < b17_0 := Nat.lt_of_lt_of_le A15.lt hz_b17_0
    have g_b17_1 : n0 ≤ b17_1 := Nat.le_trans Z15 hz_b17_1
    have sz_b17_1 : h0.size ≤ b17_1 := Nat.le_trans (K15).1 hz_b17_1
    have ne_b1_b17_1 : b1 ≠ b17_1 := Nat.ne_of_lt (Nat.lt_of_lt_of_le c16_1.lt hz_b17_1)
    have ne_b3_b17_1 : b3 ≠ b17_1 := Nat.ne_of_lt (Nat.lt_of_lt_of_le VR.lt hz_b17_1)
    have ne_b5_b17_1 : b5 ≠ b17_1 := Nat.ne_of_lt (Nat.lt_of_lt_of_le c16_8.lt hz_b17_1)
    have ne_b15_b17_1 : b15 ≠ b17_1 := Nat.ne_of_lt (Nat.lt_of_lt_of_le A15.lt hz_b17_1)
    have lt_b1_b17_1 : (b1 : Nat) < b17_1 := Nat.lt_of_lt_of_le c16_1.lt hz_b17_1
    have lt_b3_b17_1 : (b3 : Nat) < b17_1 := Nat.lt_of_lt_of_le VR.lt hz_b17_1
    have lt_b5_b17_1 : (b5 : Nat) < b17_1 := Nat.lt_of_lt_of_le c16_8.lt hz_b17_1
    have lt_b15_b17_1 : (b15 : Nat) < b17_1 := Nat.lt_of_lt_of_le A15.lt hz_b17_1
    have g_b17_2 : n0 ≤ b17_2 := Nat.le_trans Z15 hz_b17_2
    have sz_b17_2 : h0.size ≤ b17_2 := Nat.le_trans (K15).1 hz_b17_2
    have ne_b1_b17_2 : b1 ≠ b17_2 := Nat.ne_of_lt (Nat.lt_of_lt_of_le c16_1.lt hz_b17_2)
    have ne_b3_b17_2 : b3 ≠ b17_2 := Nat.ne_of_lt (Nat.lt_of_lt_of_le VR.lt hz_b17_2)
    have ne_b5_b17_2 : b5 ≠ b17_2 := Nat.ne_of_lt (Nat.lt_of_lt_of_le c16_8.lt hz_b17_2)
    have ne_b15_b17_2 : b15 ≠ b17_2 := Nat.ne_of_lt (Nat.lt_of_lt_of_le A15.lt hz_b17_2)
    have lt_b1_b17_2 : (b1 : Nat) < b17_2 := Nat.lt_of_lt_of_le c16_1.lt hz_b17_2
    have lt_b3_b17_2 : (b3 : Nat) < b17_2 := Nat.lt_of_lt_of_le VR.lt hz_b17_2
    have lt_b5_b17_2 : (b5 : Nat) < b17_2 := Nat.lt_of_lt_of_le c16_8.lt hz_b17_2
    have lt_b15_b17_2 : (b15 : Nat) < b17_2 := Nat.lt_of_lt_of_le A15.lt hz_b17_2
    have c18_5 := c16_5.keep Kq17
    have c18_6 := c16_6.keep Kq17
    have K17 : Keep h0 T17.heap [] := K15.trans Kq17 (allS (Or.inr sz_b15) all0)
    have Z17 := Nat.le_trans Z15 Kq17.1
    have N17 := Fr.app N13 N17q
    refine Go.via (fun t k => st17.trans k) ?_
    refine Vi (T17.setTop (mkF m 142 #[sI p0, sI p1, sI p2, sI p3, sI rr, sI ff, sI tt, sI xa, sI xb, sI hz, sI xc, .val (.double dS), .second, .val (.double dM), .second, sR b1, sR b3, sR b15, .unset, .unset, .unset, .unset, .unset, .unset, .unset] [])) (fun tZ kZ => ?_) ?_
    · refine XS.astore X17.here hx rfl (hb hby at_140) rfl rfl (l' := #[sI p0, sI p1, sI p2, sI p3, sI rr, sI ff, sI tt, sI xa, sI xb, sI hz, sI xc, .val (.double dS), .second, .val (.double dM), .second, sR b1, sR b3, sR b15, .unset, .unset, .unset, .unset, .unset, .unset, .unset]) rfl ?_
      exact kZ
    obtain ⟨T19, h19, X19, e19, E19, A19, D19, -, st19⟩ := newO X17 hx hZ hown (wq hw 25 rfl) (wq hw 26 rfl) (wq hw 27 rfl) rfl (g := (mkF m 142 #[sI p0, sI p1, sI p2, sI p3, sI rr, sI ff, sI tt, sI xa, sI xb, sI hz, sI xc, .val (.double dS), .second, .val (.double dM), .second, sR b1, sR b3, sR b15, .unset, .unset, .unset, .unset, .unset, .unset, .unset] [])) rfl (hb hby at_142) (by decide) (by decide)
    obtain ⟨b19, g19⟩ : ∃ z, z = T17.heap.size := ⟨_, rfl⟩
    rw [← g19] at A19 D19 st19
    have g_b19 : n0 ≤ b19 := Nat.le_trans Z17 (Nat.le_of_eq g19.symm)
    have sz_b19 : h0.size ≤ b19 := Nat.le_trans (K17).1 (Nat.le_of_eq g19.symm)
    have ne_b1_b19 : b1 ≠ b19 := Nat.ne_of_lt (Nat.lt_of_lt_of_le f17_3.lt (Nat.le_of_eq g19.symm))
    have ne_b3_b19 : b3 ≠ b19 := Nat.ne_of_lt (Nat.lt_of_lt_of_le f17_4.lt (Nat.le_of_eq g19.symm))
    have ne_b5_b19 : b5 ≠ b19 := Nat.ne_of_lt (Nat.lt_of_lt_of_le f17_2.lt (Nat.le_of_eq g19.symm))
    have ne_b15_b19 : b15 ≠ b19 := Nat.ne_of_lt (Nat.lt_of_lt_of_le f17_0.lt (Nat.le_of_eq g19.symm))
    have ne_b17_0_b19 : b17_0 ≠ b19 := Nat.ne_of_lt (Nat.lt_of_lt_of_le f17_7.lt (Nat.le_of_eq g19.symm))
    have ne_b17_1_b19 : b17_1 ≠ b19 := Nat.ne_of_lt (Nat.lt_of_lt_of_le f17_10.lt (Nat.le_of_eq g19.symm))
    have ne_b17_2_b19 : b17_2 ≠ b19 := Nat.ne_of_lt (Nat.lt_of_lt_of_le f17_12.lt (Nat.le_of_eq g19.symm))
    have lt_b17_1_b19 : (b17_1 : Nat) < b19 := Nat.lt_of_lt_of_le f17_10.lt (Nat.le_of_eq g19.symm)
    have lt_b5_b19 : (b5 : Nat) < b19 := Nat.lt_of_lt_of_le f17_2.lt (Nat.le_of_eq g19.symm)
    have lt_b17_0_b19 : (b17_0 : Nat) < b19 := Nat.lt_of_lt_of_le f17_7.lt (Nat.le_of_eq g19.symm)
    have lt_b15_b19 : (b15 : Nat) < b19 := Nat.lt_of_lt_of_le f17_0.lt (Nat.le_of_eq g19.symm)
    have lt_b3_b19 : (b3 : Nat) < b19 := Nat.lt_of_lt_of_le f17_4.lt (Nat.le_of_eq g19.symm)
    have lt_b1_b19 : (b1 : Nat) < b19 := Nat.lt_of_lt_of_le f17_3.lt (Nat.le_of_eq g19.symm)
    have lt_b17_2_b19 : (b17_2 : Nat) < b19 := Nat.lt_of_lt_of_le f17_12.lt (Nat.le_of_eq g19.symm)
    have c20_1 := f17_3.ext E19
    have c20_2 := f17_6.ext E19
    have c20_4 := f17_4.ext E19
    have c20_5 := c18_5.ext E19
    have c20_6 := c18_6.ext E19
    have c20_8 := f17_2.ext E19
    have c20_9 := f17_5.ext E19
    have c20_11 := f17_0.ext E19
    have c20_12 := f17_1.ext E19
    have c20_13 := f17_7.ext E19
    have c20_14 := f17_8.ext E19
    have c20_15 := f17_9.ext E19
    have c20_16 := f17_10.ext E19
    have c20_17 := f17_11.ext E19
    have c20_18 := f17_12.ext E19
    have c20_19 := f17_13.ext E19
    have K19 : Keep h0 h19 [] := K17.ext E19
    have Z19 := Nat.le_trans Z17 E19.1
    have F19_initial : Fld Z h19 b19 "com/example/muster/muster/solvers/Pheromone" "initial" "D" (.double 0) := D19 (Or.inr (wq hw 33 rfl)) (ty := .double) (by decide)
    have F19_value : Fld Z h19 b19 "com/example/muster/muster/solvers/Pheromone" "value" "[[[D" .null := D19 (Or.inr (wq hw 39 rfl)) (ty := (.array (.array (.array .double)))) (by decide)
    have F19_deposited : Fld Z h19 b19 "com/example/muster/muster/solvers/Pheromone" "deposited" "[[[D" .null := D19 (Or.inr (wq hw 41 rfl)) (ty := (.array (.array (.array .double)))) (by decide)
    refine Go.via st19 ?_
    refine Vi (T19.setTop (mkF m 150 #[sI p0, sI p1, sI p2, sI p3, sI rr, sI ff, sI tt, sI xa, sI xb, sI hz, sI xc, .val (.double dS), .second, .val (.double dM), .second, sR b1, sR b3, sR b15, .unset, .unset, .unset, .unset, .unset, .unset, .unset] [(.double dS), (.int 3), (.int 2), (.ref b19), (.ref b19)])) (fun tZ kZ => ?_) ?_
    · refine XS.dup X19.here hx rfl (hb hby at_145) rfl rfl ?_
      refine XS.iconst X19.here hx rfl (hb hby at_146) ?_
      refine XS.iconst X19.here hx rfl (hb hby at_147) ?_
      refine XS.dload X19.here hx rfl (hb hby at_148) rfl ?_
      exact kZ
    obtain ⟨_, _, ⟨T21, L21, k21, n21⟩, -, X21, ⟨Lc21, hQ21, l21, y21, z21⟩, st21⟩ := X19.specialBack hx (y := y3) rfl hown (wz hZ hw 28 rfl) (wz hZ hw 29 rfl) (wz hZ hw 30 rfl) (by decide) (backOf (W := 1) (rm3 l Z a0 hw [] b19 dS h19 n0 Z19 A19 F19_initial F19_value F19_deposited g_b19) hZ (wq hw 30 rfl) (wq hw 27 rfl) (by decide) (by decide)) (g := (mkF m 150 #[sI p0, sI p1, sI p2, sI p3, sI rr, sI ff, sI tt, sI xa, sI xb, sI hz, sI xc, .val (.double dS), .second, .val (.double dM), .second, sR b1, sR b3, sR b15, .unset, .unset, .unset, .unset, .unset, .unset, .unset] [(.double dS), (.int 3), (.int 2), (.ref b19), (.ref b19)])) rfl (by rw [hml]; rfl) (Steps.refl _) (a := b19) (argsL := [(.int 2), (.int 3), (.double dS)]) (rest := [(.ref b19)]) (lenOf pd_3 rfl) rfl (leW rfl) (hb hby at_150) (fun _ _ => ⟨rfl, e19, (by decide : 0 + 1 + 1 + 1 + 1 + 3 + 1 + 22 ≤ _), (by decide : 0 + 0 + 2 + 2 + 1 + 6 + 3 + 68 ≤ _)⟩)
    dsimp only [Pt.U, Pt.locs, Pt.cells, Pt.slots] at X21 l21 y21 z21 st21 hQ21
    subst l21 y21 z21
    obtain ⟨rfl, N21q, b21_0, b21_1, hz_b21_0, hz_b21_1, ne_b21_0_b21_1, Kq21, f21_0, f21_1, f21_2, f21_3, f21_4, f21_5, f21_6⟩ := hQ21
    have g_b21_0 : n0 ≤ b21_0 := Nat.le_trans Z19 hz_b21_0
    have sz_b21_0 : h0.size ≤ b21_0 := Nat.le_trans (K19).1 hz_b21_0
    have ne_b1_b21_0 : b1 ≠ b21_0 := Nat.ne_of_lt (Nat.lt_of_lt_of_le c20_1.lt hz_b21_0)
    have ne_b3_b21_0 : b3 ≠ b21_0 := Nat.ne_of_lt (Nat.lt_of_lt_of_le c20_4.lt hz_b21_0)
    have ne_b5_b21_0 : b5 ≠ b21_0 := Nat.ne_of_lt (Nat.lt_of_lt_of_le c20_8.lt hz_b21_0)
    have ne_b15_b21_0 : b15 ≠ b21_0 := Nat.ne_of_lt (Nat.lt_of_lt_of_le c20_11.lt hz_b21_0)
    have ne_b17_0_b21_0 : b17_0 ≠ b21_0 := Nat.ne_of_lt (Nat.lt_of_lt_of_le c20_13.lt hz_b21_0)
    have ne_b17_1_b21_0 : b17_1 ≠ b21_0 := Nat.ne_of_lt (Nat.lt_of_lt_of_le c20_16.lt hz_b21_0)
    have ne_b17_2_b21_0 : b17_2 ≠ b21_0 := Nat.ne_of_lt (Nat.lt_of_lt_of_le c20_18.lt hz_b21_0)
    have ne_b19_b21_0 : b19 ≠ b21_0 := Nat.ne_of_lt (Nat.lt_of_lt_of_le A19.lt hz_b21_0)
    have lt_b1_b21_0 : (b1 : Nat) < b21_0 := Nat.lt_of_lt_of_le c20_1.lt hz_b21_0
    have lt_b3_b21_0 : (b3 : Nat) < b21_0 := Nat.lt_of_lt_of_le c20_4.lt hz_b21_0
    have lt_b5_b21_0 : (b5 : Nat) < b21_0 := Nat.lt_of_lt_of_le c20_8.lt hz_b21_0
    have lt_b15_b21_0 : (b15 : Nat) < b21_0 := Nat.lt_of_lt_of_le c20_11.lt hz_b21_0
    have lt_b17_0_b21_0 : (b17_0 : Nat) < b21_0 := Nat.lt_of_lt_of_le c20_13.lt hz_b21_0
    have lt_b17_1_b21_0 : (b17_1 : Nat) < b21_0 := Nat.lt_of_lt_of_le c20_16.lt hz_b21_0
    have lt_b17_2_b21_0 : (b17_2 : Nat) < b21_0 := Nat.lt_of_lt_of_le c20_18.lt hz_b21_0
    have lt_b19_b21_0 : (b19 : Nat) < b21_0 := Nat.lt_of_lt_of_le A19.lt hz_b21_0
    have g_b21_1 : n0 ≤ b21_1 := Nat.le_trans Z19 hz_b21_1
    have sz_b21_1 : h0.size ≤ b21_1 := Nat.le_trans (K19).1 hz_b21_1
    have ne_b1_b21_1 : b1 ≠ b21_1 := Nat.ne_of_lt (Nat.lt_of_lt_of_le c20_1.lt hz_b21_1)
    have ne_b3_b21_1 : b3 ≠ b21_1 := Nat.ne_of_lt (Nat.lt_of_lt_of_le c20_4.lt hz_b21_1)
    have ne_b5_b21_1 : b5 ≠ b21_1 := Nat.ne_of_lt (Nat.lt_of_lt_of_le c20_8.lt hz_b21_1)
    have ne_b15_b21_1 : b15 ≠ b21_1 := Nat.ne_of_lt (Nat.lt_of_lt_of_le c20_11.lt hz_b21_1)
    have ne_b17_0_b21_1 : b17_0 ≠ b21_1 := Nat.ne_of_lt (Nat.lt_of_lt_of_le c20_13.lt hz_b21_1)
    have ne_b17_1_b21_1 : b17_1 ≠ b21_1 := Nat.ne_of_lt (Nat.lt_of_lt_of_le c20_16.lt hz_b21_1)
    have ne_b17_2_b21_1 : b17_2 ≠ b21_1 := Nat.ne_of_lt (Nat.lt_of_lt_of_le c20_18.lt hz_b21_1)
    have ne_b19_b21_1 : b19 ≠ b21_1 := Nat.ne_of_lt (Nat.lt_of_lt_of_le A19.lt hz_b21_1)
    have lt_b1_b21_1 : (b1 : Nat) < b21_1 := Nat.lt_of_lt_of_le c20_1.lt hz_b21_1
    have lt_b3_b21_1 : (b3 : Nat) < b21_1 := Nat.lt_of_lt_of_le c20_4.lt hz_b21_1
    have lt_b5_b21_1 : (b5 : Nat) < b21_1 := Nat.lt_of_lt_of_le c20_8.lt hz_b21_1
    have lt_b15_b21_1 : (b15 : Nat) < b21_1 := Nat.lt_of_lt_of_le c20_11.lt hz_b21_1
    have lt_b17_0_b21_1 : (b17_0 : Nat) < b21_1 := Nat.lt_of_lt_of_le c20_13.lt hz_b21_1
    have lt_b17_1_b21_1 : (b17_1 : Nat) < b21_1 := Nat.lt_of_lt_of_le c20_16.lt hz_b21_1
    have lt_b17_2_b21_1 : (b17_2 : Nat) < b21_1 := Nat.lt_of_lt_of_le c20_18.lt hz_b21_1
    have lt_b19_b21_1 : (b19 : Nat) < b21_1 := Nat.lt_of_lt_of_le A19.lt hz_b21_1
    have c22_1 := c20_1.keep Kq21
    have c22_2 := c20_2.keep Kq21 (ninS ne_b1_b19 nin0)
    have c22_4 := c20_4.keep Kq21 (ninS ne_b3_b19 nin0)
    have c22_5 := c20_5.keep Kq21
    have c22_6 := c20_6.keep Kq21
    have c22_8 := c20_8.keep Kq21
    have c22_9 := c20_9.keep Kq21 (ninS ne_b5_b19 nin0)
    have c22_11 := c20_11.keep Kq21
    have c22_12 := c20_12.keep Kq21 (ninS ne_b15_b19 nin0)
    have c22_13 := c20_13.keep Kq21 (ninS ne_b17_0_b19 nin0)
    have c22_14 := c20_14.keep Kq21
    have c22_15 := c20_15.keep Kq21
    have c22_16 := c20_16.keep Kq21 (ninS ne_b17_1_b19 nin0)
    have c22_17 := c20_17.keep Kq21
    have c22_18 := c20_18.keep Kq21 (ninS ne_b17_2_b19 nin0)
    have c22_19 := c20_19.keep Kq21
    have K21 : Keep h0 T21.heap [] := K19.trans Kq21 (allS (Or.inr sz_b19) all0)
    have Z21 := Nat.le_trans Z19 Kq21.1
    have N21 := Fr.app N17 N21q
    refine Go.via (fun t k => st21.trans k) ?_
    refine Vi (T21.setTop (mkF m 163 #[sI p0, sI p1, sI p2, sI p3, sI rr, sI ff, sI tt, sI xa, sI xb, sI hz, sI xc, .val (.double dS), .second, .val (.double dM), .second, sR b1, sR b3, sR b15, sR b19, .unset, .unset, .unset, .unset, .unset, .unset] [(.int tt), (.int ff), (.int rr), (.ref b19)])) (fun tZ kZ => ?_) ?_
    · refine XS.astore X21.here hx rfl (hb hby at_153) rfl rfl (l' := #[sI p0, sI p1, sI p2, sI p3, sI rr, sI ff, sI tt, sI xa, sI xb, sI hz, sI xc, .val (.double dS), .second, .val (.double dM), .second, sR b1, sR b3, sR b15, sR b19, .unset, .unset, .unset, .unset, .unset, .unset]) rfl ?_
      refine XS.aload X21.here hx rfl (hb hby at_155) rfl rfl ?_
      refine XS.iload X21.here hx rfl (hb hby at_157) rfl ?_
      refine XS.iload X21.here hx rfl (hb hby at_159) rfl ?_
      refine XS.iload X21.here hx rfl (hb hby at_161) rfl ?_
      exact kZ
    obtain ⟨cq23, kq23, q23a, q23b, q23c⟩ := isOf hZ rfl f21_0
    obtain ⟨_, _, ⟨T23, L23, k23, n23⟩, -, X23, ⟨Lc23, hQ23, l23, y23, z23⟩, st23⟩ := X21.virtualBack hx (y := y6) (z := y6) hown (wz hZ hw 51 rfl) (wz hZ hw 52 rfl) (notFace_of_selects (args := #[]) (wz hZ hw 54 rfl)) (wz hZ hw 54 rfl) (wz hZ hw 53 rfl) (by decide) (backOf (W := 0) (rm6 l Z a0 hw [] b19 rr ff tt b21_0 (fun _ _ _ => dS) T21.heap n0 Z21 f21_0 f21_2 f21_4 (own_xb hr) (own_f1 hf) (own_x3 ht)) hZ (wq hw 55 rfl) (wq hw 27 rfl) (by decide) (by decide)) q23a q23c (g := (mkF m 163 #[sI p0, sI p1, sI p2, sI p3, sI rr, sI ff, sI tt, sI xa, sI xb, sI hz, sI xc, .val (.double dS), .second, .val (.double dM), .second, sR b1, sR b3, sR b15, sR b19, .unset, .unset, .unset, .unset, .unset, .unset] [(.int tt), (.int ff), (.int rr), (.ref b19)])) rfl (by rw [hml]; rfl) (Steps.refl _) (argsL := [(.int rr), (.int ff), (.int tt)]) (rest := []) (lenOf pd_5 rfl) rfl (leW rfl) (hb hby at_163) (fun _ _ => ⟨rfl, rfl, (by decide : 0 + 1 + 1 + 1 + 1 + 3 + 1 + 22 + 0 ≤ _), (by decide : 0 + 0 + 2 + 2 + 1 + 6 + 3 + 68 + 0 ≤ _)⟩)
    dsimp only [Pt.U, Pt.locs, Pt.cells, Pt.slots] at X23 l23 y23 z23 st23 hQ23
    subst l23 y23 z23
    obtain ⟨rfl, N23q, e23⟩ := hQ23
    have N23 := Fr.app N21 N23q
    refine Go.via (fun t k => st23.trans k) ?_
    refine Vi (T23.setTop (mkF m 185 #[sI p0, sI p1, sI p2, sI p3, sI rr, sI ff, sI tt, sI xa, sI xb, sI hz, sI xc, .val (.double dS), .second, .val (.double dM), .second, sR b1, sR b3, sR b15, sR b19, sI 1, .unset, .unset, .unset, .unset, .unset] [(.double dM), (.ref b15), (.ref b19)])) (fun tZ kZ => ?_) ?_
    · refine XS.dload X23.here hx rfl (hb hby at_166) rfl ?_
      refine XS.dcmpS X23.here hx rfl (hb hby at_168) rfl (v := 0) (dcmpV_eq rfl nS _) ?_
      refine XS.ifNo X23.here hx rfl (hb hby at_169) rfl ((if0 _ _).trans (teq (by decide)).2) ?_
      refine XS.iconst X23.here hx rfl (hb hby at_172) ?_
      refine XS.goto X23.here hx rfl (pc0 := 173) (pc' := 177) rfl (hb hby at_173) (by decide) (by decide) ?_
      refine XS.istore X23.here hx rfl (hb hby at_177) rfl (l' := #[sI p0, sI p1, sI p2, sI p3, sI rr, sI ff, sI tt, sI xa, sI xb, sI hz, sI xc, .val (.double dS), .second, .val (.double dM), .second, sR b1, sR b3, sR b15, sR b19, sI 1, .unset, .unset, .unset, .unset, .unset]) rfl ?_
      refine XS.aload X23.here hx rfl (hb hby at_179) rfl rfl ?_
      refine XS.aload X23.here hx rfl (hb hby at_181) rfl rfl ?_
      refine XS.dload X23.here hx rfl (hb hby at_183) rfl ?_
      exact kZ
    have VQ : AV Z T21.heap b17_0 (.array .int) 2 (own_b2 b17_1 b17_2) := c22_13.congr (fun j hj => by rcases (show j = 0 ∨ j = 1 by omega) with rfl | rfl <;> rfl)
    obtain ⟨cq24, kq24, q24a, q24b, q24c⟩ := isOf hZ e23 f21_0
    obtain ⟨_, _, ⟨T24, L24, k24, n24⟩, -, X24, ⟨Lc24, hQ24, l24, y24, z24⟩, st24⟩ := X23.virtualBack hx (y := y7) (z := y7) hown (wz hZ hw 56 rfl) (wz hZ hw 57 rfl) (notFace_of_selects (args := #[]) (wz hZ hw 59 rfl)) (wz hZ hw 59 rfl) (wz hZ hw 58 rfl) (by decide) (backOf (W := 0) (rm7b l Z a0 hw [] b19 b15 dM b21_1 (fun _ _ _ => (0 : UInt64)) b17_0 b17_1 b17_2 xa xb T21.heap n0 Z21 f21_0 f21_3 f21_5 g_b21_1 c22_11 c22_12 VQ c22_17 c22_16 c22_19 c22_18 ha hb_ (by omega) (by omega) (by omega) (by omega) (by omega) own_gb0 hM) hZ (wq hw 60 rfl) (wq hw 27 rfl) (by decide) (by decide)) q24a q24c (g := (mkF m 185 #[sI p0, sI p1, sI p2, sI p3, sI rr, sI ff, sI tt, sI xa, sI xb, sI hz, sI xc, .val (.double dS), .second, .val (.double dM), .second, sR b1, sR b3, sR b15, sR b19, sI 1, .unset, .unset, .unset, .unset, .unset] [(.double dM), (.ref b15), (.ref b19)])) rfl (by rw [hml]; rfl) (Steps.refl _) (argsL := [(.ref b15), (.double dM)]) (rest := []) (lenOf pd_6 rfl) rfl (leW rfl) (hb hby at_185) (fun _ _ => ⟨rfl, e23, (by decide : 0 + 1 + 1 + 1 + 1 + 3 + 1 + 22 + 0 + 2 ≤ _), (by decide : 0 + 0 + 2 + 2 + 1 + 6 + 3 + 68 + 0 + 4 ≤ _)⟩)
    dsimp only [Pt.U, Pt.locs, Pt.cells, Pt.slots] at X24 l24 y24 z24 st24 hQ24
    subst l24 y24 z24
    obtain ⟨rfl, N24q, Kq24, f24_0, f24_1, f24_2, f24_3, f24_4, f24_5, f24_6, f24_7, f24_8, f24_9⟩ := hQ24
    have c25_1 := c22_1.keep Kq24
    have c25_2 := c22_2.keep Kq24 (ninS (own_na (by omega)) (ninS (own_na (by omega)) nin0))
    have c25_4 := c22_4.keep Kq24 (ninS (own_na (by omega)) (ninS (own_na (by omega)) nin0))
    have c25_5 := c22_5.keep Kq24
    have c25_6 := c22_6.keep Kq24
    have c25_8 := c22_8.keep Kq24
    have c25_9 := c22_9.keep Kq24 (ninS (own_na (by omega)) (ninS (own_na (by omega)) nin0))
    have c25_14 := c22_14.keep Kq24
    have c25_15 := c22_15.keep Kq24
    have c25_25 := f21_1.keep Kq24 (ninS (own_na (by omega)) (ninS (own_na (by omega)) nin0))
    have c25_26 := f21_2.keep Kq24 (ninS (own_na (by omega)) (ninS (own_na (by omega)) nin0))
    have c25_28 := f21_4.keep Kq24 (allS (by omega) (allS (by omega) all0))
    have c25_30 := f21_6
    have K24 : Keep h0 T24.heap [] := K21.trans Kq24 (allS (Or.inr (Nat.le_trans sz_b21_1 (show b21_1 ≤ (b21_1 + 2 + 5 * 0 + 0) by omega))) (allS (Or.inr (Nat.le_trans sz_b21_1 (show b21_1 ≤ (b21_1 + 2 + 5 * 0 + (xa + (1 : Int32)).toNatClampNeg) by omega))) all0))
    have Z24 := Nat.le_trans Z21 Kq24.1
    have N24 := Fr.app N23 N24q
    refine Go.via (fun t k => st24.trans k) ?_
    refine Vi (T24.setTop (mkF m 201 #[sI p0, sI p1, sI p2, sI p3, sI rr, sI ff, sI tt, sI xa, sI xb, sI hz, sI xc, .val (.double dS), .second, .val (.double dM), .second, sR b1, sR b3, sR b15, sR b19, sI 1, .unset, .unset, .unset, .unset, .unset] [(.int tt), (.int ff), (.int rr), (.ref b19)])) (fun tZ kZ => ?_) ?_
    · refine XS.iload X24.here hx rfl (hb hby at_188) rfl ?_
      refine XS.ifNo X24.here hx rfl (hb hby at_190) rfl ((if0 _ _).trans (feq (by decide)).1) ?_
      refine XS.aload X24.here hx rfl (hb hby at_193) rfl rfl ?_
      refine XS.iload X24.here hx rfl (hb hby at_195) rfl ?_
      refine XS.iload X24.here hx rfl (hb hby at_197) rfl ?_
      refine XS.iload X24.here hx rfl (hb hby at_199) rfl ?_
      exact kZ
    obtain ⟨cq26, kq26, q26a, q26b, q26c⟩ := isOf hZ rfl f24_0
    obtain ⟨_, _, ⟨T26, L26, k26, n26⟩, -, X26, ⟨Lc26, hQ26, l26, y26, z26⟩, st26⟩ := X24.virtualBack hx (y := y6) (z := y6) hown (wz hZ hw 51 rfl) (wz hZ hw 52 rfl) (notFace_of_selects (args := #[]) (wz hZ hw 54 rfl)) (wz hZ hw 54 rfl) (wz hZ hw 53 rfl) (by decide) (backOf (W := 0) (rm6 l Z a0 hw [] b19 rr ff tt b21_0 (fun _ _ _ => dS) T24.heap n0 Z24 f24_0 c25_26 c25_28 (own_xb hr) (own_f1 hf) (own_x3 ht)) hZ (wq hw 55 rfl) (wq hw 27 rfl) (by decide) (by decide)) q26a q26c (g := (mkF m 201 #[sI p0, sI p1, sI p2, sI p3, sI rr, sI ff, sI tt, sI xa, sI xb, sI hz, sI xc, .val (.double dS), .second, .val (.double dM), .second, sR b1, sR b3, sR b15, sR b19, sI 1, .unset, .unset, .unset, .unset, .unset] [(.int tt), (.int ff), (.int rr), (.ref b19)])) rfl (by rw [hml]; rfl) (Steps.refl _) (argsL := [(.int rr), (.int ff), (.int tt)]) (rest := []) (lenOf pd_5 rfl) rfl (leW rfl) (hb hby at_201) (fun _ _ => ⟨rfl, rfl, (by decide : 0 + 1 + 1 + 1 + 1 + 3 + 1 + 22 + 0 + 2 + 0 ≤ _), (by decide : 0 + 0 + 2 + 2 + 1 + 6 + 3 + 68 + 0 + 4 + 0 ≤ _)⟩)
    dsimp only [Pt.U, Pt.locs, Pt.cells, Pt.slots] at X26 l26 y26 z26 st26 hQ26
    subst l26 y26 z26
    obtain ⟨rfl, N26q, e26⟩ := hQ26
    have N26 := Fr.app N24 N26q
    refine Go.via (fun t k => st26.trans k) ?_
    refine Vi (T26.setTop (mkF m 219 #[sI p0, sI p1, sI p2, sI p3, sI rr, sI ff, sI tt, sI xa, sI xb, sI hz, sI xc, .val (.double dS), .second, .val (.double dM), .second, sR b1, sR b3, sR b15, sR b19, sI 1, .unset, .unset, .unset, .unset, .unset] [(.ref b19)])) (fun tZ kZ => ?_) ?_
    · refine XS.dload X26.here hx rfl (hb hby at_204) rfl ?_
      refine XS.dcmpS X26.here hx rfl (hb hby at_206) rfl (v := 0) (dcmpV_eq rfl nS _) ?_
      refine XS.ifNo X26.here hx rfl (hb hby at_207) rfl ((if0 _ _).trans (teq (by decide)).2) ?_
      refine XS.iconst X26.here hx rfl (hb hby at_210) ?_
      refine XS.goto X26.here hx rfl (pc0 := 211) (pc' := 215) rfl (hb hby at_211) (by decide) (by decide) ?_
      refine XS.istore X26.here hx rfl (hb hby at_215) rfl (l' := #[sI p0, sI p1, sI p2, sI p3, sI rr, sI ff, sI tt, sI xa, sI xb, sI hz, sI xc, .val (.double dS), .second, .val (.double dM), .second, sR b1, sR b3, sR b15, sR b19, sI 1, .unset, .unset, .unset, .unset, .unset]) rfl ?_
      refine XS.aload X26.here hx rfl (hb hby at_217) rfl rfl ?_
      exact kZ
    obtain ⟨f0, e_f0⟩ : ∃ z, z = (fun _ _ _ => dS) := ⟨_, rfl⟩
    have G_f0 : Gd Z T24.heap b21_0 f0 := by rw [e_f0]; exact c25_28
    obtain ⟨g0, e_g0⟩ : ∃ z, z = (own_d1 (own_d1 (fun _ _ _ => (0 : UInt64)) 0 0 xa.toNatClampNeg dM) 0 (xa + (1 : Int32)).toNatClampNeg xb.toNatClampNeg dM) := ⟨_, rfl⟩
    have G_g0 : Gd Z T24.heap b21_1 g0 := by rw [e_g0]; exact f24_2
    have b_f0 : GB 1070 f0 := by rw [e_f0]; exact fun _ _ _ => hS.mono (by decide)
    have b_g0 : GB 1070 g0 := by rw [e_g0]; exact ((own_gb0.d1 _ _ _ hM (by decide)).d1 _ _ _ (hM.mono (by decide)) (by decide)).mono (by decide)
    obtain ⟨cq27, kq27, q27a, q27b, q27c⟩ := isOf hZ e26 f24_0
    obtain ⟨_, _, ⟨T27, L27, k27, n27⟩, -, X27, ⟨Lc27, hQ27, l27, y27, z27⟩, st27⟩ := X26.virtualBack hx (y := y10) (z := y10) hown (wz hZ hw 71 rfl) (wz hZ hw 72 rfl) (notFace_of_selects (args := #[]) (wz hZ hw 74 rfl)) (wz hZ hw 74 rfl) (wz hZ hw 73 rfl) (by decide) (backOf (W := 0) (rm10 l Z a0 hw [] b19 b21_0 b21_1 f0 g0 T24.heap n0 Z24 f24_0 c25_26 f24_1 G_f0 G_g0 g_b21_0 g_b21_1 (by omega) (by omega) (by omega) (own_nnG b_f0 b_g0 (by decide))) hZ (wq hw 75 rfl) (wq hw 27 rfl) (by decide) (by decide)) q27a q27c (g := (mkF m 219 #[sI p0, sI p1, sI p2, sI p3, sI rr, sI ff, sI tt, sI xa, sI xb, sI hz, sI xc, .val (.double dS), .second, .val (.double dM), .second, sR b1, sR b3, sR b15, sR b19, sI 1, .unset, .unset, .unset, .unset, .unset] [(.ref b19)])) rfl (by rw [hml]; rfl) (Steps.refl _) (argsL := []) (rest := []) (lenOf pd_1 rfl) rfl (leW rfl) (hb hby at_219) (fun _ _ => ⟨rfl, e26, (by decide : 0 + 1 + 1 + 1 + 1 + 3 + 1 + 22 + 0 + 2 + 0 + 0 ≤ _), (by decide : 0 + 0 + 2 + 2 + 1 + 6 + 3 + 68 + 0 + 4 + 0 + 0 ≤ _)⟩)
    dsimp only [Pt.U, Pt.locs, Pt.cells, Pt.slots] at X27 l27 y27 z27 st27 hQ27
    subst l27 y27 z27
    obtain ⟨rfl, N27q, Kq27, f27_0, f27_1, f27_2, f27_3, f27_4⟩ := hQ27
    have c28_1 := c25_1.keep Kq27
    have c28_2 := c25_2.keep Kq27 (ninS (own_na (by omega)) (ninS (own_na (by omega)) (ninS (own_na (by omega)) (ninS (own_na (by omega)) (ninS (own_na (by omega)) (ninS (own_na (by omega)) (ninS (own_na (by omega)) (ninS (own_na (by omega)) (ninS (own_na (by omega)) (ninS (own_na (by omega)) (ninS (own_na (by omega)) (ninS (own_na (by omega)) (ninS (own_na (by omega)) (ninS (own_na (by omega)) (ninS (own_na (by omega)) (ninS (own_na (by omega)) nin0))))))))))))))))
    have c28_4 := c25_4.keep Kq27 (ninS (own_na (by omega)) (ninS (own_na (by omega)) (ninS (own_na (by omega)) (ninS (own_na (by omega)) (ninS (own_na (by omega)) (ninS (own_na (by omega)) (ninS (own_na (by omega)) (ninS (own_na (by omega)) (ninS (own_na (by omega)) (ninS (own_na (by omega)) (ninS (own_na (by omega)) (ninS (own_na (by omega)) (ninS (own_na (by omega)) (ninS (own_na (by omega)) (ninS (own_na (by omega)) (ninS (own_na (by omega)) nin0))))))))))))))))
    have c28_5 := c25_5.keep Kq27
    have c28_6 := c25_6.keep Kq27
    have c28_8 := c25_8.keep Kq27
    have c28_9 := c25_9.keep Kq27 (ninS (own_na (by omega)) (ninS (own_na (by omega)) (ninS (own_na (by omega)) (ninS (own_na (by omega)) (ninS (own_na (by omega)) (ninS (own_na (by omega)) (ninS (own_na (by omega)) (ninS (own_na (by omega)) (ninS (own_na (by omega)) (ninS (own_na (by omega)) (ninS (own_na (by omega)) (ninS (own_na (by omega)) (ninS (own_na (by omega)) (ninS (own_na (by omega)) (ninS (own_na (by omega)) (ninS (own_na (by omega)) nin0))))))))))))))))
    have c28_11 := f24_3.keep Kq27
    have c28_12 := f24_4.keep Kq27 (ninS (own_na (by omega)) (ninS (own_na (by omega)) (ninS (own_na (by omega)) (ninS (own_na (by omega)) (ninS (own_na (by omega)) (ninS (own_na (by omega)) (ninS (own_na (by omega)) (ninS (own_na (by omega)) (ninS (own_na (by omega)) (ninS (own_na (by omega)) (ninS (own_na (by omega)) (ninS (own_na (by omega)) (ninS (own_na (by omega)) (ninS (own_na (by omega)) (ninS (own_na (by omega)) (ninS (own_na (by omega)) nin0))))))))))))))))
    have c28_13 := f24_5.keep Kq27 (ninS (own_na (by omega)) (ninS (own_na (by omega)) (ninS (own_na (by omega)) (ninS (own_na (by omega)) (ninS (own_na (by omega)) (ninS (own_na (by omega)) (ninS (own_na (by omega)) (ninS (own_na (by omega)) (ninS (own_na (by omega)) (ninS (own_na (by omega)) (ninS (own_na (by omega)) (ninS (own_na (by omega)) (ninS (own_na (by omega)) (ninS (own_na (by omega)) (ninS (own_na (by omega)) (ninS (own_na (by omega)) nin0))))))))))))))))
    have c28_14 := c25_14.keep Kq27
    have c28_15 := c25_15.keep Kq27
    have c28_16 := f24_7.keep Kq27 (ninS (own_na (by omega)) (ninS (own_na (by omega)) (ninS (own_na (by omega)) (ninS (own_na (by omega)) (ninS (own_na (by omega)) (ninS (own_na (by omega)) (ninS (own_na (by omega)) (ninS (own_na (by omega)) (ninS (own_na (by omega)) (ninS (own_na (by omega)) (ninS (own_na (by omega)) (ninS (own_na (by omega)) (ninS (own_na (by omega)) (ninS (own_na (by omega)) (ninS (own_na (by omega)) (ninS (own_na (by omega)) nin0))))))))))))))))
    have c28_17 := f24_6.keep Kq27
    have c28_18 := f24_9.keep Kq27 (ninS (own_na (by omega)) (ninS (own_na (by omega)) (ninS (own_na (by omega)) (ninS (own_na (by omega)) (ninS (own_na (by omega)) (ninS (own_na (by omega)) (ninS (own_na (by omega)) (ninS (own_na (by omega)) (ninS (own_na (by omega)) (ninS (own_na (by omega)) (ninS (own_na (by omega)) (ninS (own_na (by omega)) (ninS (own_na (by omega)) (ninS (own_na (by omega)) (ninS (own_na (by omega)) (ninS (own_na (by omega)) nin0))))))))))))))))
    have c28_19 := f24_8.keep Kq27
    have c28_25 := c25_25.keep Kq27 (ninS (own_na (by omega)) (ninS (own_na (by omega)) (ninS (own_na (by omega)) (ninS (own_na (by omega)) (ninS (own_na (by omega)) (ninS (own_na (by omega)) (ninS (own_na (by omega)) (ninS (own_na (by omega)) (ninS (own_na (by omega)) (ninS (own_na (by omega)) (ninS (own_na (by omega)) (ninS (own_na (by omega)) (ninS (own_na (by omega)) (ninS (own_na (by omega)) (ninS (own_na (by omega)) (ninS (own_na (by omega)) nin0))))))))))))))))
    have c28_30 := c25_30
    have K27 : Keep h0 T27.heap [] := K24.trans Kq27 (allS (Or.inr (Nat.le_trans sz_b21_0 (show b21_0 ≤ (b21_0 + 2 + 5 * 0 + 0) by omega))) (allS (Or.inr (Nat.le_trans sz_b21_1 (show b21_1 ≤ (b21_1 + 2 + 5 * 0 + 0) by omega))) (allS (Or.inr (Nat.le_trans sz_b21_0 (show b21_0 ≤ (b21_0 + 2 + 5 * 0 + 1) by omega))) (allS (Or.inr (Nat.le_trans sz_b21_1 (show b21_1 ≤ (b21_1 + 2 + 5 * 0 + 1) by omega))) (allS (Or.inr (Nat.le_trans sz_b21_0 (show b21_0 ≤ (b21_0 + 2 + 5 * 0 + 2) by omega))) (allS (Or.inr (Nat.le_trans sz_b21_1 (show b21_1 ≤ (b21_1 + 2 + 5 * 0 + 2) by omega))) (allS (Or.inr (Nat.le_trans sz_b21_0 (show b21_0 ≤ (b21_0 + 2 + 5 * 0 + 3) by omega))) (allS (Or.inr (Nat.le_trans sz_b21_1 (show b21_1 ≤ (b21_1 + 2 + 5 * 0 + 3) by omega))) (allS (Or.inr (Nat.le_trans sz_b21_0 (show b21_0 ≤ (b21_0 + 2 + 5 * 1 + 0) by omega))) (allS (Or.inr (Nat.le_trans sz_b21_1 (show b21_1 ≤ (b21_1 + 2 + 5 * 1 + 0) by omega))) (allS (Or.inr (Nat.le_trans sz_b21_0 (show b21_0 ≤ (b21_0 + 2 + 5 * 1 + 1) by omega))) (allS (Or.inr (Nat.le_trans sz_b21_1 (show b21_1 ≤ (b21_1 + 2 + 5 * 1 + 1) by omega))) (allS (Or.inr (Nat.le_trans sz_b21_0 (show b21_0 ≤ (b21_0 + 2 + 5 * 1 + 2) by omega))) (allS (Or.inr (Nat.le_trans sz_b21_1 (show b21_1 ≤ (b21_1 + 2 + 5 * 1 + 2) by omega))) (allS (Or.inr (Nat.le_trans sz_b21_0 (show b21_0 ≤ (b21_0 + 2 + 5 * 1 + 3) by omega))) (allS (Or.inr (Nat.le_trans sz_b21_1 (show b21_1 ≤ (b21_1 + 2 + 5 * 1 + 3) by omega))) all0))))))))))))))))
    have Z27 := Nat.le_trans Z24 Kq27.1
    have N27 := Fr.app N26 N27q
    refine Go.via (fun t k => st27.trans k) ?_
    obtain ⟨f1, e_f1⟩ : ∃ z, z = (fun i j k => FP.dadd (FP.dmul (4606732058837280358 : UInt64) (f0 i j k)) (g0 i j k)) := ⟨_, rfl⟩
    have G_f1 : Gd Z T27.heap b21_0 f1 := by rw [e_f1]; exact f27_3
    refine Vi (T27.setTop (mkF m 287 #[sI p0, sI p1, sI p2, sI p3, sI rr, sI ff, sI tt, sI xa, sI xb, sI hz, sI xc, .val (.double dS), .second, .val (.double dM), .second, sR b1, sR b3, sR b15, sR b19, sI 1, sI (if rr = (0 : Int32) then (if ff = (-1 : Int32) then (if tt = xa then (1 : Int32) else (if ff = xa then (if tt = xb then (1 : Int32) else (0 : Int32)) else (0 : Int32))) else (if ff = xa then (if tt = xb then (1 : Int32) else (0 : Int32)) else (0 : Int32))) else (if hz = (0 : Int32) then (0 : Int32) else (if ff = (-1 : Int32) then (if tt = xc then (1 : Int32) else (0 : Int32)) else (0 : Int32)))), .unset, .unset, .unset, .unset] [])) (fun tZ kZ => ?_) ?_
    · refine XS.iload X27.here hx rfl (hb hby at_222) rfl ?_
      have sg224 : Steps p.tables e below (T27.setTop (mkF m 285 #[sI p0, sI p1, sI p2, sI p3, sI rr, sI ff, sI tt, sI xa, sI xb, sI hz, sI xc, .val (.double dS), .second, .val (.double dM), .second, sR b1, sR b3, sR b15, sR b19, sI 1, .unset, .unset, .unset, .unset, .unset] [(.int (if rr = (0 : Int32) then (if ff = (-1 : Int32) then (if tt = xa then (1 : Int32) else (if ff = xa then (if tt = xb then (1 : Int32) else (0 : Int32)) else (0 : Int32))) else (if ff = xa then (if tt = xb then (1 : Int32) else (0 : Int32)) else (0 : Int32))) else (if hz = (0 : Int32) then (0 : Int32) else (if ff = (-1 : Int32) then (if tt = xc then (1 : Int32) else (0 : Int32)) else (0 : Int32)))))])) tZ → Steps p.tables e below (T27.setTop (mkF m 224 #[sI p0, sI p1, sI p2, sI p3, sI rr, sI ff, sI tt, sI xa, sI xb, sI hz, sI xc, .val (.double dS), .second, .val (.double dM), .second, sR b1, sR b3, sR b15, sR b19, sI 1, .unset, .unset, .unset, .unset, .unset] [(.int rr)])) tZ := by
        intro kj
        by_cases hc224 : rr = (0 : Int32)
        · try simp only [if_pos hc224] at kj
          refine XS.ifNo X27.here hx rfl (hb hby at_224) rfl ((if0 _ _).trans (teq hc224).2) ?_
          refine XS.iload X27.here hx rfl (hb hby at_227) rfl ?_
          refine XS.iconst X27.here hx rfl (hb hby at_229) ?_
          have sg230 : Steps p.tables e below (T27.setTop (mkF m 285 #[sI p0, sI p1, sI p2, sI p3, sI rr, sI ff, sI tt, sI xa, sI xb, sI hz, sI xc, .val (.double dS), .second, .val (.double dM), .second, sR b1, sR b3, sR b15, sR b19, sI 1, .unset, .unset, .unset, .unset, .unset] [(.int (if ff = (-1 : Int32) then (if tt = xa then (1 : Int32) else (if ff = xa then (if tt = xb then (1 : Int32) else (0 : Int32)) else (0 : Int32))) else (if ff = xa then (if tt = xb then (1 : Int32) else (0 : Int32)) else (0 : Int32))))])) tZ → Steps p.tables e below (T27.setTop (mkF m 230 #[sI p0, sI p1, sI p2, sI p3, sI rr, sI ff, sI tt, sI xa, sI xb, sI hz, sI xc, .val (.double dS), .second, .val (.double dM), .second, sR b1, sR b3, sR b15, sR b19, sI 1, .unset, .unset, .unset, .unset, .unset] [(.int (-1)), (.int ff)])) tZ := by
            intro kj
            by_cases hc230 : ff = (-1 : Int32)
            · try simp only [if_pos hc230] at kj
              refine XS.icmpNo X27.here hx rfl (hb hby at_230) rfl (teq hc230).2 ?_
              refine XS.iload X27.here hx rfl (hb hby at_233) rfl ?_
              refine XS.iload X27.here hx rfl (hb hby at_235) rfl ?_
              have sg237 : Steps p.tables e below (T27.setTop (mkF m 285 #[sI p0, sI p1, sI p2, sI p3, sI rr, sI ff, sI tt, sI xa, sI xb, sI hz, sI xc, .val (.double dS), .second, .val (.double dM), .second, sR b1, sR b3, sR b15, sR b19, sI 1, .unset, .unset, .unset, .unset, .unset] [(.int (if tt = xa then (1 : Int32) else (if ff = xa then (if tt = xb then (1 : Int32) else (0 : Int32)) else (0 : Int32))))])) tZ → Steps p.tables e below (T27.setTop (mkF m 237 #[sI p0, sI p1, sI p2, sI p3, sI rr, sI ff, sI tt, sI xa, sI xb, sI hz, sI xc, .val (.double dS), .second, .val (.double dM), .second, sR b1, sR b3, sR b15, sR b19, sI 1, .unset, .unset, .unset, .unset, .unset] [(.int xa), (.int tt)])) tZ := by
                intro kj
                by_cases hc237 : tt = xa
                · try simp only [if_pos hc237] at kj
                  refine XS.icmpYes X27.here hx rfl (pc0 := 237) (pc' := 254) rfl (hb hby at_237) rfl (teq hc237).1 (by decide) (by decide) ?_
                  refine XS.iconst X27.here hx rfl (hb hby at_254) ?_
                  refine XS.goto X27.here hx rfl (pc0 := 255) (pc' := 285) rfl (hb hby at_255) (by decide) (by decide) ?_
                  exact kj
                · try simp only [if_neg hc237] at kj
                  refine XS.icmpNo X27.here hx rfl (hb hby at_237) rfl (feq hc237).1 ?_
                  refine XS.iload X27.here hx rfl (hb hby at_240) rfl ?_
                  refine XS.iload X27.here hx rfl (hb hby at_242) rfl ?_
                  have sg244 : Steps p.tables e below (T27.setTop (mkF m 285 #[sI p0, sI p1, sI p2, sI p3, sI rr, sI ff, sI tt, sI xa, sI xb, sI hz, sI xc, .val (.double dS), .second, .val (.double dM), .second, sR b1, sR b3, sR b15, sR b19, sI 1, .unset, .unset, .unset, .unset, .unset] [(.int (if ff = xa then (if tt = xb then (1 : Int32) else (0 : Int32)) else (0 : Int32)))])) tZ → Steps p.tables e below (T27.setTop (mkF m 244 #[sI p0, sI p1, sI p2, sI p3, sI rr, sI ff, sI tt, sI xa, sI xb, sI hz, sI xc, .val (.double dS), .second, .val (.double dM), .second, sR b1, sR b3, sR b15, sR b19, sI 1, .unset, .unset, .unset, .unset, .unset] [(.int xa), (.int ff)])) tZ := by
                    intro kj
                    by_cases hc244 : ff = xa
                    · try simp only [if_pos hc244] at kj
                      refine XS.icmpNo X27.here hx rfl (hb hby at_244) rfl (teq hc244).2 ?_
                      refine XS.iload X27.here hx rfl (hb hby at_247) rfl ?_
                      refine XS.iload X27.here hx rfl (hb hby at_249) rfl ?_
                      have sg251 : Steps p.tables e below (T27.setTop (mkF m 285 #[sI p0, sI p1, sI p2, sI p3, sI rr, sI ff, sI tt, sI xa, sI xb, sI hz, sI xc, .val (.double dS), .second, .val (.double dM), .second, sR b1, sR b3, sR b15, sR b19, sI 1, .unset, .unset, .unset, .unset, .unset] [(.int (if tt = xb then (1 : Int32) else (0 : Int32)))])) tZ → Steps p.tables e below (T27.setTop (mkF m 251 #[sI p0, sI p1, sI p2, sI p3, sI rr, sI ff, sI tt, sI xa, sI xb, sI hz, sI xc, .val (.double dS), .second, .val (.double dM), .second, sR b1, sR b3, sR b15, sR b19, sI 1, .unset, .unset, .unset, .unset, .unset] [(.int xb), (.int tt)])) tZ := by
                        intro kj
                        by_cases hc251 : tt = xb
                        · try simp only [if_pos hc251] at kj
                          refine XS.icmpNo X27.here hx rfl (hb hby at_251) rfl (teq hc251).2 ?_
                          refine XS.iconst X27.here hx rfl (hb hby at_254) ?_
                          refine XS.goto X27.here hx rfl (pc0 := 255) (pc' := 285) rfl (hb hby at_255) (by decide) (by decide) ?_
                          exact kj
                        · try simp only [if_neg hc251] at kj
                          refine XS.icmpYes X27.here hx rfl (pc0 := 251) (pc' := 258) rfl (hb hby at_251) rfl (feq hc251).2 (by decide) (by decide) ?_
                          refine XS.iconst X27.here hx rfl (hb hby at_258) ?_
                          refine XS.goto X27.here hx rfl (pc0 := 259) (pc' := 285) rfl (hb hby at_259) (by decide) (by decide) ?_
                          exact kj
                      refine sg251 ?_
                      show Steps p.tables e below (T27.setTop (mkF m 285 #[sI p0, sI p1, sI p2, sI p3, sI rr, sI ff, sI tt, sI xa, sI xb, sI hz, sI xc, .val (.double dS), .second, .val (.double dM), .second, sR b1, sR b3, sR b15, sR b19, sI 1, .unset, .unset, .unset, .unset, .unset] [(.int (if tt = xb then (1 : Int32) else (0 : Int32)))])) _
                      exact kj
                    · try simp only [if_neg hc244] at kj
                      refine XS.icmpYes X27.here hx rfl (pc0 := 244) (pc' := 258) rfl (hb hby at_244) rfl (feq hc244).2 (by decide) (by decide) ?_
                      refine XS.iconst X27.here hx rfl (hb hby at_258) ?_
                      refine XS.goto X27.here hx rfl (pc0 := 259) (pc' := 285) rfl (hb hby at_259) (by decide) (by decide) ?_
                      exact kj
                  refine sg244 ?_
                  show Steps p.tables e below (T27.setTop (mkF m 285 #[sI p0, sI p1, sI p2, sI p3, sI rr, sI ff, sI tt, sI xa, sI xb, sI hz, sI xc, .val (.double dS), .second, .val (.double dM), .second, sR b1, sR b3, sR b15, sR b19, sI 1, .unset, .unset, .unset, .unset, .unset] [(.int (if ff = xa then (if tt = xb then (1 : Int32) else (0 : Int32)) else (0 : Int32)))])) _
                  exact kj
              refine sg237 ?_
              show Steps p.tables e below (T27.setTop (mkF m 285 #[sI p0, sI p1, sI p2, sI p3, sI rr, sI ff, sI tt, sI xa, sI xb, sI hz, sI xc, .val (.double dS), .second, .val (.double dM), .second, sR b1, sR b3, sR b15, sR b19, sI 1, .unset, .unset, .unset, .unset, .unset] [(.int (if tt = xa then (1 : Int32) else (if ff = xa then (if tt = xb then (1 : Int32) else (0 : Int32)) else (0 : Int32))))])) _
              exact kj
            · try simp only [if_neg hc230] at kj
              refine XS.icmpYes X27.here hx rfl (pc0 := 230) (pc' := 240) rfl (hb hby at_230) rfl (feq hc230).2 (by decide) (by decide) ?_
              refine XS.iload X27.here hx rfl (hb hby at_240) rfl ?_
              refine XS.iload X27.here hx rfl (hb hby at_242) rfl ?_
              have sg244 : Steps p.tables e below (T27.setTop (mkF m 285 #[sI p0, sI p1, sI p2, sI p3, sI rr, sI ff, sI tt, sI xa, sI xb, sI hz, sI xc, .val (.double dS), .second, .val (.double dM), .second, sR b1, sR b3, sR b15, sR b19, sI 1, .unset, .unset, .unset, .unset, .unset] [(.int (if ff = xa then (if tt = xb then (1 : Int32) else (0 : Int32)) else (0 : Int32)))])) tZ → Steps p.tables e below (T27.setTop (mkF m 244 #[sI p0, sI p1, sI p2, sI p3, sI rr, sI ff, sI tt, sI xa, sI xb, sI hz, sI xc, .val (.double dS), .second, .val (.double dM), .second, sR b1, sR b3, sR b15, sR b19, sI 1, .unset, .unset, .unset, .unset, .unset] [(.int xa), (.int ff)])) tZ := by
                intro kj
                by_cases hc244 : ff = xa
                · try simp only [if_pos hc244] at kj
                  refine XS.icmpNo X27.here hx rfl (hb hby at_244) rfl (teq hc244).2 ?_
                  refine XS.iload X27.here hx rfl (hb hby at_247) rfl ?_
                  refine XS.iload X27.here hx rfl (hb hby at_249) rfl ?_
                  have sg251 : Steps p.tables e below (T27.setTop (mkF m 285 #[sI p0, sI p1, sI p2, sI p3, sI rr, sI ff, sI tt, sI xa, sI xb, sI hz, sI xc, .val (.double dS), .second, .val (.double dM), .second, sR b1, sR b3, sR b15, sR b19, sI 1, .unset, .unset, .unset, .unset, .unset] [(.int (if tt = xb then (1 : Int32) else (0 : Int32)))])) tZ → Steps p.tables e below (T27.setTop (mkF m 251 #[sI p0, sI p1, sI p2, sI p3, sI rr, sI ff, sI tt, sI xa, sI xb, sI hz, sI xc, .val (.double dS), .second, .val (.double dM), .second, sR b1, sR b3, sR b15, sR b19, sI 1, .unset, .unset, .unset, .unset, .unset] [(.int xb), (.int tt)])) tZ := by
                    intro kj
                    by_cases hc251 : tt = xb
                    · try simp only [if_pos hc251] at kj
                      refine XS.icmpNo X27.here hx rfl (hb hby at_251) rfl (teq hc251).2 ?_
                      refine XS.iconst X27.here hx rfl (hb hby at_254) ?_
                      refine XS.goto X27.here hx rfl (pc0 := 255) (pc' := 285) rfl (hb hby at_255) (by decide) (by decide) ?_
                      exact kj
                    · try simp only [if_neg hc251] at kj
                      refine XS.icmpYes X27.here hx rfl (pc0 := 251) (pc' := 258) rfl (hb hby at_251) rfl (feq hc251).2 (by decide) (by decide) ?_
                      refine XS.iconst X27.here hx rfl (hb hby at_258) ?_
                      refine XS.goto X27.here hx rfl (pc0 := 259) (pc' := 285) rfl (hb hby at_259) (by decide) (by decide) ?_
                      exact kj
                  refine sg251 ?_
                  show Steps p.tables e below (T27.setTop (mkF m 285 #[sI p0, sI p1, sI p2, sI p3, sI rr, sI ff, sI tt, sI xa, sI xb, sI hz, sI xc, .val (.double dS), .second, .val (.double dM), .second, sR b1, sR b3, sR b15, sR b19, sI 1, .unset, .unset, .unset, .unset, .unset] [(.int (if tt = xb then (1 : Int32) else (0 : Int32)))])) _
                  exact kj
                · try simp only [if_neg hc244] at kj
                  refine XS.icmpYes X27.here hx rfl (pc0 := 244) (pc' := 258) rfl (hb hby at_244) rfl (feq hc244).2 (by decide) (by decide) ?_
                  refine XS.iconst X27.here hx rfl (hb hby at_258) ?_
                  refine XS.goto X27.here hx rfl (pc0 := 259) (pc' := 285) rfl (hb hby at_259) (by decide) (by decide) ?_
                  exact kj
              refine sg244 ?_
              show Steps p.tables e below (T27.setTop (mkF m 285 #[sI p0, sI p1, sI p2, sI p3, sI rr, sI ff, sI tt, sI xa, sI xb, sI hz, sI xc, .val (.double dS), .second, .val (.double dM), .second, sR b1, sR b3, sR b15, sR b19, sI 1, .unset, .unset, .unset, .unset, .unset] [(.int (if ff = xa then (if tt = xb then (1 : Int32) else (0 : Int32)) else (0 : Int32)))])) _
              exact kj
          refine sg230 ?_
          show Steps p.tables e below (T27.setTop (mkF m 285 #[sI p0, sI p1, sI p2, sI p3, sI rr, sI ff, sI tt, sI xa, sI xb, sI hz, sI xc, .val (.double dS), .second, .val (.double dM), .second, sR b1, sR b3, sR b15, sR b19, sI 1, .unset, .unset, .unset, .unset, .unset] [(.int (if ff = (-1 : Int32) then (if tt = xa then (1 : Int32) else (if ff = xa then (if tt = xb then (1 : Int32) else (0 : Int32)) else (0 : Int32))) else (if ff = xa then (if tt = xb then (1 : Int32) else (0 : Int32)) else (0 : Int32))))])) _
          exact kj
        · try simp only [if_neg hc224] at kj
          refine XS.ifYes X27.here hx rfl (pc0 := 224) (pc' := 262) rfl (hb hby at_224) rfl ((if0 _ _).trans (feq hc224).2) (by decide) (by decide) ?_
          refine XS.iload X27.here hx rfl (hb hby at_262) rfl ?_
          have sg264 : Steps p.tables e below (T27.setTop (mkF m 285 #[sI p0, sI p1, sI p2, sI p3, sI rr, sI ff, sI tt, sI xa, sI xb, sI hz, sI xc, .val (.double dS), .second, .val (.double dM), .second, sR b1, sR b3, sR b15, sR b19, sI 1, .unset, .unset, .unset, .unset, .unset] [(.int (if hz = (0 : Int32) then (0 : Int32) else (if ff = (-1 : Int32) then (if tt = xc then (1 : Int32) else (0 : Int32)) else (0 : Int32))))])) tZ → Steps p.tables e below (T27.setTop (mkF m 264 #[sI p0, sI p1, sI p2, sI p3, sI rr, sI ff, sI tt, sI xa, sI xb, sI hz, sI xc, .val (.double dS), .second, .val (.double dM), .second, sR b1, sR b3, sR b15, sR b19, sI 1, .unset, .unset, .unset, .unset, .unset] [(.int hz)])) tZ := by
            intro kj
            by_cases hc264 : hz = (0 : Int32)
            · try simp only [if_pos hc264] at kj
              refine XS.ifYes X27.here hx rfl (pc0 := 264) (pc' := 284) rfl (hb hby at_264) rfl ((if0 _ _).trans (teq hc264).1) (by decide) (by decide) ?_
              refine XS.iconst X27.here hx rfl (hb hby at_284) ?_
              exact kj
            · try simp only [if_neg hc264] at kj
              refine XS.ifNo X27.here hx rfl (hb hby at_264) rfl ((if0 _ _).trans (feq hc264).1) ?_
              refine XS.iload X27.here hx rfl (hb hby at_267) rfl ?_
              refine XS.iconst X27.here hx rfl (hb hby at_269) ?_
              have sg270 : Steps p.tables e below (T27.setTop (mkF m 285 #[sI p0, sI p1, sI p2, sI p3, sI rr, sI ff, sI tt, sI xa, sI xb, sI hz, sI xc, .val (.double dS), .second, .val (.double dM), .second, sR b1, sR b3, sR b15, sR b19, sI 1, .unset, .unset, .unset, .unset, .unset] [(.int (if ff = (-1 : Int32) then (if tt = xc then (1 : Int32) else (0 : Int32)) else (0 : Int32)))])) tZ → Steps p.tables e below (T27.setTop (mkF m 270 #[sI p0, sI p1, sI p2, sI p3, sI rr, sI ff, sI tt, sI xa, sI xb, sI hz, sI xc, .val (.double dS), .second, .val (.double dM), .second, sR b1, sR b3, sR b15, sR b19, sI 1, .unset, .unset, .unset, .unset, .unset] [(.int (-1)), (.int ff)])) tZ := by
                intro kj
                by_cases hc270 : ff = (-1 : Int32)
                · try simp only [if_pos hc270] at kj
                  refine XS.icmpNo X27.here hx rfl (hb hby at_270) rfl (teq hc270).2 ?_
                  refine XS.iload X27.here hx rfl (hb hby at_273) rfl ?_
                  refine XS.iload X27.here hx rfl (hb hby at_275) rfl ?_
                  have sg277 : Steps p.tables e below (T27.setTop (mkF m 285 #[sI p0, sI p1, sI p2, sI p3, sI rr, sI ff, sI tt, sI xa, sI xb, sI hz, sI xc, .val (.double dS), .second, .val (.double dM), .second, sR b1, sR b3, sR b15, sR b19, sI 1, .unset, .unset, .unset, .unset, .unset] [(.int (if tt = xc then (1 : Int32) else (0 : Int32)))])) tZ → Steps p.tables e below (T27.setTop (mkF m 277 #[sI p0, sI p1, sI p2, sI p3, sI rr, sI ff, sI tt, sI xa, sI xb, sI hz, sI xc, .val (.double dS), .second, .val (.double dM), .second, sR b1, sR b3, sR b15, sR b19, sI 1, .unset, .unset, .unset, .unset, .unset] [(.int xc), (.int tt)])) tZ := by
                    intro kj
                    by_cases hc277 : tt = xc
                    · try simp only [if_pos hc277] at kj
                      refine XS.icmpNo X27.here hx rfl (hb hby at_277) rfl (teq hc277).2 ?_
                      refine XS.iconst X27.here hx rfl (hb hby at_280) ?_
                      refine XS.goto X27.here hx rfl (pc0 := 281) (pc' := 285) rfl (hb hby at_281) (by decide) (by decide) ?_
                      exact kj
                    · try simp only [if_neg hc277] at kj
                      refine XS.icmpYes X27.here hx rfl (pc0 := 277) (pc' := 284) rfl (hb hby at_277) rfl (feq hc277).2 (by decide) (by decide) ?_
                      refine XS.iconst X27.here hx rfl (hb hby at_284) ?_
                      exact kj
                  refine sg277 ?_
                  show Steps p.tables e below (T27.setTop (mkF m 285 #[sI p0, sI p1, sI p2, sI p3, sI rr, sI ff, sI tt, sI xa, sI xb, sI hz, sI xc, .val (.double dS), .second, .val (.double dM), .second, sR b1, sR b3, sR b15, sR b19, sI 1, .unset, .unset, .unset, .unset, .unset] [(.int (if tt = xc then (1 : Int32) else (0 : Int32)))])) _
                  exact kj
                · try simp only [if_neg hc270] at kj
                  refine XS.icmpYes X27.here hx rfl (pc0 := 270) (pc' := 284) rfl (hb hby at_270) rfl (feq hc270).2 (by decide) (by decide) ?_
                  refine XS.iconst X27.here hx rfl (hb hby at_284) ?_
                  exact kj
              refine sg270 ?_
              show Steps p.tables e below (T27.setTop (mkF m 285 #[sI p0, sI p1, sI p2, sI p3, sI rr, sI ff, sI tt, sI xa, sI xb, sI hz, sI xc, .val (.double dS), .second, .val (.double dM), .second, sR b1, sR b3, sR b15, sR b19, sI 1, .unset, .unset, .unset, .unset, .unset] [(.int (if ff = (-1 : Int32) then (if tt = xc then (1 : Int32) else (0 : Int32)) else (0 : Int32)))])) _
              exact kj
          refine sg264 ?_
          show Steps p.tables e below (T27.setTop (mkF m 285 #[sI p0, sI p1, sI p2, sI p3, sI rr, sI ff, sI tt, sI xa, sI xb, sI hz, sI xc, .val (.double dS), .second, .val (.double dM), .second, sR b1, sR b3, sR b15, sR b19, sI 1, .unset, .unset, .unset, .unset, .unset] [(.int (if hz = (0 : Int32) then (0 : Int32) else (if ff = (-1 : Int32) then (if tt = xc then (1 : Int32) else (0 : Int32)) else (0 : Int32))))])) _
          exact kj
      refine sg224 ?_
      show Steps p.tables e below (T27.setTop (mkF m 285 #[sI p0, sI p1, sI p2, sI p3, sI rr, sI ff, sI tt, sI xa, sI xb, sI hz, sI xc, .val (.double dS), .second, .val (.double dM), .second, sR b1, sR b3, sR b15, sR b19, sI 1, .unset, .unset, .unset, .unset, .unset] [(.int (if rr = (0 : Int32) then (if ff = (-1 : Int32) then (if tt = xa then (1 : Int32) else (if ff = xa then (if tt = xb then (1 : Int32) else (0 : Int32)) else (0 : Int32))) else (if ff = xa then (if tt = xb then (1 : Int32) else (0 : Int32)) else (0 : Int32))) else (if hz = (0 : Int32) then (0 : Int32) else (if ff = (-1 : Int32) then (if tt = xc then (1 : Int32) else (0 : Int32)) else (0 : Int32)))))])) _
      refine XS.istore X27.here hx rfl (hb hby at_285) rfl (l' := #[sI p0, sI p1, sI p2, sI p3, sI rr, sI ff, sI tt, sI xa, sI xb, sI hz, sI xc, .val (.double dS), .second, .val (.double dM), .second, sR b1, sR b3, sR b15, sR b19, sI 1, sI (if rr = (0 : Int32) then (if ff = (-1 : Int32) then (if tt = xa then (1 : Int32) else (if ff = xa then (if tt = xb then (1 : Int32) else (0 : Int32)) else (0 : Int32))) else (if ff = xa then (if tt = xb then (1 : Int32) else (0 : Int32)) else (0 : Int32))) else (if hz = (0 : Int32) then (0 : Int32) else (if ff = (-1 : Int32) then (if tt = xc then (1 : Int32) else (0 : Int32)) else (0 : Int32)))), .unset, .unset, .unset, .unset]) rfl ?_
      exact kZ
    obtain ⟨on, e_on⟩ : ∃ z, z = (if rr = (0 : Int32) then (if ff = (-1 : Int32) then (if tt = xa then (1 : Int32) else (if ff = xa then (if tt = xb then (1 : Int32) else (0 : Int32)) else (0 : Int32))) else (if ff = xa then (if tt = xb then (1 : Int32) else (0 : Int32)) else (0 : Int32))) else (if hz = (0 : Int32) then (0 : Int32) else (if ff = (-1 : Int32) then (if tt = xc then (1 : Int32) else (0 : Int32)) else (0 : Int32)))) := ⟨_, rfl⟩
    rw [← e_on]
    show Go p e below _ (T27.setTop (mkF m 287 #[sI p0, sI p1, sI p2, sI p3, sI rr, sI ff, sI tt, sI xa, sI xb, sI hz, sI xc, .val (.double dS), .second, .val (.double dM), .second, sR b1, sR b3, sR b15, sR b19, sI 1, sI on, .unset, .unset, .unset, .unset] []))
    refine Vi (T27.setTop (mkF m 295 #[sI p0, sI p1, sI p2, sI p3, sI rr, sI ff, sI tt, sI xa, sI xb, sI hz, sI xc, .val (.double dS), .second, .val (.double dM), .second, sR b1, sR b3, sR b15, sR b19, sI 1, sI on, .val (.double (FP.dmul (4606732058837280358 : UInt64) dS)), .second, .unset, .unset] [])) (fun tZ kZ => ?_) ?_
    · refine X27.ldc2DoubleC hx hown (wz hZ hw 77 rfl) (g := (mkF m 287 #[sI p0, sI p1, sI p2, sI p3, sI rr, sI ff, sI tt, sI xa, sI xb, sI hz, sI xc, .val (.double dS), .second, .val (.double dM), .second, sR b1, sR b3, sR b15, sR b19, sI 1, sI on, .unset, .unset, .unset, .unset] [])) rfl (hb hby at_287) _ ?_
      refine XS.dload X27.here hx rfl (hb hby at_290) rfl ?_
      refine XS.dmulS X27.here hx rfl (hb hby at_292) rfl ((own_mm hS (by decide)).fin (by decide)).noNaN rfl ?_
      refine XS.dstore X27.here hx rfl (hb hby at_293) rfl (l' := #[sI p0, sI p1, sI p2, sI p3, sI rr, sI ff, sI tt, sI xa, sI xb, sI hz, sI xc, .val (.double dS), .second, .val (.double dM), .second, sR b1, sR b3, sR b15, sR b19, sI 1, sI on, .val (.double (FP.dmul (4606732058837280358 : UInt64) dS)), .second, .unset, .unset]) rfl ?_
      exact kZ
    obtain ⟨kp, e_kp⟩ : ∃ z, z = (FP.dmul (4606732058837280358 : UInt64) dS) := ⟨_, rfl⟩
    rw [← e_kp]
    show Go p e below _ (T27.setTop (mkF m 295 #[sI p0, sI p1, sI p2, sI p3, sI rr, sI ff, sI tt, sI xa, sI xb, sI hz, sI xc, .val (.double dS), .second, .val (.double dM), .second, sR b1, sR b3, sR b15, sR b19, sI 1, sI on, .val (.double kp), .second, .unset, .unset] []))
    have m_kp : Jvm.Free.Fl.Mag64 1062 kp := by rw [e_kp]; exact (own_mm hS (by decide)).mono (by decide)
    refine Vi (T27.setTop (mkF m 312 #[sI p0, sI p1, sI p2, sI p3, sI rr, sI ff, sI tt, sI xa, sI xb, sI hz, sI xc, .val (.double dS), .second, .val (.double dM), .second, sR b1, sR b3, sR b15, sR b19, sI 1, sI on, .val (.double kp), .second, .val (.double (if on = (0 : Int32) then kp else (FP.dadd kp dM))), .second] [])) (fun tZ kZ => ?_) ?_
    · refine XS.iload X27.here hx rfl (hb hby at_295) rfl ?_
      have sg297 : Steps p.tables e below (T27.setTop (mkF m 310 #[sI p0, sI p1, sI p2, sI p3, sI rr, sI ff, sI tt, sI xa, sI xb, sI hz, sI xc, .val (.double dS), .second, .val (.double dM), .second, sR b1, sR b3, sR b15, sR b19, sI 1, sI on, .val (.double kp), .second, .unset, .unset] [(.double (if on = (0 : Int32) then kp else (FP.dadd kp dM)))])) tZ → Steps p.tables e below (T27.setTop (mkF m 297 #[sI p0, sI p1, sI p2, sI p3, sI rr, sI ff, sI tt, sI xa, sI xb, sI hz, sI xc, .val (.double dS), .second, .val (.double dM), .second, sR b1, sR b3, sR b15, sR b19, sI 1, sI on, .val (.double kp), .second, .unset, .unset] [(.int on)])) tZ := by
        intro kj
        by_cases hc297 : on = (0 : Int32)
        · try simp only [if_pos hc297] at kj
          refine XS.ifYes X27.here hx rfl (pc0 := 297) (pc' := 308) rfl (hb hby at_297) rfl ((if0 _ _).trans (teq hc297).1) (by decide) (by decide) ?_
          refine XS.dload X27.here hx rfl (hb hby at_308) rfl ?_
          exact kj
        · try simp only [if_neg hc297] at kj
          refine XS.ifNo X27.here hx rfl (hb hby at_297) rfl ((if0 _ _).trans (feq hc297).1) ?_
          refine XS.dload X27.here hx rfl (hb hby at_300) rfl ?_
          refine XS.dload X27.here hx rfl (hb hby at_302) rfl ?_
          refine XS.daddS X27.here hx rfl (hb hby at_304) rfl (own_add m_kp (hM.mono (by decide)) (by decide)) rfl ?_
          refine XS.goto X27.here hx rfl (pc0 := 305) (pc' := 310) rfl (hb hby at_305) (by decide) (by decide) ?_
          exact kj
      refine sg297 ?_
      show Steps p.tables e below (T27.setTop (mkF m 310 #[sI p0, sI p1, sI p2, sI p3, sI rr, sI ff, sI tt, sI xa, sI xb, sI hz, sI xc, .val (.double dS), .second, .val (.double dM), .second, sR b1, sR b3, sR b15, sR b19, sI 1, sI on, .val (.double kp), .second, .unset, .unset] [(.double (if on = (0 : Int32) then kp else (FP.dadd kp dM)))])) _
      refine XS.dstore X27.here hx rfl (hb hby at_310) rfl (l' := #[sI p0, sI p1, sI p2, sI p3, sI rr, sI ff, sI tt, sI xa, sI xb, sI hz, sI xc, .val (.double dS), .second, .val (.double dM), .second, sR b1, sR b3, sR b15, sR b19, sI 1, sI on, .val (.double kp), .second, .val (.double (if on = (0 : Int32) then kp else (FP.dadd kp dM))), .second]) rfl ?_
      exact kZ
    obtain ⟨wt, e_wt⟩ : ∃ z, z = (if on = (0 : Int32) then kp else (FP.dadd kp dM)) := ⟨_, rfl⟩
    rw [← e_wt]
    show Go p e below _ (T27.setTop (mkF m 312 #[sI p0, sI p1, sI p2, sI p3, sI rr, sI ff, sI tt, sI xa, sI xb, sI hz, sI xc, .val (.double dS), .second, .val (.double dM), .second, sR b1, sR b3, sR b15, sR b19, sI 1, sI on, .val (.double kp), .second, .val (.double wt), .second] []))
    refine Vi (T27.setTop (mkF m 325 #[sI p0, sI p1, sI p2, sI p3, sI rr, sI ff, sI tt, sI xa, sI xb, sI hz, sI xc, .val (.double dS), .second, .val (.double dM), .second, sR b1, sR b3, sR b15, sR b19, sI 1, sI on, .val (.double kp), .second, .val (.double wt), .second] [(.int tt), (.int ff), (.int rr), (.ref b19)])) (fun tZ kZ => ?_) ?_
    · refine XS.iload X27.here hx rfl (hb hby at_312) rfl ?_
      refine XS.ifNo X27.here hx rfl (hb hby at_314) rfl ((if0 _ _).trans (feq (by decide)).1) ?_
      refine XS.aload X27.here hx rfl (hb hby at_317) rfl rfl ?_
      refine XS.iload X27.here hx rfl (hb hby at_319) rfl ?_
      refine XS.iload X27.here hx rfl (hb hby at_321) rfl ?_
      refine XS.iload X27.here hx rfl (hb hby at_323) rfl ?_
      exact kZ
    have v3 : f1 rr.toNatClampNeg (ff + (1 : Int32)).toNatClampNeg tt.toNatClampNeg = FP.dadd kp (if on = 0 then 0 else FP.dadd 0 dM) := by
      rw [e_f1, e_kp, show on = own_on rr ff tt xa xb hz xc from e_on]
      show FP.dadd (FP.dmul 4606732058837280358 (f0 _ _ _)) (g0 _ _ _) = _
      rw [e_f0, e_g0, own_dgb (xc := xc) ha hb_ hr ht hf hc85]
    have q3 : cmpValue (FP.dcmp (f1 rr.toNatClampNeg (ff + (1 : Int32)).toNatClampNeg tt.toNatClampNeg) wt) .l = 0 := by
      rw [v3, e_wt]
      by_cases q : on = 0
      · rw [if_pos q, if_pos q]; exact own_kz m_kp (by decide)
      · rw [if_neg q, if_neg q, zM]; exact dcmpV_self (own_add m_kp (hM.mono (by decide)) (by decide)) _
    obtain ⟨cq29, kq29, q29a, q29b, q29c⟩ := isOf hZ rfl f27_0
    obtain ⟨_, _, ⟨T29, L29, k29, n29⟩, -, X29, ⟨Lc29, hQ29, l29, y29, z29⟩, st29⟩ := X27.virtualBack hx (y := y6) (z := y6) hown (wz hZ hw 51 rfl) (wz hZ hw 52 rfl) (notFace_of_selects (args := #[]) (wz hZ hw 54 rfl)) (wz hZ hw 54 rfl) (wz hZ hw 53 rfl) (by decide) (backOf (W := 0) (rm6 l Z a0 hw [] b19 rr ff tt b21_0 f1 T27.heap n0 Z27 f27_0 f27_1 G_f1 (own_xb hr) (own_f1 hf) (own_x3 ht)) hZ (wq hw 55 rfl) (wq hw 27 rfl) (by decide) (by decide)) q29a q29c (g := (mkF m 325 #[sI p0, sI p1, sI p2, sI p3, sI rr, sI ff, sI tt, sI xa, sI xb, sI hz, sI xc, .val (.double dS), .second, .val (.double dM), .second, sR b1, sR b3, sR b15, sR b19, sI 1, sI on, .val (.double kp), .second, .val (.double wt), .second] [(.int tt), (.int ff), (.int rr), (.ref b19)])) rfl (by rw [hml]; rfl) (Steps.refl _) (argsL := [(.int rr), (.int ff), (.int tt)]) (rest := []) (lenOf pd_5 rfl) rfl (leW rfl) (hb hby at_325) (fun _ _ => ⟨rfl, rfl, (by decide : 0 + 1 + 1 + 1 + 1 + 3 + 1 + 22 + 0 + 2 + 0 + 0 + 0 ≤ _), (by decide : 0 + 0 + 2 + 2 + 1 + 6 + 3 + 68 + 0 + 4 + 0 + 0 + 0 ≤ _)⟩)
    dsimp only [Pt.U, Pt.locs, Pt.cells, Pt.slots] at X29 l29 y29 z29 st29 hQ29
    subst l29 y29 z29
    obtain ⟨rfl, N29q, e29⟩ := hQ29
    have N29 := Fr.app N27 N29q
    refine Go.via (fun t k => st29.trans k) ?_
    refine Vi (T29.setTop (mkF m 352 #[sI p0, sI p1, sI p2, sI p3, sI rr, sI ff, sI tt, sI xa, sI xb, sI hz, sI xc, .val (.double dS), .second, .val (.double dM), .second, sR b1, sR b3, sR b15, sR b19, sI 1, sI on, .val (.double kp), .second, .val (.double wt), .second] [(.int xa), (.int (-1)), (.int 0), (.ref b19)])) (fun tZ kZ => ?_) ?_
    · refine XS.dload X29.here hx rfl (hb hby at_328) rfl ?_
      refine XS.dcmpS X29.here hx rfl (hb hby at_330) rfl (v := 0) q3 ?_
      refine XS.ifNo X29.here hx rfl (hb hby at_331) rfl ((if0 _ _).trans (teq (by decide)).2) ?_
      refine XS.iconst X29.here hx rfl (hb hby at_334) ?_
      refine XS.goto X29.here hx rfl (pc0 := 335) (pc' := 339) rfl (hb hby at_335) (by decide) (by decide) ?_
      refine XS.istore X29.here hx rfl (hb hby at_339) rfl (l' := #[sI p0, sI p1, sI p2, sI p3, sI rr, sI ff, sI tt, sI xa, sI xb, sI hz, sI xc, .val (.double dS), .second, .val (.double dM), .second, sR b1, sR b3, sR b15, sR b19, sI 1, sI on, .val (.double kp), .second, .val (.double wt), .second]) rfl ?_
      refine XS.iload X29.here hx rfl (hb hby at_341) rfl ?_
      refine XS.ifNo X29.here hx rfl (hb hby at_343) rfl ((if0 _ _).trans (feq (by decide)).1) ?_
      refine XS.aload X29.here hx rfl (hb hby at_346) rfl rfl ?_
      refine XS.iconst X29.here hx rfl (hb hby at_348) ?_
      refine XS.iconst X29.here hx rfl (hb hby at_349) ?_
      refine XS.iload X29.here hx rfl (hb hby at_350) rfl ?_
      exact kZ
    have q4 : f1 (0 : Int32).toNatClampNeg ((-1 : Int32) + (1 : Int32)).toNatClampNeg xa.toNatClampNeg = FP.dadd kp dM := by
      rw [e_f1, e_kp]
      show FP.dadd (FP.dmul 4606732058837280358 (f0 _ _ _)) (g0 _ _ _) = _
      rw [e_f0, e_g0, own_d4b ha hb_, zM]
    obtain ⟨cq30, kq30, q30a, q30b, q30c⟩ := isOf hZ e29 f27_0
    obtain ⟨_, _, ⟨T30, L30, k30, n30⟩, -, X30, ⟨Lc30, hQ30, l30, y30, z30⟩, st30⟩ := X29.virtualBack hx (y := y6) (z := y6) hown (wz hZ hw 51 rfl) (wz hZ hw 52 rfl) (notFace_of_selects (args := #[]) (wz hZ hw 54 rfl)) (wz hZ hw 54 rfl) (wz hZ hw 53 rfl) (by decide) (backOf (W := 0) (rm6 l Z a0 hw [] b19 (0 : Int32) (-1 : Int32) xa b21_0 f1 T27.heap n0 Z27 f27_0 f27_1 G_f1 (by decide) (by decide) (own_x3 ha)) hZ (wq hw 55 rfl) (wq hw 27 rfl) (by decide) (by decide)) q30a q30c (g := (mkF m 352 #[sI p0, sI p1, sI p2, sI p3, sI rr, sI ff, sI tt, sI xa, sI xb, sI hz, sI xc, .val (.double dS), .second, .val (.double dM), .second, sR b1, sR b3, sR b15, sR b19, sI 1, sI on, .val (.double kp), .second, .val (.double wt), .second] [(.int xa), (.int (-1)), (.int 0), (.ref b19)])) rfl (by rw [hml]; rfl) (Steps.refl _) (argsL := [(.int 0), (.int (-1)), (.int xa)]) (rest := []) (lenOf pd_5 rfl) rfl (leW rfl) (hb hby at_352) (fun _ _ => ⟨rfl, e29, (by decide : 0 + 1 + 1 + 1 + 1 + 3 + 1 + 22 + 0 + 2 + 0 + 0 + 0 + 0 ≤ _), (by decide : 0 + 0 + 2 + 2 + 1 + 6 + 3 + 68 + 0 + 4 + 0 + 0 + 0 + 0 ≤ _)⟩)
    dsimp only [Pt.U, Pt.locs, Pt.cells, Pt.slots] at X30 l30 y30 z30 st30 hQ30
    subst l30 y30 z30
    obtain ⟨rfl, N30q, e30⟩ := hQ30
    have N30 := Fr.app N29 N30q
    refine Go.via (fun t k => st30.trans k) ?_
    refine Vi (T30.setTop (mkF m 383 #[sI p0, sI p1, sI p2, sI p3, sI rr, sI ff, sI tt, sI xa, sI xb, sI hz, sI xc, .val (.double dS), .second, .val (.double dM), .second, sR b1, sR b3, sR b15, sR b19, sI 1, sI on, .val (.double kp), .second, .val (.double wt), .second] [(.int xb), (.int xa), (.int 0), (.ref b19)])) (fun tZ kZ => ?_) ?_
    · refine XS.dload X30.here hx rfl (hb hby at_355) rfl ?_
      refine XS.dload X30.here hx rfl (hb hby at_357) rfl ?_
      refine XS.daddS X30.here hx rfl (hb hby at_359) rfl (own_add m_kp (hM.mono (by decide)) (by decide)) rfl ?_
      refine XS.dcmpS X30.here hx rfl (hb hby at_360) rfl (v := 0) (by have z := dcmpV_self (own_add m_kp (hM.mono (by decide)) (by decide)) .l; rw [← q4] at z; rw [← q4]; exact z) ?_
      refine XS.ifNo X30.here hx rfl (hb hby at_361) rfl ((if0 _ _).trans (teq (by decide)).2) ?_
      refine XS.iconst X30.here hx rfl (hb hby at_364) ?_
      refine XS.goto X30.here hx rfl (pc0 := 365) (pc' := 369) rfl (hb hby at_365) (by decide) (by decide) ?_
      refine XS.istore X30.here hx rfl (hb hby at_369) rfl (l' := #[sI p0, sI p1, sI p2, sI p3, sI rr, sI ff, sI tt, sI xa, sI xb, sI hz, sI xc, .val (.double dS), .second, .val (.double dM), .second, sR b1, sR b3, sR b15, sR b19, sI 1, sI on, .val (.double kp), .second, .val (.double wt), .second]) rfl ?_
      refine XS.iload X30.here hx rfl (hb hby at_371) rfl ?_
      refine XS.ifNo X30.here hx rfl (hb hby at_373) rfl ((if0 _ _).trans (feq (by decide)).1) ?_
      refine XS.aload X30.here hx rfl (hb hby at_376) rfl rfl ?_
      refine XS.iconst X30.here hx rfl (hb hby at_378) ?_
      refine XS.iload X30.here hx rfl (hb hby at_379) rfl ?_
      refine XS.iload X30.here hx rfl (hb hby at_381) rfl ?_
      exact kZ
    have q5 : f1 (0 : Int32).toNatClampNeg (xa + (1 : Int32)).toNatClampNeg xb.toNatClampNeg = FP.dadd kp dM := by
      rw [e_f1, e_kp]
      show FP.dadd (FP.dmul 4606732058837280358 (f0 _ _ _)) (g0 _ _ _) = _
      rw [e_f0, e_g0, own_d5b ha hb_, zM]
    obtain ⟨cq31, kq31, q31a, q31b, q31c⟩ := isOf hZ e30 f27_0
    obtain ⟨_, _, ⟨T31, L31, k31, n31⟩, -, X31, ⟨Lc31, hQ31, l31, y31, z31⟩, st31⟩ := X30.virtualBack hx (y := y6) (z := y6) hown (wz hZ hw 51 rfl) (wz hZ hw 52 rfl) (notFace_of_selects (args := #[]) (wz hZ hw 54 rfl)) (wz hZ hw 54 rfl) (wz hZ hw 53 rfl) (by decide) (backOf (W := 0) (rm6 l Z a0 hw [] b19 (0 : Int32) xa xb b21_0 f1 T27.heap n0 Z27 f27_0 f27_1 G_f1 (by decide) (own_p1 ha) (own_x3 hb_)) hZ (wq hw 55 rfl) (wq hw 27 rfl) (by decide) (by decide)) q31a q31c (g := (mkF m 383 #[sI p0, sI p1, sI p2, sI p3, sI rr, sI ff, sI tt, sI xa, sI xb, sI hz, sI xc, .val (.double dS), .second, .val (.double dM), .second, sR b1, sR b3, sR b15, sR b19, sI 1, sI on, .val (.double kp), .second, .val (.double wt), .second] [(.int xb), (.int xa), (.int 0), (.ref b19)])) rfl (by rw [hml]; rfl) (Steps.refl _) (argsL := [(.int 0), (.int xa), (.int xb)]) (rest := []) (lenOf pd_5 rfl) rfl (leW rfl) (hb hby at_383) (fun _ _ => ⟨rfl, e30, (by decide : 0 + 1 + 1 + 1 + 1 + 3 + 1 + 22 + 0 + 2 + 0 + 0 + 0 + 0 + 0 ≤ _), (by decide : 0 + 0 + 2 + 2 + 1 + 6 + 3 + 68 + 0 + 4 + 0 + 0 + 0 + 0 + 0 ≤ _)⟩)
    dsimp only [Pt.U, Pt.locs, Pt.cells, Pt.slots] at X31 l31 y31 z31 st31 hQ31
    subst l31 y31 z31
    obtain ⟨rfl, N31q, e31⟩ := hQ31
    have N31 := Fr.app N30 N31q
    refine Go.via (fun t k => st31.trans k) ?_
    refine Vi (T31.setTop (mkF m 404 #[sI p0, sI p1, sI p2, sI p3, sI rr, sI ff, sI tt, sI xa, sI xb, sI hz, sI xc, .val (.double dS), .second, .val (.double dM), .second, sR b1, sR b3, sR b15, sR b19, sI 1, sI on, .val (.double kp), .second, .val (.double wt), .second] [(.int 1)])) (fun tZ kZ => ?_) ?_
    · refine XS.dload X31.here hx rfl (hb hby at_386) rfl ?_
      refine XS.dload X31.here hx rfl (hb hby at_388) rfl ?_
      refine XS.daddS X31.here hx rfl (hb hby at_390) rfl (own_add m_kp (hM.mono (by decide)) (by decide)) rfl ?_
      refine XS.dcmpS X31.here hx rfl (hb hby at_391) rfl (v := 0) (by have z := dcmpV_self (own_add m_kp (hM.mono (by decide)) (by decide)) .l; rw [← q5] at z; rw [← q5]; exact z) ?_
      refine XS.ifNo X31.here hx rfl (hb hby at_392) rfl ((if0 _ _).trans (teq (by decide)).2) ?_
      refine XS.iconst X31.here hx rfl (hb hby at_395) ?_
      refine XS.goto X31.here hx rfl (pc0 := 396) (pc' := 400) rfl (hb hby at_396) (by decide) (by decide) ?_
      refine XS.istore X31.here hx rfl (hb hby at_400) rfl (l' := #[sI p0, sI p1, sI p2, sI p3, sI rr, sI ff, sI tt, sI xa, sI xb, sI hz, sI xc, .val (.double dS), .second, .val (.double dM), .second, sR b1, sR b3, sR b15, sR b19, sI 1, sI on, .val (.double kp), .second, .val (.double wt), .second]) rfl ?_
      refine XS.iload X31.here hx rfl (hb hby at_402) rfl ?_
      exact kZ
    refine Go.retN X31 hx Bd.notSynchronized (t := .boolean) Bd.returns (by simp) (hb hby at_404) (by decide) (by decide) ?_
    exact ⟨rfl, N31⟩
  · refine Vi (s₁.setTop (mkF m 88 #[sI p0, sI p1, sI p2, sI p3, sI rr, sI ff, sI tt, sI xa, sI xb, sI hz, sI xc, .val (.double dS), .second, .val (.double dM), .second, .unset, .unset, .unset, .unset, .unset, .unset, .unset, .unset, .unset, .unset] [])) (fun tZ kZ => ?_) ?_
    · show Steps p.tables e below (s₁.setTop (mkF m 85 #[sI p0, sI p1, sI p2, sI p3, sI rr, sI ff, sI tt, sI xa, sI xb, sI hz, sI xc, .val (.double dS), .second, .val (.double dM), .second, .unset, .unset, .unset, .unset, .unset, .unset, .unset, .unset, .unset, .unset] [(.int hz)])) _
      refine XS.ifNo X0.here hx rfl (hb hby at_85) rfl ((if0 _ _).trans (feq hc85).1) ?_
      exact kZ
    refine Vi (s₁.setTop (mkF m 89 #[sI p0, sI p1, sI p2, sI p3, sI rr, sI ff, sI tt, sI xa, sI xb, sI hz, sI xc, .val (.double dS), .second, .val (.double dM), .second, .unset, .unset, .unset, .unset, .unset, .unset, .unset, .unset, .unset, .unset] [(.int 1)])) (fun tZ kZ => ?_) ?_
    · refine XS.iconst X0.here hx rfl (hb hby at_88) ?_
      exact kZ
    obtain ⟨T32, h32, k32, X32, e32, E32, A32, B32, st32⟩ := newPE X0 hx hZ (wq hw 2 rfl) e0 (g := (mkF m 89 #[sI p0, sI p1, sI p2, sI p3, sI rr, sI ff, sI tt, sI xa, sI xb, sI hz, sI xc, .val (.double dS), .second, .val (.double dM), .second, .unset, .unset, .unset, .unset, .unset, .unset, .unset, .unset, .unset, .unset] [(.int 1)])) rfl (hb hby at_89) rfl (by decide) (cap := 1) (by decide) (by decide) (by decide) (by decide) (ad := "[I") rfl
    obtain ⟨b32, g32⟩ : ∃ z, z = h0.size := ⟨_, rfl⟩
    rw [← g32] at A32 B32 st32
    have g_b32 : n0 ≤ b32 := Nat.le_trans Z0 (Nat.le_of_eq g32.symm)
    have sz_b32 : h0.size ≤ b32 := Nat.le_trans ((Keep.refl h0 [])).1 (Nat.le_of_eq g32.symm)
    have K32 : Keep h0 h32 [] := (Keep.refl h0 []).ext E32
    have Z32 := Nat.le_trans Z0 E32.1
    have V32 : AV Z h32 b32 .int 1 (fun k => .int ((fun _ => (0 : Int32)) k)) := by have q := AV.new A32; exact q
    refine Go.via st32 ?_
    refine Vi (T32.setTop (mkF m 95 #[sI p0, sI p1, sI p2, sI p3, sI rr, sI ff, sI tt, sI xa, sI xb, sI hz, sI xc, .val (.double dS), .second, .val (.double dM), .second, .unset, .unset, .unset, .unset, .unset, .unset, .unset, .unset, .unset, .unset] [(.int xc), (.int 0), (.ref b32), (.ref b32)])) (fun tZ kZ => ?_) ?_
    · refine XS.dup X32.here hx rfl (hb hby at_91) rfl rfl ?_
      refine XS.iconst X32.here hx rfl (hb hby at_92) ?_
      refine XS.iload X32.here hx rfl (hb hby at_93) rfl ?_
      exact kZ
    obtain ⟨T34, h34, X34, e34, W34, V34, st34⟩ := AV.iastore V32 X32 hx hZ e32 (j := (0 : Int32)) (by decide) (Ls := #[sI p0, sI p1, sI p2, sI p3, sI rr, sI ff, sI tt, sI xa, sI xb, sI hz, sI xc, .val (.double dS), .second, .val (.double dM), .second, .unset, .unset, .unset, .unset, .unset, .unset, .unset, .unset, .unset, .unset]) (rest := [(.ref b32)]) (hb hby at_95) (x := xc)
    have N34 := Fr.snoc X34 N0 g_b32
    have c35_1 := B32.wr W34
    have K34 : Keep h0 h34 [] := K32.wr W34 (Or.inr sz_b32)
    have Z34 := Nat.le_trans Z32 (Keep.of_wr W34).1
    refine Go.via st34 ?_
    refine Vi (T34.setTop (mkF m 102 #[sI p0, sI p1, sI p2, sI p3, sI rr, sI ff, sI tt, sI xa, sI xb, sI hz, sI xc, .val (.double dS), .second, .val (.double dM), .second, .unset, .unset, .unset, .unset, .unset, .unset, .unset, .unset, .unset, .unset] [(.ref b32)])) (fun tZ kZ => ?_) ?_
    · refine XS.goto X34.here hx rfl (pc0 := 96) (pc' := 102) rfl (hb hby at_96) (by decide) (by decide) ?_
      exact kZ
    refine Vi (T34.setTop (mkF m 105 #[sI p0, sI p1, sI p2, sI p3, sI rr, sI ff, sI tt, sI xa, sI xb, sI hz, sI xc, .val (.double dS), .second, .val (.double dM), .second, sR b32, .unset, .unset, .unset, .unset, .unset, .unset, .unset, .unset, .unset] [(.int 2)])) (fun tZ kZ => ?_) ?_
    · refine XS.astore X34.here hx rfl (hb hby at_102) rfl rfl (l' := #[sI p0, sI p1, sI p2, sI p3, sI rr, sI ff, sI tt, sI xa, sI xb, sI hz, sI xc, .val (.double dS), .second, .val (.double dM), .second, sR b32, .unset, .unset, .unset, .unset, .unset, .unset, .unset, .unset, .unset]) rfl ?_
      refine XS.iconst X34.here hx rfl (hb hby at_104) ?_
      exact kZ
    obtain ⟨T36, h36, k36, X36, e36, E36, A36, B36, O36, st36⟩ := newRA X34 hx hZ hown (C := "[I") (ty := .int) rfl (wq hw 3 rfl) (wq hw 4 rfl) e34 (g := (mkF m 105 #[sI p0, sI p1, sI p2, sI p3, sI rr, sI ff, sI tt, sI xa, sI xb, sI hz, sI xc, .val (.double dS), .second, .val (.double dM), .second, sR b32, .unset, .unset, .unset, .unset, .unset, .unset, .unset, .unset, .unset] [(.int 2)])) rfl (hb hby at_105) rfl (by decide) (cap := 2) (by decide) (by decide) (by decide) (by decide) (ad := "[[I") rfl
    obtain ⟨b36, g36⟩ : ∃ z, z = h34.size := ⟨_, rfl⟩
    rw [← g36] at A36 B36 st36
    have g_b36 : n0 ≤ b36 := Nat.le_trans Z34 (Nat.le_of_eq g36.symm)
    have sz_b36 : h0.size ≤ b36 := Nat.le_trans (K34).1 (Nat.le_of_eq g36.symm)
    have ne_b32_b36 : b32 ≠ b36 := Nat.ne_of_lt (Nat.lt_of_lt_of_le c35_1.lt (Nat.le_of_eq g36.symm))
    have lt_b32_b36 : (b32 : Nat) < b36 := Nat.lt_of_lt_of_le c35_1.lt (Nat.le_of_eq g36.symm)
    have c37_1 := c35_1.ext E36
    have c37_2 := V34.ext E36
    have K36 : Keep h0 h36 [] := K34.ext E36
    have Z36 := Nat.le_trans Z34 E36.1
    have V36 : AV Z h36 b36 (.array .int) 2 (fun _ => Value.null) := by have q := AV.new A36; exact q
    have OV36 : OV Z h36 b36 .int "[I" := ⟨_, A36.1, O36⟩
    refine Go.via st36 ?_
    refine Vi (T36.setTop (mkF m 111 #[sI p0, sI p1, sI p2, sI p3, sI rr, sI ff, sI tt, sI xa, sI xb, sI hz, sI xc, .val (.double dS), .second, .val (.double dM), .second, sR b32, .unset, .unset, .unset, .unset, .unset, .unset, .unset, .unset, .unset] [(.int 2), (.int 0), (.ref b36), (.ref b36)])) (fun tZ kZ => ?_) ?_
    · refine XS.dup X36.here hx rfl (hb hby at_108) rfl rfl ?_
      refine XS.iconst X36.here hx rfl (hb hby at_109) ?_
      refine XS.iconst X36.here hx rfl (hb hby at_110) ?_
      exact kZ
    obtain ⟨T38, h38, k38, X38, e38, E38, A38, B38, st38⟩ := newPE X36 hx hZ (wq hw 2 rfl) e36 (g := (mkF m 111 #[sI p0, sI p1, sI p2, sI p3, sI rr, sI ff, sI tt, sI xa, sI xb, sI hz, sI xc, .val (.double dS), .second, .val (.double dM), .second, sR b32, .unset, .unset, .unset, .unset, .unset, .unset, .unset, .unset, .unset] [(.int 2), (.int 0), (.ref b36), (.ref b36)])) rfl (hb hby at_111) rfl (by decide) (cap := 2) (by decide) (by decide) (by decide) (by decide) (ad := "[I") rfl
    obtain ⟨b38, g38⟩ : ∃ z, z = h36.size := ⟨_, rfl⟩
    rw [← g38] at A38 B38 st38
    have g_b38 : n0 ≤ b38 := Nat.le_trans Z36 (Nat.le_of_eq g38.symm)
    have sz_b38 : h0.size ≤ b38 := Nat.le_trans (K36).1 (Nat.le_of_eq g38.symm)
    have ne_b32_b38 : b32 ≠ b38 := Nat.ne_of_lt (Nat.lt_of_lt_of_le c37_1.lt (Nat.le_of_eq g38.symm))
    have ne_b36_b38 : b36 ≠ b38 := Nat.ne_of_lt (Nat.lt_of_lt_of_le V36.lt (Nat.le_of_eq g38.symm))
    have lt_b32_b38 : (b32 : Nat) < b38 := Nat.lt_of_lt_of_le c37_1.lt (Nat.le_of_eq g38.symm)
    have lt_b36_b38 : (b36 : Nat) < b38 := Nat.lt_of_lt_of_le V36.lt (Nat.le_of_eq g38.symm)
    have c39_1 := c37_1.ext E38
    have c39_2 := c37_2.ext E38
    have c39_4 := V36.ext E38
    have c39_5 := B36.ext E38
    have c39_6 := OV36.ext E38
    have K38 : Keep h0 h38 [] := K36.ext E38
    have Z38 := Nat.le_trans Z36 E38.1
    have V38 : AV Z h38 b38 .int 2 (fun k => .int ((fun _ => (0 : Int32)) k)) := by have q := AV.new A38; exact q
    refine Go.via st38 ?_
    refine Vi (T38.setTop (mkF m 117 #[sI p0, sI p1, sI p2, sI p3, sI rr, sI ff, sI tt, sI xa, sI xb, sI hz, sI xc, .val (.double dS), .second, .val (.double dM), .second, sR b32, .unset, .unset, .unset, .unset, .unset, .unset, .unset, .unset, .unset] [(.int xa), (.int 0), (.ref b38), (.ref b38), (.int 0), (.ref b36), (.ref b36)])) (fun tZ kZ => ?_) ?_
    · refine XS.dup X38.here hx rfl (hb hby at_113) rfl rfl ?_
      refine XS.iconst X38.here hx rfl (hb hby at_114) ?_
      refine XS.iload X38.here hx rfl (hb hby at_115) rfl ?_
      exact kZ
    obtain ⟨T40, h40, X40, e40, W40, V40, st40⟩ := AV.iastore V38 X38 hx hZ e38 (j := (0 : Int32)) (by decide) (Ls := #[sI p0, sI p1, sI p2, sI p3, sI rr, sI ff, sI tt, sI xa, sI xb, sI hz, sI xc, .val (.double dS), .second, .val (.double dM), .second, sR b32, .unset, .unset, .unset, .unset, .unset, .unset, .unset, .unset, .unset]) (rest := [(.ref b38), (.int 0), (.ref b36), (.ref b36)]) (hb hby at_117) (x := xa)
    have N40 := Fr.snoc X40 N34 g_b38
    have c41_1 := c39_1.wr W40
    have c41_2 := c39_2.other W40 ne_b32_b38
    have c41_4 := c39_4.other W40 ne_b36_b38
    have c41_5 := c39_5.wr W40
    have c41_6 := c39_6.wr W40
    have c41_8 := B38.wr W40
    have K40 : Keep h0 h40 [] := K38.wr W40 (Or.inr sz_b38)
    have Z40 := Nat.le_trans Z38 (Keep.of_wr W40).1
    refine Go.via st40 ?_
    refine Vi (T40.setTop (mkF m 122 #[sI p0, sI p1, sI p2, sI p3, sI rr, sI ff, sI tt, sI xa, sI xb, sI hz, sI xc, .val (.double dS), .second, .val (.double dM), .second, sR b32, .unset, .unset, .unset, .unset, .unset, .unset, .unset, .unset, .unset] [(.int xb), (.int 1), (.ref b38), (.ref b38), (.int 0), (.ref b36), (.ref b36)])) (fun tZ kZ => ?_) ?_
    · refine XS.dup X40.here hx rfl (hb hby at_118) rfl rfl ?_
      refine XS.iconst X40.here hx rfl (hb hby at_119) ?_
      refine XS.iload X40.here hx rfl (hb hby at_120) rfl ?_
      exact kZ
    obtain ⟨T42, h42, X42, e42, W42, V42, st42⟩ := AV.iastore V40 X40 hx hZ e40 (j := (1 : Int32)) (by decide) (Ls := #[sI p0, sI p1, sI p2, sI p3, sI rr, sI ff, sI tt, sI xa, sI xb, sI hz, sI xc, .val (.double dS), .second, .val (.double dM), .second, sR b32, .unset, .unset, .unset, .unset, .unset, .unset, .unset, .unset, .unset]) (rest := [(.ref b38), (.int 0), (.ref b36), (.ref b36)]) (hb hby at_122) (x := xb)
    have N42 := Fr.snoc X42 N40 g_b38
    have c43_1 := c41_1.wr W42
    have c43_2 := c41_2.other W42 ne_b32_b38
    have c43_4 := c41_4.other W42 ne_b36_b38
    have c43_5 := c41_5.wr W42
    have c43_6 := c41_6.wr W42
    have c43_8 := c41_8.wr W42
    have K42 : Keep h0 h42 [] := K40.wr W42 (Or.inr sz_b38)
    have Z42 := Nat.le_trans Z40 (Keep.of_wr W42).1
    refine Go.via st42 ?_
    obtain ⟨T44, h44, X44, e44, W44, V44, st44⟩ := AV.aastore c43_4 rfl (OV.sto c43_6 c43_4 (Ins.self c43_8)) X42 hx hZ e42 (j := (0 : Int32)) (by decide) (Ls := #[sI p0, sI p1, sI p2, sI p3, sI rr, sI ff, sI tt, sI xa, sI xb, sI hz, sI xc, .val (.double dS), .second, .val (.double dM), .second, sR b32, .unset, .unset, .unset, .unset, .unset, .unset, .unset, .unset, .unset]) (rest := [(.ref b36)]) (hb hby at_123) (v := (.ref b38))
    have N44 := Fr.snoc X44 N42 g_b36
    have c45_1 := c43_1.wr W44
    have c45_2 := c43_2.other W44 ne_b32_b36
    have c45_5 := c43_5.wr W44
    have c45_6 := c43_6.wr W44
    have c45_8 := c43_8.wr W44
    have c45_9 := V42.other W44 (Ne.symm ne_b36_b38)
    have K44 : Keep h0 h44 [] := K42.wr W44 (Or.inr sz_b36)
    have Z44 := Nat.le_trans Z42 (Keep.of_wr W44).1
    refine Go.via st44 ?_
    refine Vi (T44.setTop (mkF m 128 #[sI p0, sI p1, sI p2, sI p3, sI rr, sI ff, sI tt, sI xa, sI xb, sI hz, sI xc, .val (.double dS), .second, .val (.double dM), .second, sR b32, .unset, .unset, .unset, .unset, .unset, .unset, .unset, .unset, .unset] [(.ref b32), (.int 1), (.ref b36), (.ref b36)])) (fun tZ kZ => ?_) ?_
    · refine XS.dup X44.here hx rfl (hb hby at_124) rfl rfl ?_
      refine XS.iconst X44.here hx rfl (hb hby at_125) ?_
      refine XS.aload X44.here hx rfl (hb hby at_126) rfl rfl ?_
      exact kZ
    obtain ⟨T46, h46, X46, e46, W46, V46, st46⟩ := AV.aastore V44 rfl (OV.sto c45_6 V44 (Ins.self c45_1)) X44 hx hZ e44 (j := (1 : Int32)) (by decide) (Ls := #[sI p0, sI p1, sI p2, sI p3, sI rr, sI ff, sI tt, sI xa, sI xb, sI hz, sI xc, .val (.double dS), .second, .val (.double dM), .second, sR b32, .unset, .unset, .unset, .unset, .unset, .unset, .unset, .unset, .unset]) (rest := [(.ref b36)]) (hb hby at_128) (v := (.ref b32))
    have N46 := Fr.snoc X46 N44 g_b36
    have c47_1 := c45_1.wr W46
    have c47_2 := c45_2.other W46 ne_b32_b36
    have c47_5 := c45_5.wr W46
    have c47_6 := c45_6.wr W46
    have c47_8 := c45_8.wr W46
    have c47_9 := c45_9.other W46 (Ne.symm ne_b36_b38)
    have K46 : Keep h0 h46 [] := K44.wr W46 (Or.inr sz_b36)
    have Z46 := Nat.le_trans Z44 (Keep.of_wr W46).1
    refine Go.via st46 ?_
    refine Vi (T46.setTop (mkF m 131 #[sI p0, sI p1, sI p2, sI p3, sI rr, sI ff, sI tt, sI xa, sI xb, sI hz, sI xc, .val (.double dS), .second, .val (.double dM), .second, sR b32, sR b36, .unset, .unset, .unset, .unset, .unset, .unset, .unset, .unset] [])) (fun tZ kZ => ?_) ?_
    · refine XS.astore X46.here hx rfl (hb hby at_129) rfl rfl (l' := #[sI p0, sI p1, sI p2, sI p3, sI rr, sI ff, sI tt, sI xa, sI xb, sI hz, sI xc, .val (.double dS), .second, .val (.double dM), .second, sR b32, sR b36, .unset, .unset, .unset, .unset, .unset, .unset, .unset, .unset]) rfl ?_
      exact kZ
    obtain ⟨T48, h48, X48, e48, E48, A48, D48, -, st48⟩ := newO X46 hx hZ hown (wq hw 6 rfl) (wq hw 7 rfl) (wq hw 8 rfl) e46 (g := (mkF m 131 #[sI p0, sI p1, sI p2, sI p3, sI rr, sI ff, sI tt, sI xa, sI xb, sI hz, sI xc, .val (.double dS), .second, .val (.double dM), .second, sR b32, sR b36, .unset, .unset, .unset, .unset, .unset, .unset, .unset, .unset] [])) rfl (hb hby at_131) (by decide) (by decide)
    obtain ⟨b48, g48⟩ : ∃ z, z = h46.size := ⟨_, rfl⟩
    rw [← g48] at A48 D48 st48
    have g_b48 : n0 ≤ b48 := Nat.le_trans Z46 (Nat.le_of_eq g48.symm)
    have sz_b48 : h0.size ≤ b48 := Nat.le_trans (K46).1 (Nat.le_of_eq g48.symm)
    have ne_b32_b48 : b32 ≠ b48 := Nat.ne_of_lt (Nat.lt_of_lt_of_le c47_1.lt (Nat.le_of_eq g48.symm))
    have ne_b36_b48 : b36 ≠ b48 := Nat.ne_of_lt (Nat.lt_of_lt_of_le V46.lt (Nat.le_of_eq g48.symm))
    have ne_b38_b48 : b38 ≠ b48 := Nat.ne_of_lt (Nat.lt_of_lt_of_le c47_8.lt (Nat.le_of_eq g48.symm))
    have lt_b32_b48 : (b32 : Nat) < b48 := Nat.lt_of_lt_of_le c47_1.lt (Nat.le_of_eq g48.symm)
    have lt_b36_b48 : (b36 : Nat) < b48 := Nat.lt_of_lt_of_le V46.lt (Nat.le_of_eq g48.symm)
    have lt_b38_b48 : (b38 : Nat) < b48 := Nat.lt_of_lt_of_le c47_8.lt (Nat.le_of_eq g48.symm)
    have c49_1 := c47_1.ext E48
    have c49_2 := c47_2.ext E48
    have c49_4 := V46.ext E48
    have c49_5 := c47_5.ext E48
    have c49_6 := c47_6.ext E48
    have c49_8 := c47_8.ext E48
    have c49_9 := c47_9.ext E48
    have K48 : Keep h0 h48 [] := K46.ext E48
    have Z48 := Nat.le_trans Z46 E48.1
    have F48_routes : Fld Z h48 b48 "com/example/muster/muster/core/MpdaPlan" "routes" "[[I" .null := D48 (Or.inr (wq hw 17 rfl)) (ty := (.array (.array .int))) (by decide)
    refine Go.via st48 ?_
    refine Vi (T48.setTop (mkF m 137 #[sI p0, sI p1, sI p2, sI p3, sI rr, sI ff, sI tt, sI xa, sI xb, sI hz, sI xc, .val (.double dS), .second, .val (.double dM), .second, sR b32, sR b36, .unset, .unset, .unset, .unset, .unset, .unset, .unset, .unset] [(.ref b36), (.ref b48), (.ref b48)])) (fun tZ kZ => ?_) ?_
    · refine XS.dup X48.here hx rfl (hb hby at_134) rfl rfl ?_
      refine XS.aload X48.here hx rfl (hb hby at_135) rfl rfl ?_
      exact kZ
    have VR : AV Z h48 b36 (.array .int) 2 (own_b2 b38 b32) := c49_4.congr (fun j hj => by rcases (show j = 0 ∨ j = 1 by omega) with rfl | rfl <;> rfl)
    have VR0 : AV Z h48 b38 .int 2 (fun k => .int ((own_2 xa xb) k)) := c49_9.congr (fun j hj => by rcases (show j = 0 ∨ j = 1 by omega) with rfl | rfl <;> rfl)
    have VR1 : AV Z h48 b32 .int 1 (fun k => .int ((fun _ => xc) k)) := c49_2.congr (fun j hj => by obtain rfl : j = 0 := (by omega); rfl)
    obtain ⟨_, _, ⟨T50, L50, k50, n50⟩, -, X50, ⟨Lc50, hQ50, l50, y50, z50⟩, st50⟩ := X48.specialBack hx (y := y1) rfl hown (wz hZ hw 9 rfl) (wz hZ hw 10 rfl) (wz hZ hw 11 rfl) (by decide) (backOf (W := 1) (rm1a l Z a0 hw [] b48 b36 b38 b32 xa xb xc h48 n0 Z48 A48 F48_routes g_b48 c49_8 c49_1 VR VR0 VR1 (Ne.symm ne_b36_b48) (Ne.symm ne_b38_b48) (Ne.symm ne_b32_b48) ne_b36_b38 (Ne.symm ne_b32_b36) (Ne.symm ne_b32_b38)) hZ (wq hw 11 rfl) (wq hw 8 rfl) (by decide) (by decide)) (g := (mkF m 137 #[sI p0, sI p1, sI p2, sI p3, sI rr, sI ff, sI tt, sI xa, sI xb, sI hz, sI xc, .val (.double dS), .second, .val (.double dM), .second, sR b32, sR b36, .unset, .unset, .unset, .unset, .unset, .unset, .unset, .unset] [(.ref b36), (.ref b48), (.ref b48)])) rfl (by rw [hml]; rfl) (Steps.refl _) (a := b48) (argsL := [(.ref b36)]) (rest := [(.ref b48)]) (lenOf pd_0 rfl) rfl (leW rfl) (hb hby at_137) (fun _ _ => ⟨rfl, e48, (by decide : 0 + 1 + 1 + 1 + 1 + 3 ≤ _), (by decide : 0 + 1 + 2 + 2 + 1 + 6 ≤ _)⟩)
    dsimp only [Pt.U, Pt.locs, Pt.cells, Pt.slots] at X50 l50 y50 z50 st50 hQ50
    subst l50 y50 z50
    obtain ⟨rfl, N50q, b50_0, b50_1, b50_2, hz_b50_0, hz_b50_1, hz_b50_2, ne_b50_0_b50_1, ne_b50_0_b50_2, ne_b50_1_b50_2, Kq50, f50_0, f50_1, f50_2, f50_3, f50_4, f50_5, f50_6, f50_7, f50_8, f50_9, f50_10, f50_11, f50_12, f50_13⟩ := hQ50
    have g_b50_0 : n0 ≤ b50_0 := Nat.le_trans Z48 hz_b50_0
    have sz_b50_0 : h0.size ≤ b50_0 := Nat.le_trans (K48).1 hz_b50_0
    have ne_b32_b50_0 : b32 ≠ b50_0 := Nat.ne_of_lt (Nat.lt_of_lt_of_le c49_1.lt hz_b50_0)
    have ne_b36_b50_0 : b36 ≠ b50_0 := Nat.ne_of_lt (Nat.lt_of_lt_of_le VR.lt hz_b50_0)
    have ne_b38_b50_0 : b38 ≠ b50_0 := Nat.ne_of_lt (Nat.lt_of_lt_of_le c49_8.lt hz_b50_0)
    have ne_b48_b50_0 : b48 ≠ b50_0 := Nat.ne_of_lt (Nat.lt_of_lt_of_le A48.lt hz_b50_0)
    have lt_b32_b50_0 : (b32 : Nat) < b50_0 := Nat.lt_of_lt_of_le c49_1.lt hz_b50_0
    have lt_b36_b50_0 : (b36 : Nat) < b50_0 := Nat.lt_of_lt_of_le VR.lt hz_b50_0
    have lt_b38_b50_0 : (b38 : Nat) < b50_0 := Nat.lt_of_lt_of_le c49_8.lt hz_b50_0
    have lt_b48_b50_0 : (b48 : Nat) < b50_0 := Nat.lt_of_lt_of_le A48.lt hz_b50_0
    have g_b50_1 : n0 ≤ b50_1 := Nat.le_trans Z48 hz_b50_1
    have sz_b50_1 : h0.size ≤ b50_1 := Nat.le_trans (K48).1 hz_b50_1
    have ne_b32_b50_1 : b32 ≠ b50_1 := Nat.ne_of_lt (Nat.lt_of_lt_of_le c49_1.lt hz_b50_1)
    have ne_b36_b50_1 : b36 ≠ b50_1 := Nat.ne_of_lt (Nat.lt_of_lt_of_le VR.lt hz_b50_1)
    have ne_b38_b50_1 : b38 ≠ b50_1 := Nat.ne_of_lt (Nat.lt_of_lt_of_le c49_8.lt hz_b50_1)
    have ne_b48_b50_1 : b48 ≠ b50_1 := Nat.ne_of_lt (Nat.lt_of_lt_of_le A48.lt hz_b50_1)
    have lt_b32_b50_1 : (b32 : Nat) < b50_1 := Nat.lt_of_lt_of_le c49_1.lt hz_b50_1
    have lt_b36_b50_1 : (b36 : Nat) < b50_1 := Nat.lt_of_lt_of_le VR.lt hz_b50_1
    have lt_b38_b50_1 : (b38 : Nat) < b50_1 := Nat.lt_of_lt_of_le c49_8.lt hz_b50_1
    have lt_b48_b50_1 : (b48 : Nat) < b50_1 := Nat.lt_of_lt_of_le A48.lt hz_b50_1
    have g_b50_2 : n0 ≤ b50_2 := Nat.le_trans Z48 hz_b50_2
    have sz_b50_2 : h0.size ≤ b50_2 := Nat.le_trans (K48).1 hz_b50_2
    have ne_b32_b50_2 : b32 ≠ b50_2 := Nat.ne_of_lt (Nat.lt_of_lt_of_le c49_1.lt hz_b50_2)
    have ne_b36_b50_2 : b36 ≠ b50_2 := Nat.ne_of_lt (Nat.lt_of_lt_of_le VR.lt hz_b50_2)
    have ne_b38_b50_2 : b38 ≠ b50_2 := Nat.ne_of_lt (Nat.lt_of_lt_of_le c49_8.lt hz_b50_2)
    have ne_b48_b50_2 : b48 ≠ b50_2 := Nat.ne_of_lt (Nat.lt_of_lt_of_le A48.lt hz_b50_2)
    have lt_b32_b50_2 : (b32 : Nat) < b50_2 := Nat.lt_of_lt_of_le c49_1.lt hz_b50_2
    have lt_b36_b50_2 : (b36 : Nat) < b50_2 := Nat.lt_of_lt_of_le VR.lt hz_b50_2
    have lt_b38_b50_2 : (b38 : Nat) < b50_2 := Nat.lt_of_lt_of_le c49_8.lt hz_b50_2
    have lt_b48_b50_2 : (b48 : Nat) < b50_2 := Nat.lt_of_lt_of_le A48.lt hz_b50_2
    have c51_5 := c49_5.keep Kq50
    have c51_6 := c49_6.keep Kq50
    have K50 : Keep h0 T50.heap [] := K48.trans Kq50 (allS (Or.inr sz_b48) all0)
    have Z50 := Nat.le_trans Z48 Kq50.1
    have N50 := Fr.app N46 N50q
    refine Go.via (fun t k => st50.trans k) ?_
    refine Vi (T50.setTop (mkF m 142 #[sI p0, sI p1, sI p2, sI p3, sI rr, sI ff, sI tt, sI xa, sI xb, sI hz, sI xc, .val (.double dS), .second, .val (.double dM), .second, sR b32, sR b36, sR b48, .unset, .unset, .unset, .unset, .unset, .unset, .unset] [])) (fun tZ kZ => ?_) ?_
    · refine XS.astore X50.here hx rfl (hb hby at_140) rfl rfl (l' := #[sI p0, sI p1, sI p2, sI p3, sI rr, sI ff, sI tt, sI xa, sI xb, sI hz, sI xc, .val (.double dS), .second, .val (.double dM), .second, sR b32, sR b36, sR b48, .unset, .unset, .unset, .unset, .unset, .unset, .unset]) rfl ?_
      exact kZ
    obtain ⟨T52, h52, X52, e52, E52, A52, D52, -, st52⟩ := newO X50 hx hZ hown (wq hw 25 rfl) (wq hw 26 rfl) (wq hw 27 rfl) rfl (g := (mkF m 142 #[sI p0, sI p1, sI p2, sI p3, sI rr, sI ff, sI tt, sI xa, sI xb, sI hz, sI xc, .val (.double dS), .second, .val (.double dM), .second, sR b32, sR b36, sR b48, .unset, .unset, .unset, .unset, .unset, .unset, .unset] [])) rfl (hb hby at_142) (by decide) (by decide)
    obtain ⟨b52, g52⟩ : ∃ z, z = T50.heap.size := ⟨_, rfl⟩
    rw [← g52] at A52 D52 st52
    have g_b52 : n0 ≤ b52 := Nat.le_trans Z50 (Nat.le_of_eq g52.symm)
    have sz_b52 : h0.size ≤ b52 := Nat.le_trans (K50).1 (Nat.le_of_eq g52.symm)
    have ne_b32_b52 : b32 ≠ b52 := Nat.ne_of_lt (Nat.lt_of_lt_of_le f50_3.lt (Nat.le_of_eq g52.symm))
    have ne_b36_b52 : b36 ≠ b52 := Nat.ne_of_lt (Nat.lt_of_lt_of_le f50_4.lt (Nat.le_of_eq g52.symm))
    have ne_b38_b52 : b38 ≠ b52 := Nat.ne_of_lt (Nat.lt_of_lt_of_le f50_2.lt (Nat.le_of_eq g52.symm))
    have ne_b48_b52 : b48 ≠ b52 := Nat.ne_of_lt (Nat.lt_of_lt_of_le f50_0.lt (Nat.le_of_eq g52.symm))
    have ne_b50_0_b52 : b50_0 ≠ b52 := Nat.ne_of_lt (Nat.lt_of_lt_of_le f50_7.lt (Nat.le_of_eq g52.symm))
    have ne_b50_1_b52 : b50_1 ≠ b52 := Nat.ne_of_lt (Nat.lt_of_lt_of_le f50_10.lt (Nat.le_of_eq g52.symm))
    have ne_b50_2_b52 : b50_2 ≠ b52 := Nat.ne_of_lt (Nat.lt_of_lt_of_le f50_12.lt (Nat.le_of_eq g52.symm))
    have lt_b48_b52 : (b48 : Nat) < b52 := Nat.lt_of_lt_of_le f50_0.lt (Nat.le_of_eq g52.symm)
    have lt_b50_2_b52 : (b50_2 : Nat) < b52 := Nat.lt_of_lt_of_le f50_12.lt (Nat.le_of_eq g52.symm)
    have lt_b38_b52 : (b38 : Nat) < b52 := Nat.lt_of_lt_of_le f50_2.lt (Nat.le_of_eq g52.symm)
    have lt_b50_0_b52 : (b50_0 : Nat) < b52 := Nat.lt_of_lt_of_le f50_7.lt (Nat.le_of_eq g52.symm)
    have lt_b32_b52 : (b32 : Nat) < b52 := Nat.lt_of_lt_of_le f50_3.lt (Nat.le_of_eq g52.symm)
    have lt_b36_b52 : (b36 : Nat) < b52 := Nat.lt_of_lt_of_le f50_4.lt (Nat.le_of_eq g52.symm)
    have lt_b50_1_b52 : (b50_1 : Nat) < b52 := Nat.lt_of_lt_of_le f50_10.lt (Nat.le_of_eq g52.symm)
    have c53_1 := f50_3.ext E52
    have c53_2 := f50_6.ext E52
    have c53_4 := f50_4.ext E52
    have c53_5 := c51_5.ext E52
    have c53_6 := c51_6.ext E52
    have c53_8 := f50_2.ext E52
    have c53_9 := f50_5.ext E52
    have c53_11 := f50_0.ext E52
    have c53_12 := f50_1.ext E52
    have c53_13 := f50_7.ext E52
    have c53_14 := f50_8.ext E52
    have c53_15 := f50_9.ext E52
    have c53_16 := f50_10.ext E52
    have c53_17 := f50_11.ext E52
    have c53_18 := f50_12.ext E52
    have c53_19 := f50_13.ext E52
    have K52 : Keep h0 h52 [] := K50.ext E52
    have Z52 := Nat.le_trans Z50 E52.1
    have F52_initial : Fld Z h52 b52 "com/example/muster/muster/solvers/Pheromone" "initial" "D" (.double 0) := D52 (Or.inr (wq hw 33 rfl)) (ty := .double) (by decide)
    have F52_value : Fld Z h52 b52 "com/example/muster/muster/solvers/Pheromone" "value" "[[[D" .null := D52 (Or.inr (wq hw 39 rfl)) (ty := (.array (.array (.array .double)))) (by decide)
    have F52_deposited : Fld Z h52 b52 "com/example/muster/muster/solvers/Pheromone" "deposited" "[[[D" .null := D52 (Or.inr (wq hw 41 rfl)) (ty := (.array (.array (.array .double)))) (by decide)
    refine Go.via st52 ?_
    refine Vi (T52.setTop (mkF m 150 #[sI p0, sI p1, sI p2, sI p3, sI rr, sI ff, sI tt, sI xa, sI xb, sI hz, sI xc, .val (.double dS), .second, .val (.double dM), .second, sR b32, sR b36, sR b48, .unset, .unset, .unset, .unset, .unset, .unset, .unset] [(.double dS), (.int 3), (.int 2), (.ref b52), (.ref b52)])) (fun tZ kZ => ?_) ?_
    · refine XS.dup X52.here hx rfl (hb hby at_145) rfl rfl ?_
      refine XS.iconst X52.here hx rfl (hb hby at_146) ?_
      refine XS.iconst X52.here hx rfl (hb hby at_147) ?_
      refine XS.dload X52.here hx rfl (hb hby at_148) rfl ?_
      exact kZ
    obtain ⟨_, _, ⟨T54, L54, k54, n54⟩, -, X54, ⟨Lc54, hQ54, l54, y54, z54⟩, st54⟩ := X52.specialBack hx (y := y3) rfl hown (wz hZ hw 28 rfl) (wz hZ hw 29 rfl) (wz hZ hw 30 rfl) (by decide) (backOf (W := 1) (rm3 l Z a0 hw [] b52 dS h52 n0 Z52 A52 F52_initial F52_value F52_deposited g_b52) hZ (wq hw 30 rfl) (wq hw 27 rfl) (by decide) (by decide)) (g := (mkF m 150 #[sI p0, sI p1, sI p2, sI p3, sI rr, sI ff, sI tt, sI xa, sI xb, sI hz, sI xc, .val (.double dS), .second, .val (.double dM), .second, sR b32, sR b36, sR b48, .unset, .unset, .unset, .unset, .unset, .unset, .unset] [(.double dS), (.int 3), (.int 2), (.ref b52), (.ref b52)])) rfl (by rw [hml]; rfl) (Steps.refl _) (a := b52) (argsL := [(.int 2), (.int 3), (.double dS)]) (rest := [(.ref b52)]) (lenOf pd_3 rfl) rfl (leW rfl) (hb hby at_150) (fun _ _ => ⟨rfl, e52, (by decide : 0 + 1 + 1 + 1 + 1 + 3 + 1 + 22 ≤ _), (by decide : 0 + 1 + 2 + 2 + 1 + 6 + 3 + 68 ≤ _)⟩)
    dsimp only [Pt.U, Pt.locs, Pt.cells, Pt.slots] at X54 l54 y54 z54 st54 hQ54
    subst l54 y54 z54
    obtain ⟨rfl, N54q, b54_0, b54_1, hz_b54_0, hz_b54_1, ne_b54_0_b54_1, Kq54, f54_0, f54_1, f54_2, f54_3, f54_4, f54_5, f54_6⟩ := hQ54
    have g_b54_0 : n0 ≤ b54_0 := Nat.le_trans Z52 hz_b54_0
    have sz_b54_0 : h0.size ≤ b54_0 := Nat.le_trans (K52).1 hz_b54_0
    have ne_b32_b54_0 : b32 ≠ b54_0 := Nat.ne_of_lt (Nat.lt_of_lt_of_le c53_1.lt hz_b54_0)
    have ne_b36_b54_0 : b36 ≠ b54_0 := Nat.ne_of_lt (Nat.lt_of_lt_of_le c53_4.lt hz_b54_0)
    have ne_b38_b54_0 : b38 ≠ b54_0 := Nat.ne_of_lt (Nat.lt_of_lt_of_le c53_8.lt hz_b54_0)
    have ne_b48_b54_0 : b48 ≠ b54_0 := Nat.ne_of_lt (Nat.lt_of_lt_of_le c53_11.lt hz_b54_0)
    have ne_b50_0_b54_0 : b50_0 ≠ b54_0 := Nat.ne_of_lt (Nat.lt_of_lt_of_le c53_13.lt hz_b54_0)
    have ne_b50_1_b54_0 : b50_1 ≠ b54_0 := Nat.ne_of_lt (Nat.lt_of_lt_of_le c53_16.lt hz_b54_0)
    have ne_b50_2_b54_0 : b50_2 ≠ b54_0 := Nat.ne_of_lt (Nat.lt_of_lt_of_le c53_18.lt hz_b54_0)
    have ne_b52_b54_0 : b52 ≠ b54_0 := Nat.ne_of_lt (Nat.lt_of_lt_of_le A52.lt hz_b54_0)
    have lt_b32_b54_0 : (b32 : Nat) < b54_0 := Nat.lt_of_lt_of_le c53_1.lt hz_b54_0
    have lt_b36_b54_0 : (b36 : Nat) < b54_0 := Nat.lt_of_lt_of_le c53_4.lt hz_b54_0
    have lt_b38_b54_0 : (b38 : Nat) < b54_0 := Nat.lt_of_lt_of_le c53_8.lt hz_b54_0
    have lt_b48_b54_0 : (b48 : Nat) < b54_0 := Nat.lt_of_lt_of_le c53_11.lt hz_b54_0
    have lt_b50_0_b54_0 : (b50_0 : Nat) < b54_0 := Nat.lt_of_lt_of_le c53_13.lt hz_b54_0
    have lt_b50_1_b54_0 : (b50_1 : Nat) < b54_0 := Nat.lt_of_lt_of_le c53_16.lt hz_b54_0
    have lt_b50_2_b54_0 : (b50_2 : Nat) < b54_0 := Nat.lt_of_lt_of_le c53_18.lt hz_b54_0
    have lt_b52_b54_0 : (b52 : Nat) < b54_0 := Nat.lt_of_lt_of_le A52.lt hz_b54_0
    have g_b54_1 : n0 ≤ b54_1 := Nat.le_trans Z52 hz_b54_1
    have sz_b54_1 : h0.size ≤ b54_1 := Nat.le_trans (K52).1 hz_b54_1
    have ne_b32_b54_1 : b32 ≠ b54_1 := Nat.ne_of_lt (Nat.lt_of_lt_of_le c53_1.lt hz_b54_1)
    have ne_b36_b54_1 : b36 ≠ b54_1 := Nat.ne_of_lt (Nat.lt_of_lt_of_le c53_4.lt hz_b54_1)
    have ne_b38_b54_1 : b38 ≠ b54_1 := Nat.ne_of_lt (Nat.lt_of_lt_of_le c53_8.lt hz_b54_1)
    have ne_b48_b54_1 : b48 ≠ b54_1 := Nat.ne_of_lt (Nat.lt_of_lt_of_le c53_11.lt hz_b54_1)
    have ne_b50_0_b54_1 : b50_0 ≠ b54_1 := Nat.ne_of_lt (Nat.lt_of_lt_of_le c53_13.lt hz_b54_1)
    have ne_b50_1_b54_1 : b50_1 ≠ b54_1 := Nat.ne_of_lt (Nat.lt_of_lt_of_le c53_16.lt hz_b54_1)
    have ne_b50_2_b54_1 : b50_2 ≠ b54_1 := Nat.ne_of_lt (Nat.lt_of_lt_of_le c53_18.lt hz_b54_1)
    have ne_b52_b54_1 : b52 ≠ b54_1 := Nat.ne_of_lt (Nat.lt_of_lt_of_le A52.lt hz_b54_1)
    have lt_b32_b54_1 : (b32 : Nat) < b54_1 := Nat.lt_of_lt_of_le c53_1.lt hz_b54_1
    have lt_b36_b54_1 : (b36 : Nat) < b54_1 := Nat.lt_of_lt_of_le c53_4.lt hz_b54_1
    have lt_b38_b54_1 : (b38 : Nat) < b54_1 := Nat.lt_of_lt_of_le c53_8.lt hz_b54_1
    have lt_b48_b54_1 : (b48 : Nat) < b54_1 := Nat.lt_of_lt_of_le c53_11.lt hz_b54_1
    have lt_b50_0_b54_1 : (b50_0 : Nat) < b54_1 := Nat.lt_of_lt_of_le c53_13.lt hz_b54_1
    have lt_b50_1_b54_1 : (b50_1 : Nat) < b54_1 := Nat.lt_of_lt_of_le c53_16.lt hz_b54_1
    have lt_b50_2_b54_1 : (b50_2 : Nat) < b54_1 := Nat.lt_of_lt_of_le c53_18.lt hz_b54_1
    have lt_b52_b54_1 : (b52 : Nat) < b54_1 := Nat.lt_of_lt_of_le A52.lt hz_b54_1
    have c55_1 := c53_1.keep Kq54
    have c55_2 := c53_2.keep Kq54 (ninS ne_b32_b52 nin0)
    have c55_4 := c53_4.keep Kq54 (ninS ne_b36_b52 nin0)
    have c55_5 := c53_5.keep Kq54
    have c55_6 := c53_6.keep Kq54
    have c55_8 := c53_8.keep Kq54
    have c55_9 := c53_9.keep Kq54 (ninS ne_b38_b52 nin0)
    have c55_11 := c53_11.keep Kq54
    have c55_12 := c53_12.keep Kq54 (ninS ne_b48_b52 nin0)
    have c55_13 := c53_13.keep Kq54 (ninS ne_b50_0_b52 nin0)
    have c55_14 := c53_14.keep Kq54
    have c55_15 := c53_15.keep Kq54
    have c55_16 := c53_16.keep Kq54 (ninS ne_b50_1_b52 nin0)
    have c55_17 := c53_17.keep Kq54
    have c55_18 := c53_18.keep Kq54 (ninS ne_b50_2_b52 nin0)
    have c55_19 := c53_19.keep Kq54
    have K54 : Keep h0 T54.heap [] := K52.trans Kq54 (allS (Or.inr sz_b52) all0)
    have Z54 := Nat.le_trans Z52 Kq54.1
    have N54 := Fr.app N50 N54q
    refine Go.via (fun t k => st54.trans k) ?_
    refine Vi (T54.setTop (mkF m 163 #[sI p0, sI p1, sI p2, sI p3, sI rr, sI ff, sI tt, sI xa, sI xb, sI hz, sI xc, .val (.double dS), .second, .val (.double dM), .second, sR b32, sR b36, sR b48, sR b52, .unset, .unset, .unset, .unset, .unset, .unset] [(.int tt), (.int ff), (.int rr), (.ref b52)])) (fun tZ kZ => ?_) ?_
    · refine XS.astore X54.here hx rfl (hb hby at_153) rfl rfl (l' := #[sI p0, sI p1, sI p2, sI p3, sI rr, sI ff, sI tt, sI xa, sI xb, sI hz, sI xc, .val (.double dS), .second, .val (.double dM), .second, sR b32, sR b36, sR b48, sR b52, .unset, .unset, .unset, .unset, .unset, .unset]) rfl ?_
      refine XS.aload X54.here hx rfl (hb hby at_155) rfl rfl ?_
      refine XS.iload X54.here hx rfl (hb hby at_157) rfl ?_
      refine XS.iload X54.here hx rfl (hb hby at_159) rfl ?_
      refine XS.iload X54.here hx rfl (hb hby at_161) rfl ?_
      exact kZ
    obtain ⟨cq56, kq56, q56a, q56b, q56c⟩ := isOf hZ rfl f54_0
    obtain ⟨_, _, ⟨T56, L56, k56, n56⟩, -, X56, ⟨Lc56, hQ56, l56, y56, z56⟩, st56⟩ := X54.virtualBack hx (y := y6) (z := y6) hown (wz hZ hw 51 rfl) (wz hZ hw 52 rfl) (notFace_of_selects (args := #[]) (wz hZ hw 54 rfl)) (wz hZ hw 54 rfl) (wz hZ hw 53 rfl) (by decide) (backOf (W := 0) (rm6 l Z a0 hw [] b52 rr ff tt b54_0 (fun _ _ _ => dS) T54.heap n0 Z54 f54_0 f54_2 f54_4 (own_xb hr) (own_f1 hf) (own_x3 ht)) hZ (wq hw 55 rfl) (wq hw 27 rfl) (by decide) (by decide)) q56a q56c (g := (mkF m 163 #[sI p0, sI p1, sI p2, sI p3, sI rr, sI ff, sI tt, sI xa, sI xb, sI hz, sI xc, .val (.double dS), .second, .val (.double dM), .second, sR b32, sR b36, sR b48, sR b52, .unset, .unset, .unset, .unset, .unset, .unset] [(.int tt), (.int ff), (.int rr), (.ref b52)])) rfl (by rw [hml]; rfl) (Steps.refl _) (argsL := [(.int rr), (.int ff), (.int tt)]) (rest := []) (lenOf pd_5 rfl) rfl (leW rfl) (hb hby at_163) (fun _ _ => ⟨rfl, rfl, (by decide : 0 + 1 + 1 + 1 + 1 + 3 + 1 + 22 + 0 ≤ _), (by decide : 0 + 1 + 2 + 2 + 1 + 6 + 3 + 68 + 0 ≤ _)⟩)
    dsimp only [Pt.U, Pt.locs, Pt.cells, Pt.slots] at X56 l56 y56 z56 st56 hQ56
    subst l56 y56 z56
    obtain ⟨rfl, N56q, e56⟩ := hQ56
    have N56 := Fr.app N54 N56q
    refine Go.via (fun t k => st56.trans k) ?_
    refine Vi (T56.setTop (mkF m 185 #[sI p0, sI p1, sI p2, sI p3, sI rr, sI ff, sI tt, sI xa, sI xb, sI hz, sI xc, .val (.double dS), .second, .val (.double dM), .second, sR b32, sR b36, sR b48, sR b52, sI 1, .unset, .unset, .unset, .unset, .unset] [(.double dM), (.ref b48), (.ref b52)])) (fun tZ kZ => ?_) ?_
    · refine XS.dload X56.here hx rfl (hb hby at_166) rfl ?_
      refine XS.dcmpS X56.here hx rfl (hb hby at_168) rfl (v := 0) (dcmpV_eq rfl nS _) ?_
      refine XS.ifNo X56.here hx rfl (hb hby at_169) rfl ((if0 _ _).trans (teq (by decide)).2) ?_
      refine XS.iconst X56.here hx rfl (hb hby at_172) ?_
      refine XS.goto X56.here hx rfl (pc0 := 173) (pc' := 177) rfl (hb hby at_173) (by decide) (by decide) ?_
      refine XS.istore X56.here hx rfl (hb hby at_177) rfl (l' := #[sI p0, sI p1, sI p2, sI p3, sI rr, sI ff, sI tt, sI xa, sI xb, sI hz, sI xc, .val (.double dS), .second, .val (.double dM), .second, sR b32, sR b36, sR b48, sR b52, sI 1, .unset, .unset, .unset, .unset, .unset]) rfl ?_
      refine XS.aload X56.here hx rfl (hb hby at_179) rfl rfl ?_
      refine XS.aload X56.here hx rfl (hb hby at_181) rfl rfl ?_
      refine XS.dload X56.here hx rfl (hb hby at_183) rfl ?_
      exact kZ
    have VQ : AV Z T54.heap b50_0 (.array .int) 2 (own_b2 b50_1 b50_2) := c55_13.congr (fun j hj => by rcases (show j = 0 ∨ j = 1 by omega) with rfl | rfl <;> rfl)
    obtain ⟨cq57, kq57, q57a, q57b, q57c⟩ := isOf hZ e56 f54_0
    obtain ⟨_, _, ⟨T57, L57, k57, n57⟩, -, X57, ⟨Lc57, hQ57, l57, y57, z57⟩, st57⟩ := X56.virtualBack hx (y := y7) (z := y7) hown (wz hZ hw 56 rfl) (wz hZ hw 57 rfl) (notFace_of_selects (args := #[]) (wz hZ hw 59 rfl)) (wz hZ hw 59 rfl) (wz hZ hw 58 rfl) (by decide) (backOf (W := 0) (rm7a l Z a0 hw [] b52 b48 dM b54_1 (fun _ _ _ => (0 : UInt64)) b50_0 b50_1 b50_2 xa xb xc T54.heap n0 Z54 f54_0 f54_3 f54_5 g_b54_1 c55_11 c55_12 VQ c55_17 c55_16 c55_19 c55_18 ha hb_ hc_ (by omega) (by omega) (by omega) (by omega) (by omega) own_gb0 hM) hZ (wq hw 60 rfl) (wq hw 27 rfl) (by decide) (by decide)) q57a q57c (g := (mkF m 185 #[sI p0, sI p1, sI p2, sI p3, sI rr, sI ff, sI tt, sI xa, sI xb, sI hz, sI xc, .val (.double dS), .second, .val (.double dM), .second, sR b32, sR b36, sR b48, sR b52, sI 1, .unset, .unset, .unset, .unset, .unset] [(.double dM), (.ref b48), (.ref b52)])) rfl (by rw [hml]; rfl) (Steps.refl _) (argsL := [(.ref b48), (.double dM)]) (rest := []) (lenOf pd_6 rfl) rfl (leW rfl) (hb hby at_185) (fun _ _ => ⟨rfl, e56, (by decide : 0 + 1 + 1 + 1 + 1 + 3 + 1 + 22 + 0 + 2 ≤ _), (by decide : 0 + 1 + 2 + 2 + 1 + 6 + 3 + 68 + 0 + 4 ≤ _)⟩)
    dsimp only [Pt.U, Pt.locs, Pt.cells, Pt.slots] at X57 l57 y57 z57 st57 hQ57
    subst l57 y57 z57
    obtain ⟨rfl, N57q, Kq57, f57_0, f57_1, f57_2, f57_3, f57_4, f57_5, f57_6, f57_7, f57_8, f57_9⟩ := hQ57
    have c58_1 := c55_1.keep Kq57
    have c58_2 := c55_2.keep Kq57 (ninS (own_na (by omega)) (ninS (own_na (by omega)) (ninS (own_na (by omega)) nin0)))
    have c58_4 := c55_4.keep Kq57 (ninS (own_na (by omega)) (ninS (own_na (by omega)) (ninS (own_na (by omega)) nin0)))
    have c58_5 := c55_5.keep Kq57
    have c58_6 := c55_6.keep Kq57
    have c58_8 := c55_8.keep Kq57
    have c58_9 := c55_9.keep Kq57 (ninS (own_na (by omega)) (ninS (own_na (by omega)) (ninS (own_na (by omega)) nin0)))
    have c58_14 := c55_14.keep Kq57
    have c58_15 := c55_15.keep Kq57
    have c58_25 := f54_1.keep Kq57 (ninS (own_na (by omega)) (ninS (own_na (by omega)) (ninS (own_na (by omega)) nin0)))
    have c58_26 := f54_2.keep Kq57 (ninS (own_na (by omega)) (ninS (own_na (by omega)) (ninS (own_na (by omega)) nin0)))
    have c58_28 := f54_4.keep Kq57 (allS (by omega) (allS (by omega) (allS (by omega) all0)))
    have c58_30 := f54_6
    have K57 : Keep h0 T57.heap [] := K54.trans Kq57 (allS (Or.inr (Nat.le_trans sz_b54_1 (show b54_1 ≤ (b54_1 + 2 + 5 * 0 + 0) by omega))) (allS (Or.inr (Nat.le_trans sz_b54_1 (show b54_1 ≤ (b54_1 + 2 + 5 * 0 + (xa + (1 : Int32)).toNatClampNeg) by omega))) (allS (Or.inr (Nat.le_trans sz_b54_1 (show b54_1 ≤ (b54_1 + 2 + 5 * 1 + 0) by omega))) all0)))
    have Z57 := Nat.le_trans Z54 Kq57.1
    have N57 := Fr.app N56 N57q
    refine Go.via (fun t k => st57.trans k) ?_
    refine Vi (T57.setTop (mkF m 201 #[sI p0, sI p1, sI p2, sI p3, sI rr, sI ff, sI tt, sI xa, sI xb, sI hz, sI xc, .val (.double dS), .second, .val (.double dM), .second, sR b32, sR b36, sR b48, sR b52, sI 1, .unset, .unset, .unset, .unset, .unset] [(.int tt), (.int ff), (.int rr), (.ref b52)])) (fun tZ kZ => ?_) ?_
    · refine XS.iload X57.here hx rfl (hb hby at_188) rfl ?_
      refine XS.ifNo X57.here hx rfl (hb hby at_190) rfl ((if0 _ _).trans (feq (by decide)).1) ?_
      refine XS.aload X57.here hx rfl (hb hby at_193) rfl rfl ?_
      refine XS.iload X57.here hx rfl (hb hby at_195) rfl ?_
      refine XS.iload X57.here hx rfl (hb hby at_197) rfl ?_
      refine XS.iload X57.here hx rfl (hb hby at_199) rfl ?_
      exact kZ
    obtain ⟨cq59, kq59, q59a, q59b, q59c⟩ := isOf hZ rfl f57_0
    obtain ⟨_, _, ⟨T59, L59, k59, n59⟩, -, X59, ⟨Lc59, hQ59, l59, y59, z59⟩, st59⟩ := X57.virtualBack hx (y := y6) (z := y6) hown (wz hZ hw 51 rfl) (wz hZ hw 52 rfl) (notFace_of_selects (args := #[]) (wz hZ hw 54 rfl)) (wz hZ hw 54 rfl) (wz hZ hw 53 rfl) (by decide) (backOf (W := 0) (rm6 l Z a0 hw [] b52 rr ff tt b54_0 (fun _ _ _ => dS) T57.heap n0 Z57 f57_0 c58_26 c58_28 (own_xb hr) (own_f1 hf) (own_x3 ht)) hZ (wq hw 55 rfl) (wq hw 27 rfl) (by decide) (by decide)) q59a q59c (g := (mkF m 201 #[sI p0, sI p1, sI p2, sI p3, sI rr, sI ff, sI tt, sI xa, sI xb, sI hz, sI xc, .val (.double dS), .second, .val (.double dM), .second, sR b32, sR b36, sR b48, sR b52, sI 1, .unset, .unset, .unset, .unset, .unset] [(.int tt), (.int ff), (.int rr), (.ref b52)])) rfl (by rw [hml]; rfl) (Steps.refl _) (argsL := [(.int rr), (.int ff), (.int tt)]) (rest := []) (lenOf pd_5 rfl) rfl (leW rfl) (hb hby at_201) (fun _ _ => ⟨rfl, rfl, (by decide : 0 + 1 + 1 + 1 + 1 + 3 + 1 + 22 + 0 + 2 + 0 ≤ _), (by decide : 0 + 1 + 2 + 2 + 1 + 6 + 3 + 68 + 0 + 4 + 0 ≤ _)⟩)
    dsimp only [Pt.U, Pt.locs, Pt.cells, Pt.slots] at X59 l59 y59 z59 st59 hQ59
    subst l59 y59 z59
    obtain ⟨rfl, N59q, e59⟩ := hQ59
    have N59 := Fr.app N57 N59q
    refine Go.via (fun t k => st59.trans k) ?_
    refine Vi (T59.setTop (mkF m 219 #[sI p0, sI p1, sI p2, sI p3, sI rr, sI ff, sI tt, sI xa, sI xb, sI hz, sI xc, .val (.double dS), .second, .val (.double dM), .second, sR b32, sR b36, sR b48, sR b52, sI 1, .unset, .unset, .unset, .unset, .unset] [(.ref b52)])) (fun tZ kZ => ?_) ?_
    · refine XS.dload X59.here hx rfl (hb hby at_204) rfl ?_
      refine XS.dcmpS X59.here hx rfl (hb hby at_206) rfl (v := 0) (dcmpV_eq rfl nS _) ?_
      refine XS.ifNo X59.here hx rfl (hb hby at_207) rfl ((if0 _ _).trans (teq (by decide)).2) ?_
      refine XS.iconst X59.here hx rfl (hb hby at_210) ?_
      refine XS.goto X59.here hx rfl (pc0 := 211) (pc' := 215) rfl (hb hby at_211) (by decide) (by decide) ?_
      refine XS.istore X59.here hx rfl (hb hby at_215) rfl (l' := #[sI p0, sI p1, sI p2, sI p3, sI rr, sI ff, sI tt, sI xa, sI xb, sI hz, sI xc, .val (.double dS), .second, .val (.double dM), .second, sR b32, sR b36, sR b48, sR b52, sI 1, .unset, .unset, .unset, .unset, .unset]) rfl ?_
      refine XS.aload X59.here hx rfl (hb hby at_217) rfl rfl ?_
      exact kZ
    obtain ⟨f0, e_f0⟩ : ∃ z, z = (fun _ _ _ => dS) := ⟨_, rfl⟩
    have G_f0 : Gd Z T57.heap b54_0 f0 := by rw [e_f0]; exact c58_28
    obtain ⟨g0, e_g0⟩ : ∃ z, z = (own_d1 (own_d1 (own_d1 (fun _ _ _ => (0 : UInt64)) 0 0 xa.toNatClampNeg dM) 0 (xa + (1 : Int32)).toNatClampNeg xb.toNatClampNeg dM) 1 0 xc.toNatClampNeg dM) := ⟨_, rfl⟩
    have G_g0 : Gd Z T57.heap b54_1 g0 := by rw [e_g0]; exact f57_2
    have b_f0 : GB 1070 f0 := by rw [e_f0]; exact fun _ _ _ => hS.mono (by decide)
    have b_g0 : GB 1070 g0 := by rw [e_g0]; exact (((own_gb0.d1 _ _ _ hM (by decide)).d1 _ _ _ (hM.mono (by decide)) (by decide)).d1 _ _ _ (hM.mono (by decide)) (by decide)).mono (by decide)
    obtain ⟨cq60, kq60, q60a, q60b, q60c⟩ := isOf hZ e59 f57_0
    obtain ⟨_, _, ⟨T60, L60, k60, n60⟩, -, X60, ⟨Lc60, hQ60, l60, y60, z60⟩, st60⟩ := X59.virtualBack hx (y := y10) (z := y10) hown (wz hZ hw 71 rfl) (wz hZ hw 72 rfl) (notFace_of_selects (args := #[]) (wz hZ hw 74 rfl)) (wz hZ hw 74 rfl) (wz hZ hw 73 rfl) (by decide) (backOf (W := 0) (rm10 l Z a0 hw [] b52 b54_0 b54_1 f0 g0 T57.heap n0 Z57 f57_0 c58_26 f57_1 G_f0 G_g0 g_b54_0 g_b54_1 (by omega) (by omega) (by omega) (own_nnG b_f0 b_g0 (by decide))) hZ (wq hw 75 rfl) (wq hw 27 rfl) (by decide) (by decide)) q60a q60c (g := (mkF m 219 #[sI p0, sI p1, sI p2, sI p3, sI rr, sI ff, sI tt, sI xa, sI xb, sI hz, sI xc, .val (.double dS), .second, .val (.double dM), .second, sR b32, sR b36, sR b48, sR b52, sI 1, .unset, .unset, .unset, .unset, .unset] [(.ref b52)])) rfl (by rw [hml]; rfl) (Steps.refl _) (argsL := []) (rest := []) (lenOf pd_1 rfl) rfl (leW rfl) (hb hby at_219) (fun _ _ => ⟨rfl, e59, (by decide : 0 + 1 + 1 + 1 + 1 + 3 + 1 + 22 + 0 + 2 + 0 + 0 ≤ _), (by decide : 0 + 1 + 2 + 2 + 1 + 6 + 3 + 68 + 0 + 4 + 0 + 0 ≤ _)⟩)
    dsimp only [Pt.U, Pt.locs, Pt.cells, Pt.slots] at X60 l60 y60 z60 st60 hQ60
    subst l60 y60 z60
    obtain ⟨rfl, N60q, Kq60, f60_0, f60_1, f60_2, f60_3, f60_4⟩ := hQ60
    have c61_1 := c58_1.keep Kq60
    have c61_2 := c58_2.keep Kq60 (ninS (own_na (by omega)) (ninS (own_na (by omega)) (ninS (own_na (by omega)) (ninS (own_na (by omega)) (ninS (own_na (by omega)) (ninS (own_na (by omega)) (ninS (own_na (by omega)) (ninS (own_na (by omega)) (ninS (own_na (by omega)) (ninS (own_na (by omega)) (ninS (own_na (by omega)) (ninS (own_na (by omega)) (ninS (own_na (by omega)) (ninS (own_na (by omega)) (ninS (own_na (by omega)) (ninS (own_na (by omega)) nin0))))))))))))))))
    have c61_4 := c58_4.keep Kq60 (ninS (own_na (by omega)) (ninS (own_na (by omega)) (ninS (own_na (by omega)) (ninS (own_na (by omega)) (ninS (own_na (by omega)) (ninS (own_na (by omega)) (ninS (own_na (by omega)) (ninS (own_na (by omega)) (ninS (own_na (by omega)) (ninS (own_na (by omega)) (ninS (own_na (by omega)) (ninS (own_na (by omega)) (ninS (own_na (by omega)) (ninS (own_na (by omega)) (ninS (own_na (by omega)) (ninS (own_na (by omega)) nin0))))))))))))))))
    have c61_5 := c58_5.keep Kq60
    have c61_6 := c58_6.keep Kq60
    have c61_8 := c58_8.keep Kq60
    have c61_9 := c58_9.keep Kq60 (ninS (own_na (by omega)) (ninS (own_na (by omega)) (ninS (own_na (by omega)) (ninS (own_na (by omega)) (ninS (own_na (by omega)) (ninS (own_na (by omega)) (ninS (own_na (by omega)) (ninS (own_na (by omega)) (ninS (own_na (by omega)) (ninS (own_na (by omega)) (ninS (own_na (by omega)) (ninS (own_na (by omega)) (ninS (own_na (by omega)) (ninS (own_na (by omega)) (ninS (own_na (by omega)) (ninS (own_na (by omega)) nin0))))))))))))))))
    have c61_11 := f57_3.keep Kq60
    have c61_12 := f57_4.keep Kq60 (ninS (own_na (by omega)) (ninS (own_na (by omega)) (ninS (own_na (by omega)) (ninS (own_na (by omega)) (ninS (own_na (by omega)) (ninS (own_na (by omega)) (ninS (own_na (by omega)) (ninS (own_na (by omega)) (ninS (own_na (by omega)) (ninS (own_na (by omega)) (ninS (own_na (by omega)) (ninS (own_na (by omega)) (ninS (own_na (by omega)) (ninS (own_na (by omega)) (ninS (own_na (by omega)) (ninS (own_na (by omega)) nin0))))))))))))))))
    have c61_13 := f57_5.keep Kq60 (ninS (own_na (by omega)) (ninS (own_na (by omega)) (ninS (own_na (by omega)) (ninS (own_na (by omega)) (ninS (own_na (by omega)) (ninS (own_na (by omega)) (ninS (own_na (by omega)) (ninS (own_na (by omega)) (ninS (own_na (by omega)) (ninS (own_na (by omega)) (ninS (own_na (by omega)) (ninS (own_na (by omega)) (ninS (own_na (by omega)) (ninS (own_na (by omega)) (ninS (own_na (by omega)) (ninS (own_na (by omega)) nin0))))))))))))))))
    have c61_14 := c58_14.keep Kq60
    have c61_15 := c58_15.keep Kq60
    have c61_16 := f57_7.keep Kq60 (ninS (own_na (by omega)) (ninS (own_na (by omega)) (ninS (own_na (by omega)) (ninS (own_na (by omega)) (ninS (own_na (by omega)) (ninS (own_na (by omega)) (ninS (own_na (by omega)) (ninS (own_na (by omega)) (ninS (own_na (by omega)) (ninS (own_na (by omega)) (ninS (own_na (by omega)) (ninS (own_na (by omega)) (ninS (own_na (by omega)) (ninS (own_na (by omega)) (ninS (own_na (by omega)) (ninS (own_na (by omega)) nin0))))))))))))))))
    have c61_17 := f57_6.keep Kq60
    have c61_18 := f57_9.keep Kq60 (ninS (own_na (by omega)) (ninS (own_na (by omega)) (ninS (own_na (by omega)) (ninS (own_na (by omega)) (ninS (own_na (by omega)) (ninS (own_na (by omega)) (ninS (own_na (by omega)) (ninS (own_na (by omega)) (ninS (own_na (by omega)) (ninS (own_na (by omega)) (ninS (own_na (by omega)) (ninS (own_na (by omega)) (ninS (own_na (by omega)) (ninS (own_na (by omega)) (ninS (own_na (by omega)) (ninS (own_na (by omega)) nin0))))))))))))))))
    have c61_19 := f57_8.keep Kq60
    have c61_25 := c58_25.keep Kq60 (ninS (own_na (by omega)) (ninS (own_na (by omega)) (ninS (own_na (by omega)) (ninS (own_na (by omega)) (ninS (own_na (by omega)) (ninS (own_na (by omega)) (ninS (own_na (by omega)) (ninS (own_na (by omega)) (ninS (own_na (by omega)) (ninS (own_na (by omega)) (ninS (own_na (by omega)) (ninS (own_na (by omega)) (ninS (own_na (by omega)) (ninS (own_na (by omega)) (ninS (own_na (by omega)) (ninS (own_na (by omega)) nin0))))))))))))))))
    have c61_30 := c58_30
    have K60 : Keep h0 T60.heap [] := K57.trans Kq60 (allS (Or.inr (Nat.le_trans sz_b54_0 (show b54_0 ≤ (b54_0 + 2 + 5 * 0 + 0) by omega))) (allS (Or.inr (Nat.le_trans sz_b54_1 (show b54_1 ≤ (b54_1 + 2 + 5 * 0 + 0) by omega))) (allS (Or.inr (Nat.le_trans sz_b54_0 (show b54_0 ≤ (b54_0 + 2 + 5 * 0 + 1) by omega))) (allS (Or.inr (Nat.le_trans sz_b54_1 (show b54_1 ≤ (b54_1 + 2 + 5 * 0 + 1) by omega))) (allS (Or.inr (Nat.le_trans sz_b54_0 (show b54_0 ≤ (b54_0 + 2 + 5 * 0 + 2) by omega))) (allS (Or.inr (Nat.le_trans sz_b54_1 (show b54_1 ≤ (b54_1 + 2 + 5 * 0 + 2) by omega))) (allS (Or.inr (Nat.le_trans sz_b54_0 (show b54_0 ≤ (b54_0 + 2 + 5 * 0 + 3) by omega))) (allS (Or.inr (Nat.le_trans sz_b54_1 (show b54_1 ≤ (b54_1 + 2 + 5 * 0 + 3) by omega))) (allS (Or.inr (Nat.le_trans sz_b54_0 (show b54_0 ≤ (b54_0 + 2 + 5 * 1 + 0) by omega))) (allS (Or.inr (Nat.le_trans sz_b54_1 (show b54_1 ≤ (b54_1 + 2 + 5 * 1 + 0) by omega))) (allS (Or.inr (Nat.le_trans sz_b54_0 (show b54_0 ≤ (b54_0 + 2 + 5 * 1 + 1) by omega))) (allS (Or.inr (Nat.le_trans sz_b54_1 (show b54_1 ≤ (b54_1 + 2 + 5 * 1 + 1) by omega))) (allS (Or.inr (Nat.le_trans sz_b54_0 (show b54_0 ≤ (b54_0 + 2 + 5 * 1 + 2) by omega))) (allS (Or.inr (Nat.le_trans sz_b54_1 (show b54_1 ≤ (b54_1 + 2 + 5 * 1 + 2) by omega))) (allS (Or.inr (Nat.le_trans sz_b54_0 (show b54_0 ≤ (b54_0 + 2 + 5 * 1 + 3) by omega))) (allS (Or.inr (Nat.le_trans sz_b54_1 (show b54_1 ≤ (b54_1 + 2 + 5 * 1 + 3) by omega))) all0))))))))))))))))
    have Z60 := Nat.le_trans Z57 Kq60.1
    have N60 := Fr.app N59 N60q
    refine Go.via (fun t k => st60.trans k) ?_
    obtain ⟨f1, e_f1⟩ : ∃ z, z = (fun i j k => FP.dadd (FP.dmul (4606732058837280358 : UInt64) (f0 i j k)) (g0 i j k)) := ⟨_, rfl⟩
    have G_f1 : Gd Z T60.heap b54_0 f1 := by rw [e_f1]; exact f60_3
    refine Vi (T60.setTop (mkF m 287 #[sI p0, sI p1, sI p2, sI p3, sI rr, sI ff, sI tt, sI xa, sI xb, sI hz, sI xc, .val (.double dS), .second, .val (.double dM), .second, sR b32, sR b36, sR b48, sR b52, sI 1, sI (if rr = (0 : Int32) then (if ff = (-1 : Int32) then (if tt = xa then (1 : Int32) else (if ff = xa then (if tt = xb then (1 : Int32) else (0 : Int32)) else (0 : Int32))) else (if ff = xa then (if tt = xb then (1 : Int32) else (0 : Int32)) else (0 : Int32))) else (if hz = (0 : Int32) then (0 : Int32) else (if ff = (-1 : Int32) then (if tt = xc then (1 : Int32) else (0 : Int32)) else (0 : Int32)))), .unset, .unset, .unset, .unset] [])) (fun tZ kZ => ?_) ?_
    · refine XS.iload X60.here hx rfl (hb hby at_222) rfl ?_
      have sg224 : Steps p.tables e below (T60.setTop (mkF m 285 #[sI p0, sI p1, sI p2, sI p3, sI rr, sI ff, sI tt, sI xa, sI xb, sI hz, sI xc, .val (.double dS), .second, .val (.double dM), .second, sR b32, sR b36, sR b48, sR b52, sI 1, .unset, .unset, .unset, .unset, .unset] [(.int (if rr = (0 : Int32) then (if ff = (-1 : Int32) then (if tt = xa then (1 : Int32) else (if ff = xa then (if tt = xb then (1 : Int32) else (0 : Int32)) else (0 : Int32))) else (if ff = xa then (if tt = xb then (1 : Int32) else (0 : Int32)) else (0 : Int32))) else (if hz = (0 : Int32) then (0 : Int32) else (if ff = (-1 : Int32) then (if tt = xc then (1 : Int32) else (0 : Int32)) else (0 : Int32)))))])) tZ → Steps p.tables e below (T60.setTop (mkF m 224 #[sI p0, sI p1, sI p2, sI p3, sI rr, sI ff, sI tt, sI xa, sI xb, sI hz, sI xc, .val (.double dS), .second, .val (.double dM), .second, sR b32, sR b36, sR b48, sR b52, sI 1, .unset, .unset, .unset, .unset, .unset] [(.int rr)])) tZ := by
        intro kj
        by_cases hc224 : rr = (0 : Int32)
        · try simp only [if_pos hc224] at kj
          refine XS.ifNo X60.here hx rfl (hb hby at_224) rfl ((if0 _ _).trans (teq hc224).2) ?_
          refine XS.iload X60.here hx rfl (hb hby at_227) rfl ?_
          refine XS.iconst X60.here hx rfl (hb hby at_229) ?_
          have sg230 : Steps p.tables e below (T60.setTop (mkF m 285 #[sI p0, sI p1, sI p2, sI p3, sI rr, sI ff, sI tt, sI xa, sI xb, sI hz, sI xc, .val (.double dS), .second, .val (.double dM), .second, sR b32, sR b36, sR b48, sR b52, sI 1, .unset, .unset, .unset, .unset, .unset] [(.int (if ff = (-1 : Int32) then (if tt = xa then (1 : Int32) else (if ff = xa then (if tt = xb then (1 : Int32) else (0 : Int32)) else (0 : Int32))) else (if ff = xa then (if tt = xb then (1 : Int32) else (0 : Int32)) else (0 : Int32))))])) tZ → Steps p.tables e below (T60.setTop (mkF m 230 #[sI p0, sI p1, sI p2, sI p3, sI rr, sI ff, sI tt, sI xa, sI xb, sI hz, sI xc, .val (.double dS), .second, .val (.double dM), .second, sR b32, sR b36, sR b48, sR b52, sI 1, .unset, .unset, .unset, .unset, .unset] [(.int (-1)), (.int ff)])) tZ := by
            intro kj
            by_cases hc230 : ff = (-1 : Int32)
            · try simp only [if_pos hc230] at kj
              refine XS.icmpNo X60.here hx rfl (hb hby at_230) rfl (teq hc230).2 ?_
              refine XS.iload X60.here hx rfl (hb hby at_233) rfl ?_
              refine XS.iload X60.here hx rfl (hb hby at_235) rfl ?_
              have sg237 : Steps p.tables e below (T60.setTop (mkF m 285 #[sI p0, sI p1, sI p2, sI p3, sI rr, sI ff, sI tt, sI xa, sI xb, sI hz, sI xc, .val (.double dS), .second, .val (.double dM), .second, sR b32, sR b36, sR b48, sR b52, sI 1, .unset, .unset, .unset, .unset, .unset] [(.int (if tt = xa then (1 : Int32) else (if ff = xa then (if tt = xb then (1 : Int32) else (0 : Int32)) else (0 : Int32))))])) tZ → Steps p.tables e below (T60.setTop (mkF m 237 #[sI p0, sI p1, sI p2, sI p3, sI rr, sI ff, sI tt, sI xa, sI xb, sI hz, sI xc, .val (.double dS), .second, .val (.double dM), .second, sR b32, sR b36, sR b48, sR b52, sI 1, .unset, .unset, .unset, .unset, .unset] [(.int xa), (.int tt)])) tZ := by
                intro kj
                by_cases hc237 : tt = xa
                · try simp only [if_pos hc237] at kj
                  refine XS.icmpYes X60.here hx rfl (pc0 := 237) (pc' := 254) rfl (hb hby at_237) rfl (teq hc237).1 (by decide) (by decide) ?_
                  refine XS.iconst X60.here hx rfl (hb hby at_254) ?_
                  refine XS.goto X60.here hx rfl (pc0 := 255) (pc' := 285) rfl (hb hby at_255) (by decide) (by decide) ?_
                  exact kj
                · try simp only [if_neg hc237] at kj
                  refine XS.icmpNo X60.here hx rfl (hb hby at_237) rfl (feq hc237).1 ?_
                  refine XS.iload X60.here hx rfl (hb hby at_240) rfl ?_
                  refine XS.iload X60.here hx rfl (hb hby at_242) rfl ?_
                  have sg244 : Steps p.tables e below (T60.setTop (mkF m 285 #[sI p0, sI p1, sI p2, sI p3, sI rr, sI ff, sI tt, sI xa, sI xb, sI hz, sI xc, .val (.double dS), .second, .val (.double dM), .second, sR b32, sR b36, sR b48, sR b52, sI 1, .unset, .unset, .unset, .unset, .unset] [(.int (if ff = xa then (if tt = xb then (1 : Int32) else (0 : Int32)) else (0 : Int32)))])) tZ → Steps p.tables e below (T60.setTop (mkF m 244 #[sI p0, sI p1, sI p2, sI p3, sI rr, sI ff, sI tt, sI xa, sI xb, sI hz, sI xc, .val (.double dS), .second, .val (.double dM), .second, sR b32, sR b36, sR b48, sR b52, sI 1, .unset, .unset, .unset, .unset, .unset] [(.int xa), (.int ff)])) tZ := by
                    intro kj
                    by_cases hc244 : ff = xa
                    · try simp only [if_pos hc244] at kj
                      refine XS.icmpNo X60.here hx rfl (hb hby at_244) rfl (teq hc244).2 ?_
                      refine XS.iload X60.here hx rfl (hb hby at_247) rfl ?_
                      refine XS.iload X60.here hx rfl (hb hby at_249) rfl ?_
                      have sg251 : Steps p.tables e below (T60.setTop (mkF m 285 #[sI p0, sI p1, sI p2, sI p3, sI rr, sI ff, sI tt, sI xa, sI xb, sI hz, sI xc, .val (.double dS), .second, .val (.double dM), .second, sR b32, sR b36, sR b48, sR b52, sI 1, .unset, .unset, .unset, .unset, .unset] [(.int (if tt = xb then (1 : Int32) else (0 : Int32)))])) tZ → Steps p.tables e below (T60.setTop (mkF m 251 #[sI p0, sI p1, sI p2, sI p3, sI rr, sI ff, sI tt, sI xa, sI xb, sI hz, sI xc, .val (.double dS), .second, .val (.double dM), .second, sR b32, sR b36, sR b48, sR b52, sI 1, .unset, .unset, .unset, .unset, .unset] [(.int xb), (.int tt)])) tZ := by
                        intro kj
                        by_cases hc251 : tt = xb
                        · try simp only [if_pos hc251] at kj
                          refine XS.icmpNo X60.here hx rfl (hb hby at_251) rfl (teq hc251).2 ?_
                          refine XS.iconst X60.here hx rfl (hb hby at_254) ?_
                          refine XS.goto X60.here hx rfl (pc0 := 255) (pc' := 285) rfl (hb hby at_255) (by decide) (by decide) ?_
                          exact kj
                        · try simp only [if_neg hc251] at kj
                          refine XS.icmpYes X60.here hx rfl (pc0 := 251) (pc' := 258) rfl (hb hby at_251) rfl (feq hc251).2 (by decide) (by decide) ?_
                          refine XS.iconst X60.here hx rfl (hb hby at_258) ?_
                          refine XS.goto X60.here hx rfl (pc0 := 259) (pc' := 285) rfl (hb hby at_259) (by decide) (by decide) ?_
                          exact kj
                      refine sg251 ?_
                      show Steps p.tables e below (T60.setTop (mkF m 285 #[sI p0, sI p1, sI p2, sI p3, sI rr, sI ff, sI tt, sI xa, sI xb, sI hz, sI xc, .val (.double dS), .second, .val (.double dM), .second, sR b32, sR b36, sR b48, sR b52, sI 1, .unset, .unset, .unset, .unset, .unset] [(.int (if tt = xb then (1 : Int32) else (0 : Int32)))])) _
                      exact kj
                    · try simp only [if_neg hc244] at kj
                      refine XS.icmpYes X60.here hx rfl (pc0 := 244) (pc' := 258) rfl (hb hby at_244) rfl (feq hc244).2 (by decide) (by decide) ?_
                      refine XS.iconst X60.here hx rfl (hb hby at_258) ?_
                      refine XS.goto X60.here hx rfl (pc0 := 259) (pc' := 285) rfl (hb hby at_259) (by decide) (by decide) ?_
                      exact kj
                  refine sg244 ?_
                  show Steps p.tables e below (T60.setTop (mkF m 285 #[sI p0, sI p1, sI p2, sI p3, sI rr, sI ff, sI tt, sI xa, sI xb, sI hz, sI xc, .val (.double dS), .second, .val (.double dM), .second, sR b32, sR b36, sR b48, sR b52, sI 1, .unset, .unset, .unset, .unset, .unset] [(.int (if ff = xa then (if tt = xb then (1 : Int32) else (0 : Int32)) else (0 : Int32)))])) _
                  exact kj
              refine sg237 ?_
              show Steps p.tables e below (T60.setTop (mkF m 285 #[sI p0, sI p1, sI p2, sI p3, sI rr, sI ff, sI tt, sI xa, sI xb, sI hz, sI xc, .val (.double dS), .second, .val (.double dM), .second, sR b32, sR b36, sR b48, sR b52, sI 1, .unset, .unset, .unset, .unset, .unset] [(.int (if tt = xa then (1 : Int32) else (if ff = xa then (if tt = xb then (1 : Int32) else (0 : Int32)) else (0 : Int32))))])) _
              exact kj
            · try simp only [if_neg hc230] at kj
              refine XS.icmpYes X60.here hx rfl (pc0 := 230) (pc' := 240) rfl (hb hby at_230) rfl (feq hc230).2 (by decide) (by decide) ?_
              refine XS.iload X60.here hx rfl (hb hby at_240) rfl ?_
              refine XS.iload X60.here hx rfl (hb hby at_242) rfl ?_
              have sg244 : Steps p.tables e below (T60.setTop (mkF m 285 #[sI p0, sI p1, sI p2, sI p3, sI rr, sI ff, sI tt, sI xa, sI xb, sI hz, sI xc, .val (.double dS), .second, .val (.double dM), .second, sR b32, sR b36, sR b48, sR b52, sI 1, .unset, .unset, .unset, .unset, .unset] [(.int (if ff = xa then (if tt = xb then (1 : Int32) else (0 : Int32)) else (0 : Int32)))])) tZ → Steps p.tables e below (T60.setTop (mkF m 244 #[sI p0, sI p1, sI p2, sI p3, sI rr, sI ff, sI tt, sI xa, sI xb, sI hz, sI xc, .val (.double dS), .second, .val (.double dM), .second, sR b32, sR b36, sR b48, sR b52, sI 1, .unset, .unset, .unset, .unset, .unset] [(.int xa), (.int ff)])) tZ := by
                intro kj
                by_cases hc244 : ff = xa
                · try simp only [if_pos hc244] at kj
                  refine XS.icmpNo X60.here hx rfl (hb hby at_244) rfl (teq hc244).2 ?_
                  refine XS.iload X60.here hx rfl (hb hby at_247) rfl ?_
                  refine XS.iload X60.here hx rfl (hb hby at_249) rfl ?_
                  have sg251 : Steps p.tables e below (T60.setTop (mkF m 285 #[sI p0, sI p1, sI p2, sI p3, sI rr, sI ff, sI tt, sI xa, sI xb, sI hz, sI xc, .val (.double dS), .second, .val (.double dM), .second, sR b32, sR b36, sR b48, sR b52, sI 1, .unset, .unset, .unset, .unset, .unset] [(.int (if tt = xb then (1 : Int32) else (0 : Int32)))])) tZ → Steps p.tables e below (T60.setTop (mkF m 251 #[sI p0, sI p1, sI p2, sI p3, sI rr, sI ff, sI tt, sI xa, sI xb, sI hz, sI xc, .val (.double dS), .second, .val (.double dM), .second, sR b32, sR b36, sR b48, sR b52, sI 1, .unset, .unset, .unset, .unset, .unset] [(.int xb), (.int tt)])) tZ := by
                    intro kj
                    by_cases hc251 : tt = xb
                    · try simp only [if_pos hc251] at kj
                      refine XS.icmpNo X60.here hx rfl (hb hby at_251) rfl (teq hc251).2 ?_
                      refine XS.iconst X60.here hx rfl (hb hby at_254) ?_
                      refine XS.goto X60.here hx rfl (pc0 := 255) (pc' := 285) rfl (hb hby at_255) (by decide) (by decide) ?_
                      exact kj
                    · try simp only [if_neg hc251] at kj
                      refine XS.icmpYes X60.here hx rfl (pc0 := 251) (pc' := 258) rfl (hb hby at_251) rfl (feq hc251).2 (by decide) (by decide) ?_
                      refine XS.iconst X60.here hx rfl (hb hby at_258) ?_
                      refine XS.goto X60.here hx rfl (pc0 := 259) (pc' := 285) rfl (hb hby at_259) (by decide) (by decide) ?_
                      exact kj
                  refine sg251 ?_
                  show Steps p.tables e below (T60.setTop (mkF m 285 #[sI p0, sI p1, sI p2, sI p3, sI rr, sI ff, sI tt, sI xa, sI xb, sI hz, sI xc, .val (.double dS), .second, .val (.double dM), .second, sR b32, sR b36, sR b48, sR b52, sI 1, .unset, .unset, .unset, .unset, .unset] [(.int (if tt = xb then (1 : Int32) else (0 : Int32)))])) _
                  exact kj
                · try simp only [if_neg hc244] at kj
                  refine XS.icmpYes X60.here hx rfl (pc0 := 244) (pc' := 258) rfl (hb hby at_244) rfl (feq hc244).2 (by decide) (by decide) ?_
                  refine XS.iconst X60.here hx rfl (hb hby at_258) ?_
                  refine XS.goto X60.here hx rfl (pc0 := 259) (pc' := 285) rfl (hb hby at_259) (by decide) (by decide) ?_
                  exact kj
              refine sg244 ?_
              show Steps p.tables e below (T60.setTop (mkF m 285 #[sI p0, sI p1, sI p2, sI p3, sI rr, sI ff, sI tt, sI xa, sI xb, sI hz, sI xc, .val (.double dS), .second, .val (.double dM), .second, sR b32, sR b36, sR b48, sR b52, sI 1, .unset, .unset, .unset, .unset, .unset] [(.int (if ff = xa then (if tt = xb then (1 : Int32) else (0 : Int32)) else (0 : Int32)))])) _
              exact kj
          refine sg230 ?_
          show Steps p.tables e below (T60.setTop (mkF m 285 #[sI p0, sI p1, sI p2, sI p3, sI rr, sI ff, sI tt, sI xa, sI xb, sI hz, sI xc, .val (.double dS), .second, .val (.double dM), .second, sR b32, sR b36, sR b48, sR b52, sI 1, .unset, .unset, .unset, .unset, .unset] [(.int (if ff = (-1 : Int32) then (if tt = xa then (1 : Int32) else (if ff = xa then (if tt = xb then (1 : Int32) else (0 : Int32)) else (0 : Int32))) else (if ff = xa then (if tt = xb then (1 : Int32) else (0 : Int32)) else (0 : Int32))))])) _
          exact kj
        · try simp only [if_neg hc224] at kj
          refine XS.ifYes X60.here hx rfl (pc0 := 224) (pc' := 262) rfl (hb hby at_224) rfl ((if0 _ _).trans (feq hc224).2) (by decide) (by decide) ?_
          refine XS.iload X60.here hx rfl (hb hby at_262) rfl ?_
          have sg264 : Steps p.tables e below (T60.setTop (mkF m 285 #[sI p0, sI p1, sI p2, sI p3, sI rr, sI ff, sI tt, sI xa, sI xb, sI hz, sI xc, .val (.double dS), .second, .val (.double dM), .second, sR b32, sR b36, sR b48, sR b52, sI 1, .unset, .unset, .unset, .unset, .unset] [(.int (if hz = (0 : Int32) then (0 : Int32) else (if ff = (-1 : Int32) then (if tt = xc then (1 : Int32) else (0 : Int32)) else (0 : Int32))))])) tZ → Steps p.tables e below (T60.setTop (mkF m 264 #[sI p0, sI p1, sI p2, sI p3, sI rr, sI ff, sI tt, sI xa, sI xb, sI hz, sI xc, .val (.double dS), .second, .val (.double dM), .second, sR b32, sR b36, sR b48, sR b52, sI 1, .unset, .unset, .unset, .unset, .unset] [(.int hz)])) tZ := by
            intro kj
            by_cases hc264 : hz = (0 : Int32)
            · try simp only [if_pos hc264] at kj
              refine XS.ifYes X60.here hx rfl (pc0 := 264) (pc' := 284) rfl (hb hby at_264) rfl ((if0 _ _).trans (teq hc264).1) (by decide) (by decide) ?_
              refine XS.iconst X60.here hx rfl (hb hby at_284) ?_
              exact kj
            · try simp only [if_neg hc264] at kj
              refine XS.ifNo X60.here hx rfl (hb hby at_264) rfl ((if0 _ _).trans (feq hc264).1) ?_
              refine XS.iload X60.here hx rfl (hb hby at_267) rfl ?_
              refine XS.iconst X60.here hx rfl (hb hby at_269) ?_
              have sg270 : Steps p.tables e below (T60.setTop (mkF m 285 #[sI p0, sI p1, sI p2, sI p3, sI rr, sI ff, sI tt, sI xa, sI xb, sI hz, sI xc, .val (.double dS), .second, .val (.double dM), .second, sR b32, sR b36, sR b48, sR b52, sI 1, .unset, .unset, .unset, .unset, .unset] [(.int (if ff = (-1 : Int32) then (if tt = xc then (1 : Int32) else (0 : Int32)) else (0 : Int32)))])) tZ → Steps p.tables e below (T60.setTop (mkF m 270 #[sI p0, sI p1, sI p2, sI p3, sI rr, sI ff, sI tt, sI xa, sI xb, sI hz, sI xc, .val (.double dS), .second, .val (.double dM), .second, sR b32, sR b36, sR b48, sR b52, sI 1, .unset, .unset, .unset, .unset, .unset] [(.int (-1)), (.int ff)])) tZ := by
                intro kj
                by_cases hc270 : ff = (-1 : Int32)
                · try simp only [if_pos hc270] at kj
                  refine XS.icmpNo X60.here hx rfl (hb hby at_270) rfl (teq hc270).2 ?_
                  refine XS.iload X60.here hx rfl (hb hby at_273) rfl ?_
                  refine XS.iload X60.here hx rfl (hb hby at_275) rfl ?_
                  have sg277 : Steps p.tables e below (T60.setTop (mkF m 285 #[sI p0, sI p1, sI p2, sI p3, sI rr, sI ff, sI tt, sI xa, sI xb, sI hz, sI xc, .val (.double dS), .second, .val (.double dM), .second, sR b32, sR b36, sR b48, sR b52, sI 1, .unset, .unset, .unset, .unset, .unset] [(.int (if tt = xc then (1 : Int32) else (0 : Int32)))])) tZ → Steps p.tables e below (T60.setTop (mkF m 277 #[sI p0, sI p1, sI p2, sI p3, sI rr, sI ff, sI tt, sI xa, sI xb, sI hz, sI xc, .val (.double dS), .second, .val (.double dM), .second, sR b32, sR b36, sR b48, sR b52, sI 1, .unset, .unset, .unset, .unset, .unset] [(.int xc), (.int tt)])) tZ := by
                    intro kj
                    by_cases hc277 : tt = xc
                    · try simp only [if_pos hc277] at kj
                      refine XS.icmpNo X60.here hx rfl (hb hby at_277) rfl (teq hc277).2 ?_
                      refine XS.iconst X60.here hx rfl (hb hby at_280) ?_
                      refine XS.goto X60.here hx rfl (pc0 := 281) (pc' := 285) rfl (hb hby at_281) (by decide) (by decide) ?_
                      exact kj
                    · try simp only [if_neg hc277] at kj
                      refine XS.icmpYes X60.here hx rfl (pc0 := 277) (pc' := 284) rfl (hb hby at_277) rfl (feq hc277).2 (by decide) (by decide) ?_
                      refine XS.iconst X60.here hx rfl (hb hby at_284) ?_
                      exact kj
                  refine sg277 ?_
                  show Steps p.tables e below (T60.setTop (mkF m 285 #[sI p0, sI p1, sI p2, sI p3, sI rr, sI ff, sI tt, sI xa, sI xb, sI hz, sI xc, .val (.double dS), .second, .val (.double dM), .second, sR b32, sR b36, sR b48, sR b52, sI 1, .unset, .unset, .unset, .unset, .unset] [(.int (if tt = xc then (1 : Int32) else (0 : Int32)))])) _
                  exact kj
                · try simp only [if_neg hc270] at kj
                  refine XS.icmpYes X60.here hx rfl (pc0 := 270) (pc' := 284) rfl (hb hby at_270) rfl (feq hc270).2 (by decide) (by decide) ?_
                  refine XS.iconst X60.here hx rfl (hb hby at_284) ?_
                  exact kj
              refine sg270 ?_
              show Steps p.tables e below (T60.setTop (mkF m 285 #[sI p0, sI p1, sI p2, sI p3, sI rr, sI ff, sI tt, sI xa, sI xb, sI hz, sI xc, .val (.double dS), .second, .val (.double dM), .second, sR b32, sR b36, sR b48, sR b52, sI 1, .unset, .unset, .unset, .unset, .unset] [(.int (if ff = (-1 : Int32) then (if tt = xc then (1 : Int32) else (0 : Int32)) else (0 : Int32)))])) _
              exact kj
          refine sg264 ?_
          show Steps p.tables e below (T60.setTop (mkF m 285 #[sI p0, sI p1, sI p2, sI p3, sI rr, sI ff, sI tt, sI xa, sI xb, sI hz, sI xc, .val (.double dS), .second, .val (.double dM), .second, sR b32, sR b36, sR b48, sR b52, sI 1, .unset, .unset, .unset, .unset, .unset] [(.int (if hz = (0 : Int32) then (0 : Int32) else (if ff = (-1 : Int32) then (if tt = xc then (1 : Int32) else (0 : Int32)) else (0 : Int32))))])) _
          exact kj
      refine sg224 ?_
      show Steps p.tables e below (T60.setTop (mkF m 285 #[sI p0, sI p1, sI p2, sI p3, sI rr, sI ff, sI tt, sI xa, sI xb, sI hz, sI xc, .val (.double dS), .second, .val (.double dM), .second, sR b32, sR b36, sR b48, sR b52, sI 1, .unset, .unset, .unset, .unset, .unset] [(.int (if rr = (0 : Int32) then (if ff = (-1 : Int32) then (if tt = xa then (1 : Int32) else (if ff = xa then (if tt = xb then (1 : Int32) else (0 : Int32)) else (0 : Int32))) else (if ff = xa then (if tt = xb then (1 : Int32) else (0 : Int32)) else (0 : Int32))) else (if hz = (0 : Int32) then (0 : Int32) else (if ff = (-1 : Int32) then (if tt = xc then (1 : Int32) else (0 : Int32)) else (0 : Int32)))))])) _
      refine XS.istore X60.here hx rfl (hb hby at_285) rfl (l' := #[sI p0, sI p1, sI p2, sI p3, sI rr, sI ff, sI tt, sI xa, sI xb, sI hz, sI xc, .val (.double dS), .second, .val (.double dM), .second, sR b32, sR b36, sR b48, sR b52, sI 1, sI (if rr = (0 : Int32) then (if ff = (-1 : Int32) then (if tt = xa then (1 : Int32) else (if ff = xa then (if tt = xb then (1 : Int32) else (0 : Int32)) else (0 : Int32))) else (if ff = xa then (if tt = xb then (1 : Int32) else (0 : Int32)) else (0 : Int32))) else (if hz = (0 : Int32) then (0 : Int32) else (if ff = (-1 : Int32) then (if tt = xc then (1 : Int32) else (0 : Int32)) else (0 : Int32)))), .unset, .unset, .unset, .unset]) rfl ?_
      exact kZ
    obtain ⟨on, e_on⟩ : ∃ z, z = (if rr = (0 : Int32) then (if ff = (-1 : Int32) then (if tt = xa then (1 : Int32) else (if ff = xa then (if tt = xb then (1 : Int32) else (0 : Int32)) else (0 : Int32))) else (if ff = xa then (if tt = xb then (1 : Int32) else (0 : Int32)) else (0 : Int32))) else (if hz = (0 : Int32) then (0 : Int32) else (if ff = (-1 : Int32) then (if tt = xc then (1 : Int32) else (0 : Int32)) else (0 : Int32)))) := ⟨_, rfl⟩
    rw [← e_on]
    show Go p e below _ (T60.setTop (mkF m 287 #[sI p0, sI p1, sI p2, sI p3, sI rr, sI ff, sI tt, sI xa, sI xb, sI hz, sI xc, .val (.double dS), .second, .val (.double dM), .second, sR b32, sR b36, sR b48, sR b52, sI 1, sI on, .unset, .unset, .unset, .unset] []))
    refine Vi (T60.setTop (mkF m 295 #[sI p0, sI p1, sI p2, sI p3, sI rr, sI ff, sI tt, sI xa, sI xb, sI hz, sI xc, .val (.double dS), .second, .val (.double dM), .second, sR b32, sR b36, sR b48, sR b52, sI 1, sI on, .val (.double (FP.dmul (4606732058837280358 : UInt64) dS)), .second, .unset, .unset] [])) (fun tZ kZ => ?_) ?_
    · refine X60.ldc2DoubleC hx hown (wz hZ hw 77 rfl) (g := (mkF m 287 #[sI p0, sI p1, sI p2, sI p3, sI rr, sI ff, sI tt, sI xa, sI xb, sI hz, sI xc, .val (.double dS), .second, .val (.double dM), .second, sR b32, sR b36, sR b48, sR b52, sI 1, sI on, .unset, .unset, .unset, .unset] [])) rfl (hb hby at_287) _ ?_
      refine XS.dload X60.here hx rfl (hb hby at_290) rfl ?_
      refine XS.dmulS X60.here hx rfl (hb hby at_292) rfl ((own_mm hS (by decide)).fin (by decide)).noNaN rfl ?_
      refine XS.dstore X60.here hx rfl (hb hby at_293) rfl (l' := #[sI p0, sI p1, sI p2, sI p3, sI rr, sI ff, sI tt, sI xa, sI xb, sI hz, sI xc, .val (.double dS), .second, .val (.double dM), .second, sR b32, sR b36, sR b48, sR b52, sI 1, sI on, .val (.double (FP.dmul (4606732058837280358 : UInt64) dS)), .second, .unset, .unset]) rfl ?_
      exact kZ
    obtain ⟨kp, e_kp⟩ : ∃ z, z = (FP.dmul (4606732058837280358 : UInt64) dS) := ⟨_, rfl⟩
    rw [← e_kp]
    show Go p e below _ (T60.setTop (mkF m 295 #[sI p0, sI p1, sI p2, sI p3, sI rr, sI ff, sI tt, sI xa, sI xb, sI hz, sI xc, .val (.double dS), .second, .val (.double dM), .second, sR b32, sR b36, sR b48, sR b52, sI 1, sI on, .val (.double kp), .second, .unset, .unset] []))
    have m_kp : Jvm.Free.Fl.Mag64 1062 kp := by rw [e_kp]; exact (own_mm hS (by decide)).mono (by decide)
    refine Vi (T60.setTop (mkF m 312 #[sI p0, sI p1, sI p2, sI p3, sI rr, sI ff, sI tt, sI xa, sI xb, sI hz, sI xc, .val (.double dS), .second, .val (.double dM), .second, sR b32, sR b36, sR b48, sR b52, sI 1, sI on, .val (.double kp), .second, .val (.double (if on = (0 : Int32) then kp else (FP.dadd kp dM))), .second] [])) (fun tZ kZ => ?_) ?_
    · refine XS.iload X60.here hx rfl (hb hby at_295) rfl ?_
      have sg297 : Steps p.tables e below (T60.setTop (mkF m 310 #[sI p0, sI p1, sI p2, sI p3, sI rr, sI ff, sI tt, sI xa, sI xb, sI hz, sI xc, .val (.double dS), .second, .val (.double dM), .second, sR b32, sR b36, sR b48, sR b52, sI 1, sI on, .val (.double kp), .second, .unset, .unset] [(.double (if on = (0 : Int32) then kp else (FP.dadd kp dM)))])) tZ → Steps p.tables e below (T60.setTop (mkF m 297 #[sI p0, sI p1, sI p2, sI p3, sI rr, sI ff, sI tt, sI xa, sI xb, sI hz, sI xc, .val (.double dS), .second, .val (.double dM), .second, sR b32, sR b36, sR b48, sR b52, sI 1, sI on, .val (.double kp), .second, .unset, .unset] [(.int on)])) tZ := by
        intro kj
        by_cases hc297 : on = (0 : Int32)
        · try simp only [if_pos hc297] at kj
          refine XS.ifYes X60.here hx rfl (pc0 := 297) (pc' := 308) rfl (hb hby at_297) rfl ((if0 _ _).trans (teq hc297).1) (by decide) (by decide) ?_
          refine XS.dload X60.here hx rfl (hb hby at_308) rfl ?_
          exact kj
        · try simp only [if_neg hc297] at kj
          refine XS.ifNo X60.here hx rfl (hb hby at_297) rfl ((if0 _ _).trans (feq hc297).1) ?_
          refine XS.dload X60.here hx rfl (hb hby at_300) rfl ?_
          refine XS.dload X60.here hx rfl (hb hby at_302) rfl ?_
          refine XS.daddS X60.here hx rfl (hb hby at_304) rfl (own_add m_kp (hM.mono (by decide)) (by decide)) rfl ?_
          refine XS.goto X60.here hx rfl (pc0 := 305) (pc' := 310) rfl (hb hby at_305) (by decide) (by decide) ?_
          exact kj
      refine sg297 ?_
      show Steps p.tables e below (T60.setTop (mkF m 310 #[sI p0, sI p1, sI p2, sI p3, sI rr, sI ff, sI tt, sI xa, sI xb, sI hz, sI xc, .val (.double dS), .second, .val (.double dM), .second, sR b32, sR b36, sR b48, sR b52, sI 1, sI on, .val (.double kp), .second, .unset, .unset] [(.double (if on = (0 : Int32) then kp else (FP.dadd kp dM)))])) _
      refine XS.dstore X60.here hx rfl (hb hby at_310) rfl (l' := #[sI p0, sI p1, sI p2, sI p3, sI rr, sI ff, sI tt, sI xa, sI xb, sI hz, sI xc, .val (.double dS), .second, .val (.double dM), .second, sR b32, sR b36, sR b48, sR b52, sI 1, sI on, .val (.double kp), .second, .val (.double (if on = (0 : Int32) then kp else (FP.dadd kp dM))), .second]) rfl ?_
      exact kZ
    obtain ⟨wt, e_wt⟩ : ∃ z, z = (if on = (0 : Int32) then kp else (FP.dadd kp dM)) := ⟨_, rfl⟩
    rw [← e_wt]
    show Go p e below _ (T60.setTop (mkF m 312 #[sI p0, sI p1, sI p2, sI p3, sI rr, sI ff, sI tt, sI xa, sI xb, sI hz, sI xc, .val (.double dS), .second, .val (.double dM), .second, sR b32, sR b36, sR b48, sR b52, sI 1, sI on, .val (.double kp), .second, .val (.double wt), .second] []))
    refine Vi (T60.setTop (mkF m 325 #[sI p0, sI p1, sI p2, sI p3, sI rr, sI ff, sI tt, sI xa, sI xb, sI hz, sI xc, .val (.double dS), .second, .val (.double dM), .second, sR b32, sR b36, sR b48, sR b52, sI 1, sI on, .val (.double kp), .second, .val (.double wt), .second] [(.int tt), (.int ff), (.int rr), (.ref b52)])) (fun tZ kZ => ?_) ?_
    · refine XS.iload X60.here hx rfl (hb hby at_312) rfl ?_
      refine XS.ifNo X60.here hx rfl (hb hby at_314) rfl ((if0 _ _).trans (feq (by decide)).1) ?_
      refine XS.aload X60.here hx rfl (hb hby at_317) rfl rfl ?_
      refine XS.iload X60.here hx rfl (hb hby at_319) rfl ?_
      refine XS.iload X60.here hx rfl (hb hby at_321) rfl ?_
      refine XS.iload X60.here hx rfl (hb hby at_323) rfl ?_
      exact kZ
    have v3 : f1 rr.toNatClampNeg (ff + (1 : Int32)).toNatClampNeg tt.toNatClampNeg = FP.dadd kp (if on = 0 then 0 else FP.dadd 0 dM) := by
      rw [e_f1, e_kp, show on = own_on rr ff tt xa xb hz xc from e_on]
      show FP.dadd (FP.dmul 4606732058837280358 (f0 _ _ _)) (g0 _ _ _) = _
      rw [e_f0, e_g0, own_dga ha hb_ hc_ hr ht hf hc85]
    have q3 : cmpValue (FP.dcmp (f1 rr.toNatClampNeg (ff + (1 : Int32)).toNatClampNeg tt.toNatClampNeg) wt) .l = 0 := by
      rw [v3, e_wt]
      by_cases q : on = 0
      · rw [if_pos q, if_pos q]; exact own_kz m_kp (by decide)
      · rw [if_neg q, if_neg q, zM]; exact dcmpV_self (own_add m_kp (hM.mono (by decide)) (by decide)) _
    obtain ⟨cq62, kq62, q62a, q62b, q62c⟩ := isOf hZ rfl f60_0
    obtain ⟨_, _, ⟨T62, L62, k62, n62⟩, -, X62, ⟨Lc62, hQ62, l62, y62, z62⟩, st62⟩ := X60.virtualBack hx (y := y6) (z := y6) hown (wz hZ hw 51 rfl) (wz hZ hw 52 rfl) (notFace_of_selects (args := #[]) (wz hZ hw 54 rfl)) (wz hZ hw 54 rfl) (wz hZ hw 53 rfl) (by decide) (backOf (W := 0) (rm6 l Z a0 hw [] b52 rr ff tt b54_0 f1 T60.heap n0 Z60 f60_0 f60_1 G_f1 (own_xb hr) (own_f1 hf) (own_x3 ht)) hZ (wq hw 55 rfl) (wq hw 27 rfl) (by decide) (by decide)) q62a q62c (g := (mkF m 325 #[sI p0, sI p1, sI p2, sI p3, sI rr, sI ff, sI tt, sI xa, sI xb, sI hz, sI xc, .val (.double dS), .second, .val (.double dM), .second, sR b32, sR b36, sR b48, sR b52, sI 1, sI on, .val (.double kp), .second, .val (.double wt), .second] [(.int tt), (.int ff), (.int rr), (.ref b52)])) rfl (by rw [hml]; rfl) (Steps.refl _) (argsL := [(.int rr), (.int ff), (.int tt)]) (rest := []) (lenOf pd_5 rfl) rfl (leW rfl) (hb hby at_325) (fun _ _ => ⟨rfl, rfl, (by decide : 0 + 1 + 1 + 1 + 1 + 3 + 1 + 22 + 0 + 2 + 0 + 0 + 0 ≤ _), (by decide : 0 + 1 + 2 + 2 + 1 + 6 + 3 + 68 + 0 + 4 + 0 + 0 + 0 ≤ _)⟩)
    dsimp only [Pt.U, Pt.locs, Pt.cells, Pt.slots] at X62 l62 y62 z62 st62 hQ62
    subst l62 y62 z62
    obtain ⟨rfl, N62q, e62⟩ := hQ62
    have N62 := Fr.app N60 N62q
    refine Go.via (fun t k => st62.trans k) ?_
    refine Vi (T62.setTop (mkF m 352 #[sI p0, sI p1, sI p2, sI p3, sI rr, sI ff, sI tt, sI xa, sI xb, sI hz, sI xc, .val (.double dS), .second, .val (.double dM), .second, sR b32, sR b36, sR b48, sR b52, sI 1, sI on, .val (.double kp), .second, .val (.double wt), .second] [(.int xa), (.int (-1)), (.int 0), (.ref b52)])) (fun tZ kZ => ?_) ?_
    · refine XS.dload X62.here hx rfl (hb hby at_328) rfl ?_
      refine XS.dcmpS X62.here hx rfl (hb hby at_330) rfl (v := 0) q3 ?_
      refine XS.ifNo X62.here hx rfl (hb hby at_331) rfl ((if0 _ _).trans (teq (by decide)).2) ?_
      refine XS.iconst X62.here hx rfl (hb hby at_334) ?_
      refine XS.goto X62.here hx rfl (pc0 := 335) (pc' := 339) rfl (hb hby at_335) (by decide) (by decide) ?_
      refine XS.istore X62.here hx rfl (hb hby at_339) rfl (l' := #[sI p0, sI p1, sI p2, sI p3, sI rr, sI ff, sI tt, sI xa, sI xb, sI hz, sI xc, .val (.double dS), .second, .val (.double dM), .second, sR b32, sR b36, sR b48, sR b52, sI 1, sI on, .val (.double kp), .second, .val (.double wt), .second]) rfl ?_
      refine XS.iload X62.here hx rfl (hb hby at_341) rfl ?_
      refine XS.ifNo X62.here hx rfl (hb hby at_343) rfl ((if0 _ _).trans (feq (by decide)).1) ?_
      refine XS.aload X62.here hx rfl (hb hby at_346) rfl rfl ?_
      refine XS.iconst X62.here hx rfl (hb hby at_348) ?_
      refine XS.iconst X62.here hx rfl (hb hby at_349) ?_
      refine XS.iload X62.here hx rfl (hb hby at_350) rfl ?_
      exact kZ
    have q4 : f1 (0 : Int32).toNatClampNeg ((-1 : Int32) + (1 : Int32)).toNatClampNeg xa.toNatClampNeg = FP.dadd kp dM := by
      rw [e_f1, e_kp]
      show FP.dadd (FP.dmul 4606732058837280358 (f0 _ _ _)) (g0 _ _ _) = _
      rw [e_f0, e_g0, own_d4a ha hb_ hc_, zM]
    obtain ⟨cq63, kq63, q63a, q63b, q63c⟩ := isOf hZ e62 f60_0
    obtain ⟨_, _, ⟨T63, L63, k63, n63⟩, -, X63, ⟨Lc63, hQ63, l63, y63, z63⟩, st63⟩ := X62.virtualBack hx (y := y6) (z := y6) hown (wz hZ hw 51 rfl) (wz hZ hw 52 rfl) (notFace_of_selects (args := #[]) (wz hZ hw 54 rfl)) (wz hZ hw 54 rfl) (wz hZ hw 53 rfl) (by decide) (backOf (W := 0) (rm6 l Z a0 hw [] b52 (0 : Int32) (-1 : Int32) xa b54_0 f1 T60.heap n0 Z60 f60_0 f60_1 G_f1 (by decide) (by decide) (own_x3 ha)) hZ (wq hw 55 rfl) (wq hw 27 rfl) (by decide) (by decide)) q63a q63c (g := (mkF m 352 #[sI p0, sI p1, sI p2, sI p3, sI rr, sI ff, sI tt, sI xa, sI xb, sI hz, sI xc, .val (.double dS), .second, .val (.double dM), .second, sR b32, sR b36, sR b48, sR b52, sI 1, sI on, .val (.double kp), .second, .val (.double wt), .second] [(.int xa), (.int (-1)), (.int 0), (.ref b52)])) rfl (by rw [hml]; rfl) (Steps.refl _) (argsL := [(.int 0), (.int (-1)), (.int xa)]) (rest := []) (lenOf pd_5 rfl) rfl (leW rfl) (hb hby at_352) (fun _ _ => ⟨rfl, e62, (by decide : 0 + 1 + 1 + 1 + 1 + 3 + 1 + 22 + 0 + 2 + 0 + 0 + 0 + 0 ≤ _), (by decide : 0 + 1 + 2 + 2 + 1 + 6 + 3 + 68 + 0 + 4 + 0 + 0 + 0 + 0 ≤ _)⟩)
    dsimp only [Pt.U, Pt.locs, Pt.cells, Pt.slots] at X63 l63 y63 z63 st63 hQ63
    subst l63 y63 z63
    obtain ⟨rfl, N63q, e63⟩ := hQ63
    have N63 := Fr.app N62 N63q
    refine Go.via (fun t k => st63.trans k) ?_
    refine Vi (T63.setTop (mkF m 383 #[sI p0, sI p1, sI p2, sI p3, sI rr, sI ff, sI tt, sI xa, sI xb, sI hz, sI xc, .val (.double dS), .second, .val (.double dM), .second, sR b32, sR b36, sR b48, sR b52, sI 1, sI on, .val (.double kp), .second, .val (.double wt), .second] [(.int xb), (.int xa), (.int 0), (.ref b52)])) (fun tZ kZ => ?_) ?_
    · refine XS.dload X63.here hx rfl (hb hby at_355) rfl ?_
      refine XS.dload X63.here hx rfl (hb hby at_357) rfl ?_
      refine XS.daddS X63.here hx rfl (hb hby at_359) rfl (own_add m_kp (hM.mono (by decide)) (by decide)) rfl ?_
      refine XS.dcmpS X63.here hx rfl (hb hby at_360) rfl (v := 0) (by have z := dcmpV_self (own_add m_kp (hM.mono (by decide)) (by decide)) .l; rw [← q4] at z; rw [← q4]; exact z) ?_
      refine XS.ifNo X63.here hx rfl (hb hby at_361) rfl ((if0 _ _).trans (teq (by decide)).2) ?_
      refine XS.iconst X63.here hx rfl (hb hby at_364) ?_
      refine XS.goto X63.here hx rfl (pc0 := 365) (pc' := 369) rfl (hb hby at_365) (by decide) (by decide) ?_
      refine XS.istore X63.here hx rfl (hb hby at_369) rfl (l' := #[sI p0, sI p1, sI p2, sI p3, sI rr, sI ff, sI tt, sI xa, sI xb, sI hz, sI xc, .val (.double dS), .second, .val (.double dM), .second, sR b32, sR b36, sR b48, sR b52, sI 1, sI on, .val (.double kp), .second, .val (.double wt), .second]) rfl ?_
      refine XS.iload X63.here hx rfl (hb hby at_371) rfl ?_
      refine XS.ifNo X63.here hx rfl (hb hby at_373) rfl ((if0 _ _).trans (feq (by decide)).1) ?_
      refine XS.aload X63.here hx rfl (hb hby at_376) rfl rfl ?_
      refine XS.iconst X63.here hx rfl (hb hby at_378) ?_
      refine XS.iload X63.here hx rfl (hb hby at_379) rfl ?_
      refine XS.iload X63.here hx rfl (hb hby at_381) rfl ?_
      exact kZ
    have q5 : f1 (0 : Int32).toNatClampNeg (xa + (1 : Int32)).toNatClampNeg xb.toNatClampNeg = FP.dadd kp dM := by
      rw [e_f1, e_kp]
      show FP.dadd (FP.dmul 4606732058837280358 (f0 _ _ _)) (g0 _ _ _) = _
      rw [e_f0, e_g0, own_d5a ha hb_ hc_, zM]
    obtain ⟨cq64, kq64, q64a, q64b, q64c⟩ := isOf hZ e63 f60_0
    obtain ⟨_, _, ⟨T64, L64, k64, n64⟩, -, X64, ⟨Lc64, hQ64, l64, y64, z64⟩, st64⟩ := X63.virtualBack hx (y := y6) (z := y6) hown (wz hZ hw 51 rfl) (wz hZ hw 52 rfl) (notFace_of_selects (args := #[]) (wz hZ hw 54 rfl)) (wz hZ hw 54 rfl) (wz hZ hw 53 rfl) (by decide) (backOf (W := 0) (rm6 l Z a0 hw [] b52 (0 : Int32) xa xb b54_0 f1 T60.heap n0 Z60 f60_0 f60_1 G_f1 (by decide) (own_p1 ha) (own_x3 hb_)) hZ (wq hw 55 rfl) (wq hw 27 rfl) (by decide) (by decide)) q64a q64c (g := (mkF m 383 #[sI p0, sI p1, sI p2, sI p3, sI rr, sI ff, sI tt, sI xa, sI xb, sI hz, sI xc, .val (.double dS), .second, .val (.double dM), .second, sR b32, sR b36, sR b48, sR b52, sI 1, sI on, .val (.double kp), .second, .val (.double wt), .second] [(.int xb), (.int xa), (.int 0), (.ref b52)])) rfl (by rw [hml]; rfl) (Steps.refl _) (argsL := [(.int 0), (.int xa), (.int xb)]) (rest := []) (lenOf pd_5 rfl) rfl (leW rfl) (hb hby at_383) (fun _ _ => ⟨rfl, e63, (by decide : 0 + 1 + 1 + 1 + 1 + 3 + 1 + 22 + 0 + 2 + 0 + 0 + 0 + 0 + 0 ≤ _), (by decide : 0 + 1 + 2 + 2 + 1 + 6 + 3 + 68 + 0 + 4 + 0 + 0 + 0 + 0 + 0 ≤ _)⟩)
    dsimp only [Pt.U, Pt.locs, Pt.cells, Pt.slots] at X64 l64 y64 z64 st64 hQ64
    subst l64 y64 z64
    obtain ⟨rfl, N64q, e64⟩ := hQ64
    have N64 := Fr.app N63 N64q
    refine Go.via (fun t k => st64.trans k) ?_
    refine Vi (T64.setTop (mkF m 404 #[sI p0, sI p1, sI p2, sI p3, sI rr, sI ff, sI tt, sI xa, sI xb, sI hz, sI xc, .val (.double dS), .second, .val (.double dM), .second, sR b32, sR b36, sR b48, sR b52, sI 1, sI on, .val (.double kp), .second, .val (.double wt), .second] [(.int 1)])) (fun tZ kZ => ?_) ?_
    · refine XS.dload X64.here hx rfl (hb hby at_386) rfl ?_
      refine XS.dload X64.here hx rfl (hb hby at_388) rfl ?_
      refine XS.daddS X64.here hx rfl (hb hby at_390) rfl (own_add m_kp (hM.mono (by decide)) (by decide)) rfl ?_
      refine XS.dcmpS X64.here hx rfl (hb hby at_391) rfl (v := 0) (by have z := dcmpV_self (own_add m_kp (hM.mono (by decide)) (by decide)) .l; rw [← q5] at z; rw [← q5]; exact z) ?_
      refine XS.ifNo X64.here hx rfl (hb hby at_392) rfl ((if0 _ _).trans (teq (by decide)).2) ?_
      refine XS.iconst X64.here hx rfl (hb hby at_395) ?_
      refine XS.goto X64.here hx rfl (pc0 := 396) (pc' := 400) rfl (hb hby at_396) (by decide) (by decide) ?_
      refine XS.istore X64.here hx rfl (hb hby at_400) rfl (l' := #[sI p0, sI p1, sI p2, sI p3, sI rr, sI ff, sI tt, sI xa, sI xb, sI hz, sI xc, .val (.double dS), .second, .val (.double dM), .second, sR b32, sR b36, sR b48, sR b52, sI 1, sI on, .val (.double kp), .second, .val (.double wt), .second]) rfl ?_
      refine XS.iload X64.here hx rfl (hb hby at_402) rfl ?_
      exact kZ
    refine Go.retN X64 hx Bd.notSynchronized (t := .boolean) Bd.returns (by simp) (hb hby at_404) (by decide) (by decide) ?_
    exact ⟨rfl, N64⟩
theorem comes_1 {Post : Tables → Env → Array Value → State → Outcome → State → Prop} (hpost : ∀ tb e args s v u, (limb_1_1.after args s (.returned v) u = true ∧ limb_1_2.after args s (.returned v) u = true ∧ True) → FrameEnd s (.returned v) u (Jvm.fieldLocs frame_1_writes args s ++ Jvm.arrayLocs frame_1_arrays args s ++ Jvm.staticLocs frame_1_statics s) 72 256 → Post tb e args s (.returned v) u) :
    ArmFor flags0 classFile x code maxLocals ret World_1 tables_1 room_1 Calls_1 rest_1 Pre_1 Post := by
  intro l hfl _ _ p e ha hc hk s m args below hf hA hF happ hP
  obtain ⟨hcalls, hrest, hpre⟩ := hP
  obtain ⟨-, -, -, hnamed, -, -, -, hat⟩ := (Spec.applies_iff hf).mp happ
  obtain ⟨hg, hn⟩ := and_e (Cond.before_iff.mp (show (Jvm.Cond.and given_1 narrow_1).before args s = true from hpre))
  obtain ⟨g1, g2⟩ := and_e hg
  obtain ⟨g3, g4⟩ := and_e g2
  obtain ⟨g5, g6⟩ := and_e g4
  obtain ⟨g7, g8⟩ := and_e g6
  obtain ⟨w0, w1, w2, w3, rfl⟩ : ∃ w0 w1 w2 w3 : Value, args = #[w0, w1, w2, w3] := by
    have hs : args.size = 4 := by simpa [Cond.value, given_1] using g1
    obtain ⟨L⟩ := args
    match L, hs with
    | [w0, w1, w2, w3], _ => exact ⟨w0, w1, w2, w3, rfl⟩
  have hw := fun d (hd : d ∈ tables_1) => atoms_spec (ws := Jvm.Cond.code x code maxLocals ret :: tables_1) hat d (List.mem_cons_of_mem _ hd)
  have hfit : Fit s := fun {y c} hc i hi => by
    obtain ⟨ha, rfl⟩ := Array.getElem?_eq_some_iff.mp hc
    have q := List.all_eq_true.mp ((Array.all_eq_true_iff_forall_mem.mp hF) _ (Array.getElem_mem ha)) i (List.mem_range.mpr hi)
    simpa [Array.getElem?_eq_getElem hi] using q
  obtain ⟨i0, ei0⟩ := is_v g3
  obtain rfl : w0 = (.int i0) := Option.some.inj ei0
  obtain ⟨i1, ei1⟩ := is_v g5
  obtain rfl : w1 = (.int i1) := Option.some.inj ei1
  obtain ⟨i2, ei2⟩ := is_v g7
  obtain rfl : w2 = (.int i2) := Option.some.inj ei2
  obtain ⟨i3, ei3⟩ := is_v g8
  obtain rfl : w3 = (.int i3) := Option.some.inj ei3

  obtain ⟨n, o, h1, h2, h3, _, L, rfl, ⟨rfl, N⟩, hq⟩ := rm0 l s _ hw tables_1 i0 i1 i2 i3  s.heap s.heap.size (Nat.le_refl _) p e ha hc hk s m _ below hf ((Spec.applies_iff_loose hf).mp happ).1 ⟨rfl, State.Warmed39.refl s, rfl⟩ trivial
  refine ⟨n, _, h1, h2, h3, hpost _ _ _ _ _ _ ⟨Cond.after_iff.mpr rfl, Cond.after_iff.mpr (eq_i res_at (Term.int_eval (1)) rfl), trivial⟩ ⟨hq.1, hq.2.1, (hq.2.2.sift fun y hy => Or.inr (N y hy)).mono (by decide) (by decide)⟩⟩
theorem main_1_1 : Claimed_1_1 := comes_1 fun _ _ _ _ _ _ h hF => ⟨h.1, hF⟩
theorem main_1_2 : Claimed_1_2 := comes_1 fun _ _ _ _ _ _ h hF => ⟨h.2.1, hF⟩
end Jvm.Pilot.@@N@@
namespace Jvm.Pilot.@@N@@
open Jvm Jvm.ClassFile Sem Op Lib Jvm.Free Jvm.Stand Jvm.Pilot.@@N@@.Jvm.D
/-! MADE BY PROGRAM (witnessworld.py) out of the Statement's table words and the real class files: 16 classes; the members and pool entries that the words name. The judged class is class 1, her method 1. -/
namespace start1
open Jvm.ClassFile
def u (s : String) : CpInfo := .utf8 (stringToUtf16 s)
/-- a pool by its gaps: so many unusable entries, then the entry; so many at the end -/
def gap : Nat → List CpInfo → List CpInfo
  | 0, r => r
  | n + 1, r => .unusable :: gap n r
def poolList (es : List (Nat × CpInfo)) (last : Nat) : List CpInfo := es.foldr (fun e r => gap e.1 (e.2 :: r)) (gap last [])
def pool (es : List (Nat × CpInfo)) (last : Nat) : Array CpInfo := ⟨poolList es last⟩
def fileOf (pool : Array CpInfo) (this : Nat) (attrs : Array Attribute := #[]) (ms : Array MethodInfo := #[]) (fl : Nat := 33) (sup : Nat := 0) (ifs : Array Nat := #[]) (fds : Array FieldInfo := #[]) : ClassFile where
  minorVersion := 0
  majorVersion := 65
  constantPool := pool
  accessFlags := fl
  thisClass := this
  superClass := sup
  interfaces := ifs
  fields := fds
  methods := ms
  attributes := attrs
def plain (name : String) (sup : Option ClassId) : Class where
  name := name
  kind := .ordinary
  loader := none
  accessFlags := 33
  super := sup
  interfaces := #[]
  cf := none
  fields := #[]
  methods := #[]
  instanceTypes := #[]
  staticTypes := #[]
  resolved := #[]
  callSites := []
  init := .initialized
  statics := none
  mirror := none

def pool0 : Array CpInfo := pool [(5, u "<init>"), (0, u "()V"), (1, .class_ 10), (1, u "java/lang/Object"), (85, u "clone"), (0, u "()Ljava/lang/Object;")] 26

def k0c0 : Code := { maxStack := 0, maxLocals := 1, code := object_method_1_code, exceptionTable := #[], attributes := #[] }
def k0m0 : Method := { name := "<init>", desc := "()V", sig := { parameters := [], returnType := none }, accessFlags := 1, code := some k0c0 }
def k0m1 : Method := { name := "clone", desc := "()Ljava/lang/Object;", sig := { parameters := [], returnType := some (.object "java/lang/Object") }, accessFlags := 260, code := none }
/-- java/lang/Object -/
def k0 : Class := { plain "java/lang/Object" none with
  accessFlags := 33
  interfaces := #[]
  cf := some (fileOf pool0 8 #[] #[{ accessFlags := 1, nameIndex := 5, descriptorIndex := 6, attributes := #[] }, { accessFlags := 260, nameIndex := 96, descriptorIndex := 97, attributes := #[] }] 33 0 #[] #[])
  fields := #[]
  methods := #[k0m0, k0m1]
  instanceTypes := #[]
  staticTypes := #[]
  resolved := Array.replicate 124 none
  statics := none }

def pool1 : Array CpInfo := pool [(2, .class_ 4), (1, u "java/lang/Object"), (0, u "<init>"), (0, u "()V"), (0, .integer 2147483647), (0, .integer 1048575), (0, .class_ 10), (0, u "[I"), (0, .class_ 12), (0, u "com/example/muster/muster/core/MpdaPlan"), (0, .methodref 11 14), (0, .nameAndType 5 15), (0, u "([[I)V"), (0, .class_ 17), (0, u "com/example/muster/muster/solvers/Pheromone"), (0, .methodref 16 19), (0, .nameAndType 5 20), (0, u "(IID)V"), (0, .methodref 16 22), (0, .nameAndType 23 24), (0, u "toward"), (0, u "(III)D"), (0, .methodref 16 26), (0, .nameAndType 27 28), (0, u "deposit"), (0, u "(Lcom/example/muster/muster/core/MpdaPlan;D)V"), (0, .methodref 16 30), (0, .nameAndType 31 6), (0, u "update"), (0, .double 4606732058837280358), (1, .class_ 35), (0, u "com/example/muster/muster/solvers/PheromoneTowardPinLaw"), (2, u "law"), (0, u "(IIII)Z")] 5

def k1m0 : Method := { name := "<init>", desc := "()V", sig := { parameters := [], returnType := none }, accessFlags := 1, code := none }
def k1c1 : Code := { maxStack := 7, maxLocals := 25, code := code, exceptionTable := #[], attributes := #[] }
def k1m1 : Method := { name := "law", desc := "(IIII)Z", sig := { parameters := [.int, .int, .int, .int], returnType := some .boolean }, accessFlags := 9, code := some k1c1 }
/-- com/example/muster/muster/solvers/PheromoneTowardPinLaw -/
def k1 : Class := { plain "com/example/muster/muster/solvers/PheromoneTowardPinLaw" (some 0) with
  accessFlags := 49
  interfaces := #[]
  cf := some (fileOf pool1 34 #[] #[{ accessFlags := 1, nameIndex := 5, descriptorIndex := 6, attributes := #[] }, { accessFlags := 9, nameIndex := 38, descriptorIndex := 39, attributes := #[] }] 49 2 #[] #[])
  fields := #[]
  methods := #[k1m0, k1m1]
  instanceTypes := #[]
  staticTypes := #[]
  resolved := Array.replicate 45 none
  statics := none }

def pool2 : Array CpInfo := pool [(1, .methodref 2 3), (0, .class_ 4), (0, .nameAndType 5 6), (0, u "java/lang/Object"), (0, u "<init>"), (0, u "()V"), (0, .class_ 8), (0, u "[I"), (0, .fieldref 10 11), (0, .class_ 12), (0, .nameAndType 13 14), (0, u "com/example/muster/muster/core/MpdaPlan"), (0, u "routes"), (0, u "[[I"), (0, .methodref 7 16), (0, .nameAndType 17 18), (0, u "clone"), (0, u "()Ljava/lang/Object;"), (0, u "([[I)V"), (4, u "robotCount"), (0, u "()I"), (0, u "route"), (0, u "(I)[I")] 2

def k2c0 : Code := { maxStack := 4, maxLocals := 3, code := prog_25_method_1_code, exceptionTable := #[], attributes := #[] }
def k2m0 : Method := { name := "<init>", desc := "([[I)V", sig := { parameters := [(.array (.array .int))], returnType := none }, accessFlags := 1, code := some k2c0 }
def k2c1 : Code := { maxStack := 1, maxLocals := 1, code := prog_25_method_2_code, exceptionTable := #[], attributes := #[] }
def k2m1 : Method := { name := "robotCount", desc := "()I", sig := { parameters := [], returnType := some .int }, accessFlags := 1, code := some k2c1 }
def k2c2 : Code := { maxStack := 2, maxLocals := 2, code := prog_25_method_3_code, exceptionTable := #[], attributes := #[] }
def k2m2 : Method := { name := "route", desc := "(I)[I", sig := { parameters := [.int], returnType := some (.array .int) }, accessFlags := 1, code := some k2c2 }
/-- com/example/muster/muster/core/MpdaPlan -/
def k2 : Class := { plain "com/example/muster/muster/core/MpdaPlan" (some 0) with
  accessFlags := 49
  interfaces := #[]
  cf := some (fileOf pool2 10 #[] #[{ accessFlags := 1, nameIndex := 5, descriptorIndex := 19, attributes := #[] }, { accessFlags := 1, nameIndex := 24, descriptorIndex := 25, attributes := #[] }, { accessFlags := 1, nameIndex := 26, descriptorIndex := 27, attributes := #[] }] 49 2 #[] #[{ accessFlags := 18, nameIndex := 13, descriptorIndex := 14, attributes := #[] }])
  fields := #[{ name := "routes", type := (.array (.array .int)), accessFlags := 18, slot := 0, constantValue := 0 }]
  methods := #[k2m0, k2m1, k2m2]
  instanceTypes := #[(.array (.array .int))]
  staticTypes := #[]
  resolved := Array.replicate 30 none
  statics := none }

def pool3 : Array CpInfo := pool [(1, .class_ 2), (0, u "java/lang/Cloneable"), (0, .class_ 4), (0, u "java/lang/Object")] 2

/-- java/lang/Cloneable -/
def k3 : Class := { plain "java/lang/Cloneable" (some 0) with
  accessFlags := 1537
  interfaces := #[]
  cf := some (fileOf pool3 1 #[] #[] 1537 3 #[] #[])
  fields := #[]
  methods := #[]
  instanceTypes := #[]
  staticTypes := #[]
  resolved := Array.replicate 7 none
  statics := none }

def pool4 : Array CpInfo := pool [(1, .methodref 2 3), (0, .class_ 4), (0, .nameAndType 5 6), (0, u "java/lang/Object"), (0, u "<init>"), (0, u "()V"), (0, .fieldref 8 9), (0, .class_ 10), (0, .nameAndType 11 12), (0, u "com/example/muster/muster/solvers/Pheromone"), (0, u "initial"), (0, u "D"), (0, .class_ 14), (0, u "[[[D"), (0, .fieldref 8 16), (0, .nameAndType 17 14), (0, u "value"), (0, .fieldref 8 19), (0, .nameAndType 20 14), (0, u "deposited"), (0, .methodref 8 22), (0, .nameAndType 23 6), (0, u "reset"), (0, .methodref 25 26), (0, .class_ 27), (0, .nameAndType 28 29), (0, u "java/util/Arrays"), (0, u "fill"), (0, u "([DD)V"), (0, .methodref 31 32), (0, .class_ 33), (0, .nameAndType 34 35), (0, u "com/example/muster/muster/core/MpdaPlan"), (0, u "robotCount"), (0, u "()I"), (2, .methodref 31 39), (0, .nameAndType 40 41), (0, u "route"), (0, u "(I)[I"), (0, .double 4606732058837280358), (1, u "PERSISTENCE"), (1, u "(IID)V"), (5, u "toward"), (0, u "(III)D"), (0, u "deposit"), (0, u "(Lcom/example/muster/muster/core/MpdaPlan;D)V"), (2, u "update")] 4

def k4c0 : Code := { maxStack := 4, maxLocals := 5, code := prog_48_method_1_code, exceptionTable := #[], attributes := #[] }
def k4m0 : Method := { name := "<init>", desc := "(IID)V", sig := { parameters := [.int, .int, .double], returnType := none }, accessFlags := 0, code := some k4c0 }
def k4c1 : Code := { maxStack := 3, maxLocals := 9, code := prog_48_method_2_code, exceptionTable := #[], attributes := #[] }
def k4m1 : Method := { name := "reset", desc := "()V", sig := { parameters := [], returnType := none }, accessFlags := 0, code := some k4c1 }
def k4c2 : Code := { maxStack := 3, maxLocals := 4, code := prog_48_method_3_code, exceptionTable := #[], attributes := #[] }
def k4m2 : Method := { name := "toward", desc := "(III)D", sig := { parameters := [.int, .int, .int], returnType := some .double }, accessFlags := 0, code := some k4c2 }
def k4c3 : Code := { maxStack := 6, maxLocals := 10, code := prog_48_method_4_code, exceptionTable := #[], attributes := #[] }
def k4m3 : Method := { name := "deposit", desc := "(Lcom/example/muster/muster/core/MpdaPlan;D)V", sig := { parameters := [(.object "com/example/muster/muster/core/MpdaPlan"), .double], returnType := none }, accessFlags := 0, code := some k4c3 }
def k4c4 : Code := { maxStack := 6, maxLocals := 6, code := prog_48_method_5_code, exceptionTable := #[], attributes := #[] }
def k4m4 : Method := { name := "update", desc := "()V", sig := { parameters := [], returnType := none }, accessFlags := 0, code := some k4c4 }
/-- com/example/muster/muster/solvers/Pheromone -/
def k4 : Class := { plain "com/example/muster/muster/solvers/Pheromone" (some 0) with
  accessFlags := 48
  interfaces := #[]
  cf := some (fileOf pool4 8 #[] #[{ accessFlags := 0, nameIndex := 5, descriptorIndex := 46, attributes := #[] }, { accessFlags := 0, nameIndex := 23, descriptorIndex := 6, attributes := #[] }, { accessFlags := 0, nameIndex := 52, descriptorIndex := 53, attributes := #[] }, { accessFlags := 0, nameIndex := 54, descriptorIndex := 55, attributes := #[] }, { accessFlags := 0, nameIndex := 58, descriptorIndex := 6, attributes := #[] }] 48 2 #[] #[{ accessFlags := 24, nameIndex := 44, descriptorIndex := 12, attributes := #[] }, { accessFlags := 18, nameIndex := 11, descriptorIndex := 12, attributes := #[] }, { accessFlags := 18, nameIndex := 17, descriptorIndex := 14, attributes := #[] }, { accessFlags := 18, nameIndex := 20, descriptorIndex := 14, attributes := #[] }])
  fields := #[{ name := "PERSISTENCE", type := .double, accessFlags := 24, slot := 0, constantValue := 0 }, { name := "initial", type := .double, accessFlags := 18, slot := 0, constantValue := 0 }, { name := "value", type := (.array (.array (.array .double))), accessFlags := 18, slot := 1, constantValue := 0 }, { name := "deposited", type := (.array (.array (.array .double))), accessFlags := 18, slot := 2, constantValue := 0 }]
  methods := #[k4m0, k4m1, k4m2, k4m3, k4m4]
  instanceTypes := #[.double, (.array (.array (.array .double))), (.array (.array (.array .double)))]
  staticTypes := #[.double]
  resolved := Array.replicate 63 none
  statics := none }

def pool5 : Array CpInfo := pool [(2, .class_ 4), (1, u "java/lang/Object"), (0, u "<init>"), (0, u "()V"), (7, .class_ 16), (1, u "java/util/Arrays"), (57, .class_ 76), (1, u "java/util/Arrays$NaturalOrder"), (36, .class_ 115), (1, u "java/util/Arrays$LegacyMergeSort"), (1, u "Z"), (257, .class_ 376), (0, u "java/util/Arrays$ArrayList"), (68, u "$assertionsDisabled"), (269, u "MIN_ARRAY_SORT_GRAN"), (0, u "I"), (2, u "INSERTIONSORT_THRESHOLD"), (120, u "fill"), (13, u "([DD)V"), (120, .class_ 976), (0, u "java/util/Arrays$ArrayItr")] 52

def k5m0 : Method := { name := "<init>", desc := "()V", sig := { parameters := [], returnType := none }, accessFlags := 2, code := none }
def k5c1 : Code := { maxStack := 4, maxLocals := 5, code := jdk_65_method_113_code, exceptionTable := #[], attributes := #[] }
def k5m1 : Method := { name := "fill", desc := "([DD)V", sig := { parameters := [(.array .double), .double], returnType := none }, accessFlags := 9, code := some k5c1 }
/-- java/util/Arrays -/
def k5 : Class := { plain "java/util/Arrays" (some 0) with
  accessFlags := 49
  interfaces := #[]
  cf := some (fileOf pool5 14 #[.nestMembers #[975, 375, 113, 74]] #[{ accessFlags := 2, nameIndex := 5, descriptorIndex := 6, attributes := #[] }, { accessFlags := 9, nameIndex := 840, descriptorIndex := 854, attributes := #[] }] 49 2 #[] #[{ accessFlags := 26, nameIndex := 715, descriptorIndex := 716, attributes := #[] }, { accessFlags := 26, nameIndex := 719, descriptorIndex := 716, attributes := #[] }, { accessFlags := 4120, nameIndex := 445, descriptorIndex := 117, attributes := #[] }])
  fields := #[{ name := "MIN_ARRAY_SORT_GRAN", type := .int, accessFlags := 26, slot := 0, constantValue := 0 }, { name := "INSERTIONSORT_THRESHOLD", type := .int, accessFlags := 26, slot := 1, constantValue := 0 }, { name := "$assertionsDisabled", type := .boolean, accessFlags := 4120, slot := 2, constantValue := 0 }]
  methods := #[k5m0, k5m1]
  instanceTypes := #[]
  staticTypes := #[.int, .int, .boolean]
  resolved := Array.replicate 1029 none
  statics := none }

def pool6 : Array CpInfo := pool [(1, u "java/io/Serializable"), (0, .class_ 1), (0, u "java/lang/Object"), (0, .class_ 3)] 3

/-- java/io/Serializable -/
def k6 : Class := { plain "java/io/Serializable" (some 0) with
  accessFlags := 1537
  interfaces := #[]
  cf := some (fileOf pool6 2 #[] #[] 1537 4 #[] #[])
  fields := #[]
  methods := #[]
  instanceTypes := #[]
  staticTypes := #[]
  resolved := Array.replicate 8 none
  statics := none }

/-- the primitive byte -/
def k7 : Class := { plain "byte" none with kind := .primitive 'B', accessFlags := 0x411 }
/-- [B -/
def k8 : Class := { plain "[B" (some 0) with kind := .array 7 .byte, interfaces := #[3, 6], accessFlags := 1041 }

/-- the primitive double -/
def k9 : Class := { plain "double" none with kind := .primitive 'D', accessFlags := 0x411 }
/-- [D -/
def k10 : Class := { plain "[D" (some 0) with kind := .array 9 .double, interfaces := #[3, 6], accessFlags := 1041 }

/-- the primitive int -/
def k11 : Class := { plain "int" none with kind := .primitive 'I', accessFlags := 0x411 }
/-- [I -/
def k12 : Class := { plain "[I" (some 0) with kind := .array 11 .int, interfaces := #[3, 6], accessFlags := 1041 }

/-- an array of arrays -/
def k13 : Class := { plain "[[D" (some 0) with kind := .array 10 (.array .double), interfaces := #[3, 6], accessFlags := 1041 }

/-- an array of arrays -/
def k14 : Class := { plain "[[I" (some 0) with kind := .array 12 (.array .int), interfaces := #[3, 6], accessFlags := 1041 }

/-- an array of arrays -/
def k15 : Class := { plain "[[[D" (some 0) with kind := .array 13 (.array (.array .double)), interfaces := #[3, 6], accessFlags := 1041 }

def heap : Heap := #[{ cls := 13, slots := #[.null], vm := .none },
  { cls := 15, slots := #[.null], vm := .none },
  { cls := 14, slots := #[.null], vm := .none }]
def classes : Array Class := #[k0, k1, k2, k3, k4, k5, k6, k7, k8, k9, k10, k11, k12, k13, k14, k15]
def interned : List (Array UInt16 × Addr) := []
def slotsUsed : Nat := 3
def theMethod : MethodId := ⟨1, 1⟩
def args0 : Array Value := #[.int 1, .int 2, .int 3, .int 4]
def aboutOver (below : List Frame) : State where
  vm := { classes := classes, interned := interned.toArray }
  heap := heap
  slotsUsed := slotsUsed
  threads := #[{ frames := .invoking theMethod args0 :: below }]
def below0 : List Frame := [.native { method := ⟨0, 0⟩, args := #[] }]
def about1 : State := aboutOver below0
def p0 : Program := .bare "" "" ""
def e0 : Env := launch0.env 0 0 0
theorem w_frames : about1.frames = Frame.invoking theMethod args0 :: below0 := rfl
set_option maxRecDepth 65536 in
theorem w_args : argsFit about1.vm theMethod args0 = true := by decide +kernel
set_option maxRecDepth 65536 in
theorem w_heap : heapFits about1 = true := by decide +kernel
set_option maxRecDepth 65536 in
theorem w_runnable : about1.curStatus? = some .runnable := by decide +kernel
set_option maxRecDepth 65536 in
theorem w_alone : about1.alone = true := by decide +kernel
set_option maxRecDepth 65536 in
theorem w_named : about1.methodNamed? x = some theMethod := by decide +kernel
set_option maxRecDepth 65536 in
theorem w_hears : about1.hears theMethod below0 = true := by decide +kernel
set_option maxRecDepth 65536 in
theorem w_ripe : about1.ripe theMethod args0 below0 = true := by decide +kernel
theorem w_running : about1.status = .running := rfl
set_option maxRecDepth 65536 in
theorem w_room : about1.hasRoom e0.platform room_1 = true :=
  launch0.hasRoom_least _ room_1 (by decide +kernel) (by decide +kernel) (by decide +kernel) (by decide +kernel) (by decide +kernel) (by decide +kernel)
theorem allAtoms_all (ts : List Jvm.Cond) (a : Array Jvm.Value) (st : Jvm.State) : (allAtoms ts).before a st = ts.all (fun c => c.before a st) := by
  induction ts with
  | nil => rfl
  | cons c t ih =>
    show (Jvm.Cond.and c (allAtoms t)).before a st = _
    rw [Jvm.Cond.before_and, ih, List.all_cons]
def words1 : List Jvm.Cond := Jvm.Cond.code x code maxLocals ret :: tables_1
/-- a 'code' word, met by the world's own term for the bytes: nothing is compared byte by byte -/
theorem code_word {y : MethodName} {bytes : ByteArray} {mx : Nat} {rt : Option FieldType} {a : Array Value} {s : State} {m : MethodId} {meth : Method} {c : Code} (h1 : s.methodNamed? y = some m) (h2 : s.vm.method? m = some meth) (h3 : meth.code = some c) (h4 : c.code = bytes)
    (h5 : (c.maxLocals == mx && c.exceptionTable.isEmpty && decide (c.maxStack ≤ mostOperands) && decide (meth.sig.returnType = rt) && !meth.locks && decide (parseMethodDescriptor y.desc = some meth.sig)) = true) : (Jvm.Cond.code y bytes mx rt).before a s = true := by
  simp only [Bool.and_eq_true, beq_iff_eq, Bool.not_eq_true', decide_eq_true_eq] at h5
  obtain ⟨⟨⟨⟨⟨g1, g2⟩, g3⟩, g4⟩, g5⟩, g6⟩ := h5
  simp [Cond.before, Cond.holds, Cond.value, h1, h2, h3, h4, g1, g2, g3, g4, g5, g6]
def isCode : Jvm.Cond → Bool
  | .code _ _ _ _ => true
  | _ => false
theorem all_split {L : List Jvm.Cond} {P : Jvm.Cond → Bool} (h1 : L.all (fun c => isCode c || P c) = true) (h2 : ∀ c ∈ L.filter isCode, P c = true) : L.all P = true := by
  refine List.all_eq_true.mpr fun c hc => ?_
  have h := List.all_eq_true.mp h1 c hc
  rcases Bool.eq_false_or_eq_true (isCode c) with hi | hi
  · exact h2 c (List.mem_filter.mpr ⟨hc, hi⟩)
  · simpa [hi] using h
set_option maxRecDepth 65536 in
theorem w_c0 : (Jvm.Cond.code x code maxLocals ret).before args0 about1 = true := code_word (m := ⟨1, 1⟩) (meth := k1m1) (c := k1c1) (by decide +kernel) rfl rfl rfl (by decide +kernel)
set_option maxRecDepth 65536 in
theorem w_c1 : (Jvm.Cond.code ({ cls := "com/example/muster/muster/core/MpdaPlan", name := "<init>", desc := "([[I)V" } : Jvm.MethodName) prog_25_method_1_code (3 : Nat) (Option.none : Option Jvm.ClassFile.FieldType)).before args0 about1 = true := code_word (m := ⟨2, 0⟩) (meth := k2m0) (c := k2c0) (by decide +kernel) rfl rfl rfl (by decide +kernel)
set_option maxRecDepth 65536 in
theorem w_c2 : (Jvm.Cond.code ({ cls := "java/lang/Object", name := "<init>", desc := "()V" } : Jvm.MethodName) object_method_1_code (1 : Nat) (Option.none : Option Jvm.ClassFile.FieldType)).before args0 about1 = true := code_word (m := ⟨0, 0⟩) (meth := k0m0) (c := k0c0) (by decide +kernel) rfl rfl rfl (by decide +kernel)
set_option maxRecDepth 65536 in
theorem w_c3 : (Jvm.Cond.code ({ cls := "com/example/muster/muster/solvers/Pheromone", name := "<init>", desc := "(IID)V" } : Jvm.MethodName) prog_48_method_1_code (5 : Nat) (Option.none : Option Jvm.ClassFile.FieldType)).before args0 about1 = true := code_word (m := ⟨4, 0⟩) (meth := k4m0) (c := k4c0) (by decide +kernel) rfl rfl rfl (by decide +kernel)
set_option maxRecDepth 65536 in
theorem w_c4 : (Jvm.Cond.code ({ cls := "com/example/muster/muster/solvers/Pheromone", name := "reset", desc := "()V" } : Jvm.MethodName) prog_48_method_2_code (9 : Nat) (Option.none : Option Jvm.ClassFile.FieldType)).before args0 about1 = true := code_word (m := ⟨4, 1⟩) (meth := k4m1) (c := k4c1) (by decide +kernel) rfl rfl rfl (by decide +kernel)
set_option maxRecDepth 65536 in
theorem w_c5 : (Jvm.Cond.code ({ cls := "java/util/Arrays", name := "fill", desc := "([DD)V" } : Jvm.MethodName) jdk_65_method_113_code (5 : Nat) (Option.none : Option Jvm.ClassFile.FieldType)).before args0 about1 = true := code_word (m := ⟨5, 1⟩) (meth := k5m1) (c := k5c1) (by decide +kernel) rfl rfl rfl (by decide +kernel)
set_option maxRecDepth 65536 in
theorem w_c6 : (Jvm.Cond.code ({ cls := "com/example/muster/muster/solvers/Pheromone", name := "toward", desc := "(III)D" } : Jvm.MethodName) prog_48_method_3_code (4 : Nat) (Option.some Jvm.ClassFile.FieldType.double)).before args0 about1 = true := code_word (m := ⟨4, 2⟩) (meth := k4m2) (c := k4c2) (by decide +kernel) rfl rfl rfl (by decide +kernel)
set_option maxRecDepth 65536 in
theorem w_c7 : (Jvm.Cond.code ({ cls := "com/example/muster/muster/solvers/Pheromone", name := "deposit", desc := "(Lcom/example/muster/muster/core/MpdaPlan;D)V" } : Jvm.MethodName) prog_48_method_4_code (10 : Nat) (Option.none : Option Jvm.ClassFile.FieldType)).before args0 about1 = true := code_word (m := ⟨4, 3⟩) (meth := k4m3) (c := k4c3) (by decide +kernel) rfl rfl rfl (by decide +kernel)
set_option maxRecDepth 65536 in
theorem w_c8 : (Jvm.Cond.code ({ cls := "com/example/muster/muster/core/MpdaPlan", name := "robotCount", desc := "()I" } : Jvm.MethodName) prog_25_method_2_code (1 : Nat) (Option.some Jvm.ClassFile.FieldType.int)).before args0 about1 = true := code_word (m := ⟨2, 1⟩) (meth := k2m1) (c := k2c1) (by decide +kernel) rfl rfl rfl (by decide +kernel)
set_option maxRecDepth 65536 in
theorem w_c9 : (Jvm.Cond.code ({ cls := "com/example/muster/muster/core/MpdaPlan", name := "route", desc := "(I)[I" } : Jvm.MethodName) prog_25_method_3_code (2 : Nat) (Option.some (Jvm.ClassFile.FieldType.array Jvm.ClassFile.FieldType.int))).before args0 about1 = true := code_word (m := ⟨2, 2⟩) (meth := k2m2) (c := k2c2) (by decide +kernel) rfl rfl rfl (by decide +kernel)
set_option maxRecDepth 65536 in
theorem w_c10 : (Jvm.Cond.code ({ cls := "com/example/muster/muster/solvers/Pheromone", name := "update", desc := "()V" } : Jvm.MethodName) prog_48_method_5_code (6 : Nat) (Option.none : Option Jvm.ClassFile.FieldType)).before args0 about1 = true := code_word (m := ⟨4, 4⟩) (meth := k4m4) (c := k4c4) (by decide +kernel) rfl rfl rfl (by decide +kernel)
def codes1 : List Jvm.Cond := [Jvm.Cond.code x code maxLocals ret, Jvm.Cond.code ({ cls := "com/example/muster/muster/core/MpdaPlan", name := "<init>", desc := "([[I)V" } : Jvm.MethodName) prog_25_method_1_code (3 : Nat) (Option.none : Option Jvm.ClassFile.FieldType), Jvm.Cond.code ({ cls := "java/lang/Object", name := "<init>", desc := "()V" } : Jvm.MethodName) object_method_1_code (1 : Nat) (Option.none : Option Jvm.ClassFile.FieldType), Jvm.Cond.code ({ cls := "com/example/muster/muster/solvers/Pheromone", name := "<init>", desc := "(IID)V" } : Jvm.MethodName) prog_48_method_1_code (5 : Nat) (Option.none : Option Jvm.ClassFile.FieldType), Jvm.Cond.code ({ cls := "com/example/muster/muster/solvers/Pheromone", name := "reset", desc := "()V" } : Jvm.MethodName) prog_48_method_2_code (9 : Nat) (Option.none : Option Jvm.ClassFile.FieldType), Jvm.Cond.code ({ cls := "java/util/Arrays", name := "fill", desc := "([DD)V" } : Jvm.MethodName) jdk_65_method_113_code (5 : Nat) (Option.none : Option Jvm.ClassFile.FieldType), Jvm.Cond.code ({ cls := "com/example/muster/muster/solvers/Pheromone", name := "toward", desc := "(III)D" } : Jvm.MethodName) prog_48_method_3_code (4 : Nat) (Option.some Jvm.ClassFile.FieldType.double), Jvm.Cond.code ({ cls := "com/example/muster/muster/solvers/Pheromone", name := "deposit", desc := "(Lcom/example/muster/muster/core/MpdaPlan;D)V" } : Jvm.MethodName) prog_48_method_4_code (10 : Nat) (Option.none : Option Jvm.ClassFile.FieldType), Jvm.Cond.code ({ cls := "com/example/muster/muster/core/MpdaPlan", name := "robotCount", desc := "()I" } : Jvm.MethodName) prog_25_method_2_code (1 : Nat) (Option.some Jvm.ClassFile.FieldType.int), Jvm.Cond.code ({ cls := "com/example/muster/muster/core/MpdaPlan", name := "route", desc := "(I)[I" } : Jvm.MethodName) prog_25_method_3_code (2 : Nat) (Option.some (Jvm.ClassFile.FieldType.array Jvm.ClassFile.FieldType.int)), Jvm.Cond.code ({ cls := "com/example/muster/muster/solvers/Pheromone", name := "update", desc := "()V" } : Jvm.MethodName) prog_48_method_5_code (6 : Nat) (Option.none : Option Jvm.ClassFile.FieldType)]
set_option maxRecDepth 65536 in
theorem codes_eq : words1.filter isCode = codes1 := rfl
theorem w_codes : ∀ c ∈ words1.filter isCode, c.before args0 about1 = true := by
  rw [codes_eq]
  intro c hc
  simp only [codes1, List.mem_cons, List.not_mem_nil, or_false] at hc
  rcases hc with rfl | rfl | rfl | rfl | rfl | rfl | rfl | rfl | rfl | rfl | rfl
  · exact w_c0
  · exact w_c1
  · exact w_c2
  · exact w_c3
  · exact w_c4
  · exact w_c5
  · exact w_c6
  · exact w_c7
  · exact w_c8
  · exact w_c9
  · exact w_c10
set_option maxRecDepth 65536 in
theorem w_t1 : (words1.take 24).all (fun c => isCode c || c.before args0 about1) = true := by decide +kernel
set_option maxRecDepth 65536 in
theorem w_t2 : ((words1.drop 24).take 24).all (fun c => isCode c || c.before args0 about1) = true := by decide +kernel
set_option maxRecDepth 65536 in
theorem w_t3 : (((words1.drop 24).drop 24).take 24).all (fun c => isCode c || c.before args0 about1) = true := by decide +kernel
set_option maxRecDepth 65536 in
theorem w_t4 : (((words1.drop 24).drop 24).drop 24).all (fun c => isCode c || c.before args0 about1) = true := by decide +kernel
theorem w_tables : (allAtoms (Jvm.Cond.code x code maxLocals ret :: tables_1)).before args0 about1 = true := by
  rw [allAtoms_all]
  show words1.all (fun c => c.before args0 about1) = true
  refine all_split ?_ w_codes
  rw [← List.take_append_drop 24 words1, List.all_append, w_t1, ← List.take_append_drop 24 (words1.drop 24), List.all_append, w_t2, ← List.take_append_drop 24 ((words1.drop 24).drop 24), List.all_append, w_t3, w_t4]
  rfl
set_option maxRecDepth 65536 in
theorem w_case : (Jvm.Cond.and given_1 narrow_1).before args0 about1 = true := by decide +kernel
theorem w_applies : (headSpec (Jvm.Cond.code x code maxLocals ret :: tables_1) room_1).applies x e0.platform about1 = true :=
  (Spec.applies_iff w_frames).mpr ⟨w_running, w_runnable, w_alone, w_named, w_hears, w_ripe, w_room, w_tables⟩
theorem atStart : AtStart classFile x code maxLocals ret World_1 tables_1 room_1 Calls_1 rest_1 Pre_1 launch0 p0 e0 about1 theMethod args0 below0 :=
  ⟨lists_1, trivial, launch0.admits_env _ _ _, launch0.least_env, fairChoices_fair.cas, fairChoices_fair.clock, w_frames, w_args, w_heap, w_applies, trivial, trivial, w_case⟩
end start1
theorem witness_1 : WitnessClaimed_1 := ⟨start1.p0, start1.e0, start1.about1, start1.theMethod, start1.args0, start1.below0, start1.atStart⟩
end Jvm.Pilot.@@N@@
