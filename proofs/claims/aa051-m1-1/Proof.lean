import JvmDerived
import JvmDerived.Pilot.@@N@@Statement
import JvmDerived.Pilot.@@N@@Code
set_option linter.unusedVariables false
set_option linter.unusedSimpArgs false
set_option maxRecDepth 65536
set_option maxHeartbeats 40000000
namespace Jvm.Pilot.@@N@@
open Jvm Jvm.ClassFile Sem Op Lib Jvm.Free Jvm.Stand Jvm.LawKit Jvm.RoadKit Bundle Jvm.Pilot.@@N@@.Jvm.D
abbrev Dn : String := "com/example/whittle/whittle/engine/Domains"
/-- from T the run comes to an end of which P speaks -/
def Go (p : Program) (e : Env) (below : List Frame) (P : Outcome → State → Prop) (T : State) : Prop := ∃ s₂ o, Steps p.tables e below T s₂ ∧ s₂.status = .running ∧ Ended s₂ below o ∧ P o s₂
theorem Go.via {p : Program} {e : Env} {below : List Frame} {P : Outcome → State → Prop} {T T' : State} (h : ∀ t, Steps p.tables e below T' t → Steps p.tables e below T t) (g : Go p e below P T') : Go p e below P T := by
  obtain ⟨s₂, o, a, b⟩ := g
  exact ⟨s₂, o, h _ a, b⟩
theorem Go.into {p : Program} {e : Env} {below : List Frame} {P : Outcome → State → Prop} {T : State} {g g' : JFrame} (q : g = g') (h : Go p e below P (T.setTop g')) : ∃ s₂ o, Steps p.tables e below (T.setTop g) s₂ ∧ s₂.status = .running ∧ Ended s₂ below o ∧ P o s₂ := by
  subst q; exact h
abbrev HW (a0 : Array Value) (Z : State) : Prop := ∀ d ∈ tables_1, d.before a0 Z = true
theorem Vi {p : Program} {e : Env} {below : List Frame} {P : Outcome → State → Prop} {T : State} (T' : State) (h : ∀ t, Steps p.tables e below T' t → Steps p.tables e below T t) (g : Go p e below P T') : Go p e below P T := Go.via h g
section Ret
variable {p : Program} {l : Launch} {e : Env} {R : Room} {s : State} {m : MethodId} {args : Array Value} {below : List Frame} {meth : Method} {c : Code} {T : State} {locs : List Loc} {cells slots K N : Nat}
theorem Go.fin (X : Stand p l e R s m args below meth c T locs cells slots) (hlk : meth.locks = false) {v : Option Value} (hv : meth.sig.returnType = none → v = none) {Q : Option Value → Heap → List Loc → Prop} {g : JFrame}
    (st : ∀ fs, (∀ (f : JFrame) (acts : List Action), f.method = m → f.locked = none → f.entered = [] → (doReturn e (T.setTop f) acts v).1 = T.setFrames fs) → Steps p.tables e below (T.setTop g) (T.setFrames fs))
    (hk : cells ≤ K) (hn : slots ≤ N) (hq : Q v T.heap locs) : Go p e below (fun o u => ∃ v L, o = .returned v ∧ Q v u.heap L ∧ FrameEnd s o u L K N) (T.setTop g) := by
  obtain ⟨fs, hr, hrun, hended, hW, hsame⟩ := X.leave (v := v) hv
  exact ⟨_, _, st fs hr, hrun, hended, _, _, rfl, hq, ⟨_, rfl⟩, hW, hsame.mono hk hn⟩
theorem Go.retI (X : Stand p l e R s m args below meth c T locs cells slots) (hx : p.tables.exec = Jvm.exec) (hlk : meth.locks = false) {Q : Option Value → Heap → List Loc → Prop} {pc : Nat} {Ls : Array Slot} {z : Int32} {rest : List Value} (hret : meth.sig.returnType = some .int) (hd : decode c.code pc = .ok (.ireturn, 1))
    (hk : cells ≤ K) (hn : slots ≤ N) (hq : Q (some (.int z)) T.heap locs) : Go p e below (fun o u => ∃ v L, o = .returned v ∧ Q v u.heap L ∧ FrameEnd s o u L K N) (T.setTop (mkF m pc Ls (.int z :: rest))) :=
  Go.fin X hlk (v := some (.int z)) (fun h => by rw [hret] at h; cases h) (fun fs hr => retOut X hx hret rfl (Or.inl ⟨rfl, Or.inl rfl, _, rfl⟩) hd hr) hk hn hq
theorem Go.retN (X : Stand p l e R s m args below meth c T locs cells slots) (hx : p.tables.exec = Jvm.exec) (hlk : meth.locks = false) {Q : Option Value → Heap → List Loc → Prop} {pc : Nat} {Ls : Array Slot} {z : Int32} {rest : List Value} {t : FieldType} (hret : meth.sig.returnType = some t) (ht : t = .boolean ∨ t = .byte ∨ t = .char ∨ t = .short) (hd : decode c.code pc = .ok (.ireturn, 1))
    (hk : cells ≤ K) (hn : slots ≤ N) (hq : Q (some (.int (nar t z))) T.heap locs) : Go p e below (fun o u => ∃ v L, o = .returned v ∧ Q v u.heap L ∧ FrameEnd s o u L K N) (T.setTop (mkF m pc Ls (.int z :: rest))) :=
  Go.fin X hlk (v := some (.int (nar t z))) (fun h => by rw [hret] at h; cases h) (fun fs hr => Jvm.RoadKit.retN X hx hret ht hd hr) hk hn hq
theorem Go.retJ (X : Stand p l e R s m args below meth c T locs cells slots) (hx : p.tables.exec = Jvm.exec) (hlk : meth.locks = false) {Q : Option Value → Heap → List Loc → Prop} {pc : Nat} {Ls : Array Slot} {z : Int64} {rest : List Value} (hret : meth.sig.returnType = some .long) (hd : decode c.code pc = .ok (.lreturn, 1))
    (hk : cells ≤ K) (hn : slots ≤ N) (hq : Q (some (.long z)) T.heap locs) : Go p e below (fun o u => ∃ v L, o = .returned v ∧ Q v u.heap L ∧ FrameEnd s o u L K N) (T.setTop (mkF m pc Ls (.long z :: rest))) :=
  Go.fin X hlk (v := some (.long z)) (fun h => by rw [hret] at h; cases h) (fun fs hr => retOut X hx hret rfl (Or.inr (Or.inl ⟨rfl, rfl, _, rfl⟩)) hd hr) hk hn hq
theorem Go.retR (X : Stand p l e R s m args below meth c T locs cells slots) (hx : p.tables.exec = Jvm.exec) (hlk : meth.locks = false) {Q : Option Value → Heap → List Loc → Prop} {pc : Nat} {Ls : Array Slot} {w : Value} {rest : List Value} {t : FieldType} (hret : meth.sig.returnType = some t) (ht : t.isReference = true) (hw : w.isRef = true) (hd : decode c.code pc = .ok (.areturn, 1))
    (hk : cells ≤ K) (hn : slots ≤ N) (hq : Q (some w) T.heap locs) : Go p e below (fun o u => ∃ v L, o = .returned v ∧ Q v u.heap L ∧ FrameEnd s o u L K N) (T.setTop (mkF m pc Ls (w :: rest))) :=
  Go.fin X hlk (v := some w) (fun h => by rw [hret] at h; cases h) (fun fs hr => retOut X hx hret (by rcases ref_cases hw with rfl | ⟨z, rfl⟩ <;> cases t <;> rfl) (Or.inr (Or.inr (Or.inr (Or.inr ⟨rfl, ht, hw⟩)))) hd hr) hk hn hq
theorem Go.retV (X : Stand p l e R s m args below meth c T locs cells slots) (hx : p.tables.exec = Jvm.exec) (hlk : meth.locks = false) {Q : Option Value → Heap → List Loc → Prop} {pc : Nat} {Ls : Array Slot} (hret : meth.sig.returnType = none) (hd : decode c.code pc = .ok (.return_, 1))
    (hk : cells ≤ K) (hn : slots ≤ N) (hq : Q none T.heap locs) : Go p e below (fun o u => ∃ v L, o = .returned v ∧ Q v u.heap L ∧ FrameEnd s o u L K N) (T.setTop (mkF m pc Ls [])) :=
  Go.fin X hlk (v := none) (fun _ => rfl) (fun fs hr => X.returnOut hx hret hd hr) hk hn hq
theorem Go.retNW {vm₁ : Vm} (X : Stand p l e R (s.setVm vm₁) m args below meth c T locs cells slots) (hx : p.tables.exec = Jvm.exec) {n : Nat} (hS : s.Since vm₁ n) (hnn : n ≤ T.heap.size) (hlk : meth.locks = false) {Q : Option Value → Heap → List Loc → Prop} {pc : Nat} {Ls : Array Slot} {z : Int32} {rest : List Value} {t : FieldType} (hret : meth.sig.returnType = some t) (ht : t = .boolean ∨ t = .byte ∨ t = .char ∨ t = .short) (hd : decode c.code pc = .ok (.ireturn, 1))
    (hk : cells ≤ K) (hn : slots ≤ N) (hq : Q (some (.int (nar t z))) T.heap locs) : Go p e below (fun o u => ∃ v L, o = .returned v ∧ Q v u.heap L ∧ ReturnedEndW s o u L K N) (T.setTop (mkF m pc Ls (.int z :: rest))) := by
  obtain ⟨fs, hr, hrun, hended, h1, h2, h3, h4⟩ := X.leaveW hS hnn (v := some (.int (nar t z))) (fun h => by rw [hret] at h; cases h) hlk
  exact ⟨_, _, Jvm.RoadKit.retN X hx hret ht hd hr, hrun, hended, _, _, rfl, hq, h1, h2, h3, h4.mono hk hn⟩
end Ret
theorem leW {a b : Nat} (h : a = b) : a ≤ b := Nat.le_of_eq h
abbrev sI (x : Int32) : Slot := .val (.int x)
abbrev sR (a : Addr) : Slot := .val (.ref a)
abbrev y1 : MethodName := ⟨Dn, "<init>", "([I)V"⟩
abbrev B1 := prog_22_method_1_code
abbrev y2 : MethodName := ⟨"java/lang/Object", "<init>", "()V"⟩
abbrev B2 := object_method_1_code
abbrev y3 : MethodName := ⟨Dn, "reset", "()V"⟩
abbrev B3 := prog_22_method_2_code
abbrev y4 : MethodName := ⟨"java/util/Arrays", "fill", "([JJ)V"⟩
abbrev B4 := jdk_65_method_101_code
abbrev y5 : MethodName := ⟨Dn, "clearChanged", "()V"⟩
abbrev B5 := prog_22_method_18_code
abbrev y6 : MethodName := ⟨Dn, "remove", "(II)Z"⟩
abbrev B6 := prog_22_method_11_code
abbrev y7 : MethodName := ⟨Dn, "contains", "(II)Z"⟩
abbrev B7 := prog_22_method_5_code
abbrev y8 : MethodName := ⟨Dn, "mark", "()I"⟩
abbrev B8 := prog_22_method_14_code
abbrev y9 : MethodName := ⟨Dn, "next", "(II)I"⟩
abbrev B9 := prog_22_method_6_code
abbrev y10 : MethodName := ⟨"java/lang/Math", "max", "(II)I"⟩
abbrev B10 := jdk_29_method_65_code
abbrev y11 : MethodName := ⟨Dn, "bound", "(IIII)V"⟩
abbrev B11 := prog_22_method_23_code
abbrev y12 : MethodName := ⟨Dn, "save", "(IIJ)V"⟩
abbrev B12 := prog_22_method_24_code
abbrev y13 : MethodName := ⟨Dn, "noteChanged", "(I)V"⟩
abbrev B13 := prog_22_method_19_code
abbrev y14 : MethodName := ⟨Dn, "undo", "(I)V"⟩
abbrev B14 := prog_22_method_15_code
abbrev y15 : MethodName := ⟨Dn, "size", "(I)I"⟩
abbrev B15 := prog_22_method_4_code
abbrev y16 : MethodName := ⟨Dn, "first", "(I)I"⟩
abbrev B16 := prog_22_method_7_code
abbrev y17 : MethodName := ⟨Dn, "last", "(I)I"⟩
abbrev B17 := prog_22_method_9_code
abbrev y18 : MethodName := ⟨Dn, "previous", "(II)I"⟩
abbrev B18 := prog_22_method_8_code
abbrev y19 : MethodName := ⟨"java/lang/Math", "min", "(II)I"⟩
abbrev B19 := jdk_29_method_69_code
abbrev y20 : MethodName := ⟨"java/lang/Long", "numberOfLeadingZeros", "(J)I"⟩
abbrev B20 := jdk_35_method_48_code
abbrev y21 : MethodName := ⟨"java/lang/Integer", "numberOfLeadingZeros", "(I)I"⟩
abbrev B21 := jdk_33_method_47_code
abbrev y22 : MethodName := ⟨Dn, "keepWithin", "(III)Z"⟩
abbrev B22 := prog_22_method_12_code
abbrev y23 : MethodName := ⟨"java/lang/Long", "numberOfTrailingZeros", "(J)I"⟩
abbrev B23 := jdk_35_method_49_code
abbrev y24 : MethodName := ⟨"java/lang/Integer", "numberOfTrailingZeros", "(I)I"⟩
abbrev B24 := jdk_33_method_48_code
abbrev y25 : MethodName := ⟨Dn, "countWithin", "(III)I"⟩
abbrev B25 := prog_22_method_20_code
abbrev y26 : MethodName := ⟨Dn, "bitCount", "(III)I"⟩
abbrev B26 := prog_22_method_21_code
abbrev y27 : MethodName := ⟨Dn, "masked", "(IIII)J"⟩
abbrev B27 := prog_22_method_22_code
abbrev y28 : MethodName := ⟨"java/lang/Long", "bitCount", "(J)I"⟩
abbrev B28 := jdk_35_method_50_code
abbrev y29 : MethodName := ⟨Dn, "assign", "(II)V"⟩
abbrev B29 := prog_22_method_13_code
theorem wq {a0 : Array Value} {Z : State} (hw : HW a0 Z) (i : Nat) {d : Jvm.Cond} (h : tables_1[i]? = some d) : d.before a0 Z = true := hw d (List.mem_of_getElem? h)
theorem wz {args a0 : Array Value} {Z s : State} {d : Cond} (hZ : Z.Warmed39 s.vm) (hw : HW a0 Z) (i : Nat) (h : tables_1[i]? = some d) (hd : (d.onTables && d.keepsFace) = true := by first | rfl | simp [Cond.onTables, Cond.keepsFace, Cond.keeps, Cond.steady]) : d.before args s = true := mvT hZ (wq hw i h) hd
abbrev DC (b : ByteArray) (p : Nat) (i : Instr) (n : Nat) : Prop := decode b p = .ok (i, n)
theorem GF {p : Program} {l : Launch} {e : Env} {R : Room} {s : State} {m : MethodId} {args : Array Value} {below : List Frame} {meth : Method} {c : Code} {T : State} {locs : List Loc} {cells slots : Nat} {Z : State} {a0 : Array Value} {h : Heap} {P : Outcome → State → Prop} (X : Stand p l e R s m args below meth c T locs cells slots) (hx : p.tables.exec = Jvm.exec) (hZ : Z.Warmed39 s.vm) {own R0 n d : String} {index : Nat} (hown : s.vm.findClass own = some m.cls) (w : (Cond.fieldLink own index R0 n d).before a0 Z = true)
    (eT : T.heap = h) {a : Addr} {v : Value} (F : Fld Z h a R0 n d v) {pc : Nat} {Ls : Array Slot} {rest : List Value} (hd : decode c.code pc = .ok (.getfield index, 3)) (k : ∀ T', Stand p l e R s m args below meth c T' locs cells slots → T'.heap = h → Go p e below P (T'.setTop (mkF m (pc + 3) Ls (v :: rest)))) : Go p e below P (T.setTop (mkF m pc Ls (.ref a :: rest))) := by
  obtain ⟨T', X', e', st⟩ := getF X hx hZ hown (host := "") (Or.inl w) Via.refl eT F (g := mkF m pc Ls (.ref a :: rest)) rfl rfl hd
  exact Go.via st (k T' X' e')
theorem sn {Z : State} {a0 : Array Value} {C O n d O' n' d' : String} {a b : Addr} (L : Laid Z a0 C O n d) (L' : Laid Z a0 C O' n' d') (hn : n ≠ n' := by decide) (ht : (parseFieldDescriptor d).isSome = true := by decide) (ht' : (parseFieldDescriptor d').isSome = true := by decide) : b ≠ a ∨ Jvm.RoadKit.slotOf Z O n d ≠ Jvm.RoadKit.slotOf Z O' n' d' := by
  obtain ⟨t, q⟩ := Option.isSome_iff_exists.mp ht
  obtain ⟨t', q'⟩ := Option.isSome_iff_exists.mp ht'
  exact Or.inr (slot_ne L L' hn q q')
theorem Go.cut {p : Program} {e : Env} {below : List Frame} {P : Outcome → State → Prop} {T : State} (c : Prop) (T' : State) (a : c → Go p e below P T') (b : (c → Go p e below P T') → Go p e below P T) : Go p e below P T := b a
theorem own_eqi {t : Term} {n : Int32} {args : Array Value} {s : State} (h : (Cond.eq t (.int n)).value args s none s [] = some true) : t.eval args s none [] s = some (.int n) := by
  obtain ⟨x, y, h1, h2, k, -⟩ := cmp_v (Or.inl h)
  cases (show some y = some (Value.int n) from h2.symm)
  cases x with
  | int z => rw [h1]; congr 2; have q := h; simp [Cond.value, h1, Term.eval] at q; exact q
  | _ => simp [Kin, Value.isRef] at k
theorem own_ns1 {h : Heap} {a : Addr} {ws : List Addr} (q : ∀ cell : Cell, h[a]? = some cell → cell.vm.isStatics = false) (r : ∀ (x : Addr) (c : Cell), h[x]? = some c → c.vm.isStatics = true → x ∉ ws) : ∀ (x : Addr) (c : Cell), h[x]? = some c → c.vm.isStatics = true → x ∉ a :: ws := fun x c hx hc => ninS (fun e => by subst e; rw [q c hx] at hc; cases hc) (r x c hx hc)
theorem own_sk {Z : State} {h h' : Heap} {C n d : String} {v : Value} {ws : List Addr} (F : Sta Z h C n d v) (K : Keep h h' ws) (q : ∀ (x : Addr) (c : Cell), h[x]? = some c → c.vm.isStatics = true → x ∉ ws) : Sta Z h' C n d v := by
  obtain ⟨cf, i, k, f, st, cell, h1, h2, h3, h4, h5, h6, h7⟩ := F
  exact ⟨cf, i, k, f, st, cell, h1, h2, h3, h4, K.2.1 _ _ h5 (q _ _ h5 h6), h6, h7⟩

/-- an array of n places; place k holds g k -/
def AV (Z : State) (h : Heap) (a : Addr) (ty : FieldType) (n : Nat) (g : Nat → Value) : Prop := n < 2 ^ 31 ∧ ∃ c : Cell, Arr Z h a c ty ∧ c.slots.size = n ∧ ∀ k, k < n → c.slots[k]? = some (g k)
def up {α : Type} (f : Nat → α) (i : Nat) (v : α) : Nat → α := fun k => if k = i then v else f k
section AVs
variable {p : Program} {l : Launch} {e : Env} {R : Room} {s : State} {m : MethodId} {args : Array Value} {below : List Frame} {meth : Method} {c : Code} {T : State} {locs : List Loc} {cells slots : Nat}
variable {Z : State} {h h' : Heap} {a b : Addr} {ty : FieldType} {n : Nat} {g g' : Nat → Value} {sl : Nat} {v : Value} {ws : List Addr} {j : Int32}
theorem AV.lt (F : AV Z h a ty n g) : a < h.size := by obtain ⟨_, c, A, -⟩ := F; exact A.lt
theorem AV.ext (F : AV Z h a ty n g) (E : Ext h h') : AV Z h' a ty n g := by obtain ⟨q, c, A, r⟩ := F; exact ⟨q, c, A.ext E, r⟩
theorem AV.other (F : AV Z h b ty n g) (W : Wr h h' a sl v) (q : b ≠ a) : AV Z h' b ty n g := by obtain ⟨q', c, A, r⟩ := F; exact ⟨q', c, A.other W q, r⟩
theorem AV.keep (F : AV Z h a ty n g) (K : Keep h h' ws) (q : a ∉ ws) : AV Z h' a ty n g := by obtain ⟨q', c, A, r⟩ := F; exact ⟨q', c, ⟨K.2.1 a c A.1 q, A.2⟩, r⟩
theorem AV.congr (F : AV Z h a ty n g) (q : ∀ k, k < n → g k = g' k) : AV Z h a ty n g' := by obtain ⟨q', c, A, r1, r2⟩ := F; exact ⟨q', c, A, r1, fun k hk => by rw [← q k hk]; exact r2 k hk⟩
theorem AV.set (F : AV Z h a ty n g) (W : Wr h h' a sl v) : AV Z h' a ty n (up g sl v) := by
  obtain ⟨q', c, A, r1, r2⟩ := F
  refine ⟨q', _, A.same W, by rw [sz_set]; exact r1, fun k hk => ?_⟩
  by_cases u : k = sl
  · subst u; simp [Cell.setSlot, up, r1, hk]
  · simp only [Cell.setSlot, up, if_neg u]; rw [Array.getElem?_setIfInBounds_ne (Ne.symm u)]; exact r2 k hk
theorem AV.new {k : ClassId} {z : Int32} (A : Arr Z h a (newA k ty z) ty) : AV Z h a ty z.toNatClampNeg (fun _ => defaultValue ty) := by
  refine ⟨by have := Int32.toInt_lt z; simp only [Int32.toNatClampNeg]; omega, _, A, sz_new _ _ _, fun i hi => by simp [newA, hi]⟩
theorem AV.inb {cl : Cell} (hs : cl.slots.size = n) (hj : ¬ j < 0 ∧ j.toNatClampNeg < n) : ¬ (j < 0 ∨ cl.slots.size ≤ j.toNatClampNeg) := fun q => q.elim hj.1 fun q => by rw [hs] at q; exact absurd hj.2 (Nat.not_lt.mpr q)
theorem AV.len (F : AV Z h a ty n g) (X : Stand p l e R s m args below meth c T locs cells slots) (hx : p.tables.exec = Jvm.exec) (hZ : Z.Warmed39 s.vm) (eT : T.heap = h) {pc : Nat} {Ls : Array Slot} {rest : List Value} (hd : decode c.code pc = .ok (.arraylength, 1)) {t : State}
    (k : Steps p.tables e below (T.setTop (mkF m (pc + 1) Ls (.int (Int32.ofNat n) :: rest))) t) : Steps p.tables e below (T.setTop (mkF m pc Ls (.ref a :: rest))) t := by
  obtain ⟨q', cl, A, r1, r2⟩ := F
  subst r1
  exact X.arraylength hx (by rw [eT]; exact A.1) (State.isArrayOf_alike hZ.alike A.2.1) (g := mkF m pc Ls (.ref a :: rest)) rfl rfl hd _ k
theorem AV.iaload {f : Nat → Int32} (F : AV Z h a .int n (fun k => .int (f k))) (X : Stand p l e R s m args below meth c T locs cells slots) (hx : p.tables.exec = Jvm.exec) (hZ : Z.Warmed39 s.vm) (eT : T.heap = h) (hj : ¬ j < 0 ∧ j.toNatClampNeg < n) {pc : Nat} {Ls : Array Slot} {rest : List Value} (hd : decode c.code pc = .ok (.iaload, 1)) {t : State}
    (k : Steps p.tables e below (T.setTop (mkF m (pc + 1) Ls (.int (f j.toNatClampNeg) :: rest))) t) : Steps p.tables e below (T.setTop (mkF m pc Ls (.int j :: .ref a :: rest))) t := by
  obtain ⟨q', cl, A, r1, r2⟩ := F
  exact X.iaload hx (j := j) (v := .int (f j.toNatClampNeg)) (by rw [eT]; exact A.1) (State.isArrayOf_alike hZ.alike A.2.1) A.2.2 (AV.inb r1 hj) (r2 _ hj.2) (g := mkF m pc Ls (.int j :: .ref a :: rest)) rfl rfl hd _ k
theorem AV.laload {f : Nat → Int64} (F : AV Z h a .long n (fun k => .long (f k))) (X : Stand p l e R s m args below meth c T locs cells slots) (hx : p.tables.exec = Jvm.exec) (hZ : Z.Warmed39 s.vm) (eT : T.heap = h) (hj : ¬ j < 0 ∧ j.toNatClampNeg < n) {pc : Nat} {Ls : Array Slot} {rest : List Value} (hd : decode c.code pc = .ok (.laload, 1)) {t : State}
    (k : Steps p.tables e below (T.setTop (mkF m (pc + 1) Ls (.long (f j.toNatClampNeg) :: rest))) t) : Steps p.tables e below (T.setTop (mkF m pc Ls (.int j :: .ref a :: rest))) t := by
  obtain ⟨q', cl, A, r1, r2⟩ := F
  exact X.laload hx (j := j) (v := .long (f j.toNatClampNeg)) (by rw [eT]; exact A.1) (State.isArrayOf_alike hZ.alike A.2.1) A.2.2 (AV.inb r1 hj) (r2 _ hj.2) (g := mkF m pc Ls (.int j :: .ref a :: rest)) rfl rfl hd _ k
theorem AV.aaload (F : AV Z h a ty n g) (hty : ty.isReference = true) (X : Stand p l e R s m args below meth c T locs cells slots) (hx : p.tables.exec = Jvm.exec) (hZ : Z.Warmed39 s.vm) (eT : T.heap = h) (hj : ¬ j < 0 ∧ j.toNatClampNeg < n) {pc : Nat} {Ls : Array Slot} {rest : List Value} (hd : decode c.code pc = .ok (.aaload, 1)) {t : State}
    (k : Steps p.tables e below (T.setTop (mkF m (pc + 1) Ls (g j.toNatClampNeg :: rest))) t) : Steps p.tables e below (T.setTop (mkF m pc Ls (.int j :: .ref a :: rest))) t := by
  obtain ⟨q', cl, A, r1, r2⟩ := F
  exact X.aaload hx (j := j) (v := g j.toNatClampNeg) (by rw [eT]; exact A.1) (State.isArrayOf_alike hZ.alike A.2.1) hty A.2.2 (AV.inb r1 hj) (r2 _ hj.2) (g := mkF m pc Ls (.int j :: .ref a :: rest)) rfl rfl hd _ k
theorem AV.iastore {f : Nat → Int32} {x : Int32} (F : AV Z h a .int n (fun k => .int (f k))) (X : Stand p l e R s m args below meth c T locs cells slots) (hx : p.tables.exec = Jvm.exec) (hZ : Z.Warmed39 s.vm) (eT : T.heap = h) (hj : ¬ j < 0 ∧ j.toNatClampNeg < n) {pc : Nat} {Ls : Array Slot} {rest : List Value} (hd : decode c.code pc = .ok (.iastore, 1)) :
    ∃ T' h', Stand p l e R s m args below meth c T' (locs ++ [⟨a, j.toNatClampNeg⟩]) cells slots ∧ T'.heap = h' ∧ Wr h h' a j.toNatClampNeg (.int x) ∧ AV Z h' a .int n (fun k => .int (up f j.toNatClampNeg x k)) ∧
      ∀ t, Steps p.tables e below (T'.setTop (mkF m (pc + 1) Ls rest)) t → Steps p.tables e below (T.setTop (mkF m pc Ls (.int x :: .int j :: .ref a :: rest))) t := by
  have F0 := F
  obtain ⟨q', cl, A, r1, r2⟩ := F
  obtain ⟨T', h', X', e', W, st⟩ := stI X hx hZ eT A (j := j) (AV.inb r1 hj) (g := mkF m pc Ls (.int x :: .int j :: .ref a :: rest)) rfl rfl hd
  exact ⟨T', h', X', e', W, (F0.set W).congr (fun k _ => by unfold up; split <;> rfl), st⟩
theorem AV.lastore {f : Nat → Int64} {x : Int64} (F : AV Z h a .long n (fun k => .long (f k))) (X : Stand p l e R s m args below meth c T locs cells slots) (hx : p.tables.exec = Jvm.exec) (hZ : Z.Warmed39 s.vm) (eT : T.heap = h) (hj : ¬ j < 0 ∧ j.toNatClampNeg < n) {pc : Nat} {Ls : Array Slot} {rest : List Value} (hd : decode c.code pc = .ok (.lastore, 1)) :
    ∃ T' h', Stand p l e R s m args below meth c T' (locs ++ [⟨a, j.toNatClampNeg⟩]) cells slots ∧ T'.heap = h' ∧ Wr h h' a j.toNatClampNeg (.long x) ∧ AV Z h' a .long n (fun k => .long (up f j.toNatClampNeg x k)) ∧
      ∀ t, Steps p.tables e below (T'.setTop (mkF m (pc + 1) Ls rest)) t → Steps p.tables e below (T.setTop (mkF m pc Ls (.long x :: .int j :: .ref a :: rest))) t := by
  have F0 := F
  obtain ⟨q', cl, A, r1, r2⟩ := F
  obtain ⟨T', h', X', e', W, st⟩ := stJ X hx hZ eT A (j := j) (AV.inb r1 hj) (g := mkF m pc Ls (.long x :: .int j :: .ref a :: rest)) rfl rfl hd
  exact ⟨T', h', X', e', W, (F0.set W).congr (fun k _ => by unfold up; split <;> rfl), st⟩
theorem AV.bastoreZ {f : Nat → Int32} {x : Int32} (F : AV Z h a .boolean n (fun k => .int (f k))) (X : Stand p l e R s m args below meth c T locs cells slots) (hx : p.tables.exec = Jvm.exec) (hZ : Z.Warmed39 s.vm) (eT : T.heap = h) (hj : ¬ j < 0 ∧ j.toNatClampNeg < n) {pc : Nat} {Ls : Array Slot} {rest : List Value} (hd : decode c.code pc = .ok (.bastore, 1)) :
    ∃ T' h', Stand p l e R s m args below meth c T' (locs ++ [⟨a, j.toNatClampNeg⟩]) cells slots ∧ T'.heap = h' ∧ Wr h h' a j.toNatClampNeg (.int (nar .boolean x)) ∧ AV Z h' a .boolean n (fun k => .int (up f j.toNatClampNeg (nar .boolean x) k)) ∧
      ∀ t, Steps p.tables e below (T'.setTop (mkF m (pc + 1) Ls rest)) t → Steps p.tables e below (T.setTop (mkF m pc Ls (.int x :: .int j :: .ref a :: rest))) t := by
  have F0 := F
  obtain ⟨q', cl, A, r1, r2⟩ := F
  obtain ⟨T', h', X', e', W, st⟩ := stZ X hx hZ eT A (j := j) (AV.inb r1 hj) (g := mkF m pc Ls (.int x :: .int j :: .ref a :: rest)) rfl rfl hd
  exact ⟨T', h', X', e', W, (F0.set W).congr (fun k _ => by unfold up; split <;> rfl), st⟩
theorem AV.aastore (F : AV Z h a ty n g) (hty : ty.isReference = true) (S : Sto Z h a v) (X : Stand p l e R s m args below meth c T locs cells slots) (hx : p.tables.exec = Jvm.exec) (hZ : Z.Warmed39 s.vm) (eT : T.heap = h) (hj : ¬ j < 0 ∧ j.toNatClampNeg < n) {pc : Nat} {Ls : Array Slot} {rest : List Value} (hd : decode c.code pc = .ok (.aastore, 1)) :
    ∃ T' h', Stand p l e R s m args below meth c T' (locs ++ [⟨a, j.toNatClampNeg⟩]) cells slots ∧ T'.heap = h' ∧ Wr h h' a j.toNatClampNeg v ∧ AV Z h' a ty n (up g j.toNatClampNeg v) ∧
      ∀ t, Steps p.tables e below (T'.setTop (mkF m (pc + 1) Ls rest)) t → Steps p.tables e below (T.setTop (mkF m pc Ls (v :: .int j :: .ref a :: rest))) t := by
  have F0 := F
  obtain ⟨q', cl, A, r1, r2⟩ := F
  obtain ⟨T', h', X', e', W, st⟩ := stR X hx hZ eT A (j := j) (AV.inb r1 hj) hty S (g := mkF m pc Ls (v :: .int j :: .ref a :: rest)) rfl rfl hd
  exact ⟨T', h', X', e', W, F0.set W, st⟩
end AVs
/-- what may lie in an array of arrays -/
def OV (Z : State) (h : Heap) (a : Addr) (ty : FieldType) (C : String) : Prop := ∃ cl : Cell, h[a]? = some cl ∧ OvrA Z cl.cls ty C
section OVs
variable {Z : State} {h h' : Heap} {a b : Addr} {ty t0 : FieldType} {C : String} {n : Nat} {g : Nat → Value} {sl : Nat} {v : Value} {ws : List Addr}
theorem OV.ext (F : OV Z h a ty C) (E : Ext h h') : OV Z h' a ty C := by obtain ⟨cl, q, O⟩ := F; exact ⟨cl, E.2 _ _ q, O⟩
theorem OV.wr (F : OV Z h a ty C) (W : Wr h h' b sl v) : OV Z h' a ty C := by
  obtain ⟨cl, q, O⟩ := F; obtain ⟨c', e1, e2, -⟩ := wr_at W q; exact ⟨c', e1, by rw [e2]; exact O⟩
theorem OV.keep (F : OV Z h a ty C) (K : Keep h h' ws) : OV Z h' a ty C := by
  obtain ⟨cl, q, O⟩ := F; obtain ⟨c', e1, e2, -⟩ := K.2.2 _ _ q; exact ⟨c', e1, by rw [e2]; exact O⟩
theorem OV.sto (F : OV Z h a ty C) (A : AV Z h a t0 n g) (I : Ins Z h b C true) : Sto Z h a (.ref b) := by
  obtain ⟨cl, q, O⟩ := F; obtain ⟨-, c, A', -⟩ := A; cases q.symm.trans A'.1; exact Sto.ofVA A' rfl O I
end OVs
section AVc
variable {p : Program} {l : Launch} {e : Env} {R : Room} {s : State} {m : MethodId} {args : Array Value} {below : List Frame} {meth : Method} {c : Code} {T : State} {locs : List Loc} {cells slots : Nat}
variable {Z : State} {h : Heap} {a : Addr} {ty : FieldType} {n : Nat} {g0 : Nat → Value} {a0 : Array Value}
theorem AV.clone (F : AV Z h a ty n g0) (ht : ∀ k, k < n → fits ty (g0 k) = true) (X : Stand p l e R s m args below meth c T locs cells slots) (hx : p.tables.exec = Jvm.exec) (hZ : Z.Warmed39 s.vm) {own ad : String} {index : Nat} (hown : s.vm.findClass own = some m.cls)
    (w1 : (Cond.methodLink own index ⟨ad, "clone", "()Ljava/lang/Object;"⟩).before a0 Z = true) (w2 : (Cond.sameMethod ad "java/lang/Object" "clone" "()Ljava/lang/Object;").before a0 Z = true) (w3 : (Cond.native ⟨"java/lang/Object", "clone", "()Ljava/lang/Object;"⟩).before a0 Z = true)
    (w4 : (Cond.instanceMethod ⟨"java/lang/Object", "clone", "()Ljava/lang/Object;"⟩).before a0 Z = true) (w5 : (Cond.selects ad ⟨ad, "clone", "()Ljava/lang/Object;"⟩ ⟨"java/lang/Object", "clone", "()Ljava/lang/Object;"⟩).before a0 Z = true) (w6 : (Cond.castable ad "java/lang/Cloneable").before a0 Z = true)
    (eT : T.heap = h) (E : Exa Z h a ad) {g : JFrame} (hg : g.method = m) (hsize : g.locals.size = c.maxLocals) {rest : List Value} (hst : g.stack = .ref a :: rest) (hd : decode c.code g.pc = .ok (.invokevirtual index, 3))
    (hf : 1 ≤ R.frames) {W cap : Nat} (hW : 2 * g.monitorRoom + (rest.map fun v => v.category).sum ≤ W) (hl : W + 14 ≤ R.locals) (hcap : n ≤ cap) (hc : cells + 1 ≤ R.cells) (hsl : slots + cap ≤ R.slots) :
    ∃ T' h', Stand p l e R s m args below meth c T' locs (cells + 1) (slots + cap) ∧ T'.heap = h' ∧ Ext h h' ∧ AV Z h' h.size ty n g0 ∧ Exa Z h' h.size ad ∧
      ∀ target, Steps p.tables e below (T'.setTop { g with pc := g.pc + 3, stack := .ref h.size :: rest }) target → Steps p.tables e below (T.setTop g) target := by
  obtain ⟨q0, cl, A, S, H⟩ := F
  have FC : FitC Z cl := fitC_of A fun i hi v hv => by
    rw [S] at hi; rw [H i hi] at hv; cases hv; exact ht i hi
  obtain ⟨T', h', X', e', ex, A', E', st⟩ := cloneA X hx hZ hown w1 w2 w3 w4 w5 w6 eT A E FC hg hsize hst hd hf hW hl (by rw [S]; exact hcap) hc hsl
  exact ⟨T', h', X', e', ex, ⟨q0, cloneOf cl, A', S, H⟩, E', st⟩
end AVc

/-- a private method of a class that can be made is chosen for itself -/
theorem own_selp {Z : State} {a0 : Array Value} {y : MethodName} {n : Nat} (w1 : (Cond.instanceMethod y).before a0 Z = true) (w2 : (Cond.privateMethod y).before a0 Z = true) (w3 : (Cond.instantiable y.cls n).before a0 Z = true) (hy : y.cls ≠ "java/lang/invoke/MethodHandle" ∧ y.cls ≠ "java/lang/invoke/VarHandle") : (Cond.selects y.cls y y).before a0 Z = true := by
  obtain ⟨mk, methM, hn, hm, -, -⟩ := Cond.instanceMethod_spec w1
  obtain ⟨t, kt, g1, g2, g3, g4, -⟩ := Cond.instantiable_spec w3
  have hf := findClass_of_methodNamed hn
  cases hf.symm.trans g1
  have g5 : kt.isInterface = false := by cases q : kt.isInterface <;> simp [q] at g4 ⊢
  have hs : selectMethod {} Z.vm mk.cls mk = .method mk := selectMethod_private hm (Cond.privateMethod_at w2 mk methM hn hm)
  simp [Cond.before, Cond.holds, Cond.value, hf, State.methodFound?_of_named hn hy, hn, hs, g2, g5]

section AVz
variable {p : Program} {l : Launch} {e : Env} {R : Room} {s : State} {m : MethodId} {args : Array Value} {below : List Frame} {meth : Method} {c : Code} {T : State} {locs : List Loc} {cells slots : Nat}
variable {Z : State} {h : Heap} {a : Addr} {n : Nat} {j : Int32}
theorem AV.baload {f : Nat → Int32} (F : AV Z h a .boolean n (fun k => .int (f k))) (X : Stand p l e R s m args below meth c T locs cells slots) (hx : p.tables.exec = Jvm.exec) (hZ : Z.Warmed39 s.vm) (eT : T.heap = h) (hj : ¬ j < 0 ∧ j.toNatClampNeg < n) {pc : Nat} {Ls : Array Slot} {rest : List Value} (hd : decode c.code pc = .ok (.baload, 1)) {t : State}
    (k : Steps p.tables e below (T.setTop (mkF m (pc + 1) Ls (.int (f j.toNatClampNeg) :: rest))) t) : Steps p.tables e below (T.setTop (mkF m pc Ls (.int j :: .ref a :: rest))) t := by
  obtain ⟨q', cl, A, r1, r2⟩ := F
  exact X.baloadBooleans hx (j := j) (v := .int (f j.toNatClampNeg)) (by rw [eT]; exact A.1) (State.isArrayOf_alike hZ.alike A.2.1) A.2.2 (AV.inb r1 hj) (r2 _ hj.2) (g := mkF m pc Ls (.int j :: .ref a :: rest)) rfl rfl hd _ k
end AVz

theorem d24_0 : DC B24 0 (.iload_n 0) 1 := by decide +kernel
theorem d24_1 : DC B24 1 (.iconst (-1)) 1 := by decide +kernel
theorem d24_2 : DC B24 2 (.ixor) 1 := by decide +kernel
theorem d24_3 : DC B24 3 (.iload_n 0) 1 := by decide +kernel
theorem d24_4 : DC B24 4 (.iconst 1) 1 := by decide +kernel
theorem d24_5 : DC B24 5 (.isub) 1 := by decide +kernel
theorem d24_6 : DC B24 6 (.iand) 1 := by decide +kernel
theorem d24_7 : DC B24 7 (.istore_n 0) 1 := by decide +kernel
theorem d24_8 : DC B24 8 (.iload_n 0) 1 := by decide +kernel
theorem d24_9 : DC B24 9 (.ifCond .gt 8) 3 := by decide +kernel
theorem d24_17 : DC B24 17 (.iconst 1) 1 := by decide +kernel
theorem d24_18 : DC B24 18 (.istore_n 1) 1 := by decide +kernel
theorem d24_19 : DC B24 19 (.iload_n 0) 1 := by decide +kernel
theorem d24_20 : DC B24 20 (.ldc_w 264) 3 := by decide +kernel
theorem d24_23 : DC B24 23 (.if_icmp .le 11) 3 := by decide +kernel
theorem d24_26 : DC B24 26 (.iinc 1 16) 3 := by decide +kernel
theorem d24_29 : DC B24 29 (.iload_n 0) 1 := by decide +kernel
theorem d24_30 : DC B24 30 (.bipush 16) 2 := by decide +kernel
theorem d24_32 : DC B24 32 (.iushr) 1 := by decide +kernel
def w24_0 (p0 : Int32) : Int32 := ((((p0 ^^^ (-1 : Int32)) &&& (p0 - (1 : Int32))).toUInt32 >>> ((16 : Int32) &&& 31).toUInt32).toInt32)
theorem d24_33 : DC B24 33 (.istore_n 0) 1 := by decide +kernel
def w24_1 (p0 : Int32) : Int32 := (if (65536 : Int32) < ((p0 ^^^ (-1 : Int32)) &&& (p0 - (1 : Int32))) then (w24_0 p0) else ((p0 ^^^ (-1 : Int32)) &&& (p0 - (1 : Int32))))
def w24_2 (p0 : Int32) : Int32 := (if (65536 : Int32) < ((p0 ^^^ (-1 : Int32)) &&& (p0 - (1 : Int32))) then (17 : Int32) else (1 : Int32))
theorem d24_34 : DC B24 34 (.iload_n 0) 1 := by decide +kernel
theorem d24_35 : DC B24 35 (.sipush 256) 3 := by decide +kernel
theorem d24_38 : DC B24 38 (.if_icmp .le 11) 3 := by decide +kernel
theorem d24_41 : DC B24 41 (.iinc 1 8) 3 := by decide +kernel
theorem d24_44 : DC B24 44 (.iload_n 0) 1 := by decide +kernel
theorem d24_45 : DC B24 45 (.bipush 8) 2 := by decide +kernel
theorem d24_47 : DC B24 47 (.iushr) 1 := by decide +kernel
theorem d24_48 : DC B24 48 (.istore_n 0) 1 := by decide +kernel
def w24_3 (p0 : Int32) : Int32 := (if (256 : Int32) < (w24_1 p0) then (((w24_1 p0).toUInt32 >>> ((8 : Int32) &&& 31).toUInt32).toInt32) else (w24_1 p0))
def w24_4 (p0 : Int32) : Int32 := (if (256 : Int32) < (w24_1 p0) then ((w24_2 p0) + (8 : Int32)) else (w24_2 p0))
theorem d24_49 : DC B24 49 (.iload_n 0) 1 := by decide +kernel
theorem d24_50 : DC B24 50 (.bipush 16) 2 := by decide +kernel
theorem d24_52 : DC B24 52 (.if_icmp .le 10) 3 := by decide +kernel
theorem d24_55 : DC B24 55 (.iinc 1 4) 3 := by decide +kernel
theorem d24_58 : DC B24 58 (.iload_n 0) 1 := by decide +kernel
theorem d24_59 : DC B24 59 (.iconst 4) 1 := by decide +kernel
theorem d24_60 : DC B24 60 (.iushr) 1 := by decide +kernel
theorem d24_61 : DC B24 61 (.istore_n 0) 1 := by decide +kernel
def w24_5 (p0 : Int32) : Int32 := (if (16 : Int32) < (w24_3 p0) then (((w24_3 p0).toUInt32 >>> ((4 : Int32) &&& 31).toUInt32).toInt32) else (w24_3 p0))
def w24_6 (p0 : Int32) : Int32 := (if (16 : Int32) < (w24_3 p0) then ((w24_4 p0) + (4 : Int32)) else (w24_4 p0))
theorem d24_62 : DC B24 62 (.iload_n 0) 1 := by decide +kernel
theorem d24_63 : DC B24 63 (.iconst 4) 1 := by decide +kernel
theorem d24_64 : DC B24 64 (.if_icmp .le 10) 3 := by decide +kernel
theorem d24_67 : DC B24 67 (.iinc 1 2) 3 := by decide +kernel
theorem d24_70 : DC B24 70 (.iload_n 0) 1 := by decide +kernel
theorem d24_71 : DC B24 71 (.iconst 2) 1 := by decide +kernel
theorem d24_72 : DC B24 72 (.iushr) 1 := by decide +kernel
theorem d24_73 : DC B24 73 (.istore_n 0) 1 := by decide +kernel
def w24_7 (p0 : Int32) : Int32 := (if (4 : Int32) < (w24_5 p0) then (((w24_5 p0).toUInt32 >>> ((2 : Int32) &&& 31).toUInt32).toInt32) else (w24_5 p0))
def w24_8 (p0 : Int32) : Int32 := (if (4 : Int32) < (w24_5 p0) then ((w24_6 p0) + (2 : Int32)) else (w24_6 p0))
theorem d24_74 : DC B24 74 (.iload_n 1) 1 := by decide +kernel
theorem d24_75 : DC B24 75 (.iload_n 0) 1 := by decide +kernel
theorem d24_76 : DC B24 76 (.iconst 1) 1 := by decide +kernel
theorem d24_77 : DC B24 77 (.iushr) 1 := by decide +kernel
theorem d24_78 : DC B24 78 (.iadd) 1 := by decide +kernel
theorem d24_79 : DC B24 79 (.ireturn) 1 := by decide +kernel
theorem d24_12 : DC B24 12 (.iload_n 0) 1 := by decide +kernel
theorem d24_13 : DC B24 13 (.bipush 32) 2 := by decide +kernel
theorem d24_15 : DC B24 15 (.iand) 1 := by decide +kernel
theorem d24_16 : DC B24 16 (.ireturn) 1 := by decide +kernel
def f24 (p0 : Int32) : Int32 := (if (0 : Int32) < ((p0 ^^^ (-1 : Int32)) &&& (p0 - (1 : Int32))) then ((w24_8 p0) + (((w24_7 p0).toUInt32 >>> ((1 : Int32) &&& 31).toUInt32).toInt32)) else (((p0 ^^^ (-1 : Int32)) &&& (p0 - (1 : Int32))) &&& (32 : Int32)))
def Q24 (p0 : Int32) (h0 : Heap) (n0 : Nat) (v : Option Value) (h : Heap) (L : List Loc) : Prop := v = some (.int (f24 p0)) ∧ Fr n0 L ∧ h = h0
abbrev RM_0_0_0_0 : Room := { frames := 0, cells := 0, slots := 0, locals := 0 }
theorem pn_0 : plainName "java/lang/Integer" = true := by first | (simp [plainName, overriddenIn]; done) | decide +kernel
theorem ef_24_a (m : MethodId) (x0 : Int32) : entryFrame m #[(.int x0)] 2 = mkF m 0 #[.val (.int x0), .unset] [] := by first | (simp [entryFrame, mkF, argsToLocals, Value.category]; done) | rfl
theorem rm24 (l : Launch) (Z : State) (a0 : Array Value) (hw : HW a0 Z) (ws : List Jvm.Cond) (p0 : Int32) (h0 : Heap) (n0 : Nat) (Z0 : n0 ≤ h0.size) :
    MetFree l y24 (head1 (Jvm.Cond.code y24 jdk_33_method_48_code 2 (some .int) :: ws) RM_0_0_0_0) (fun a U => a = #[(.int p0)] ∧ Z.Warmed39 U.vm ∧ U.heap = h0) (fun _ _ _ _ _ => True) (fun _ U o U' => ∃ v L, o = .returned v ∧ Q24 p0 h0 n0 v U'.heap L ∧ FrameEnd U o U' L RM_0_0_0_0.cells RM_0_0_0_0.slots) := by
  refine MetFree.of_bodySF (plainFor_of_name pn_0) hisR ?_
  intro p e s m args below meth c s₁ Bd hml0 hP hK
  obtain ⟨rfl, hZ, hh⟩ := hP
  have hx := Bd.exec
  have hby := Bd.bytes
  have hml : c.maxLocals = 2 := hml0
  have hown : s.vm.findClass "java/lang/Integer" = some m.cls := findClass_of_methodNamed Bd.named
  have X0 : Stand p l e RM_0_0_0_0 s m _ below meth c s₁ [] 0 0 := Stand.of_body Bd
  have e0 : s₁.heap = h0 := by rw [← hh, Bd.state]; rfl
  have N0 := Fr.nil n0
  refine Go.into (P := fun oo uu => ∃ v L, oo = .returned v ∧ Q24 p0 h0 n0 v uu.heap L ∧ FrameEnd s oo uu L RM_0_0_0_0.cells RM_0_0_0_0.slots) (ef_24_a m p0) ?_
  show Go p e below _ (s₁.setTop (mkF m 0 #[sI p0, .unset] []))
  refine Vi (s₁.setTop (mkF m 9 #[sI ((p0 ^^^ (-1 : Int32)) &&& (p0 - (1 : Int32))), .unset] [(.int ((p0 ^^^ (-1 : Int32)) &&& (p0 - (1 : Int32))))])) (fun tZ kZ => ?_) ?_
  · refine XS.iloadN X0.here hx rfl (hb hby d24_0) rfl ?_
    refine XS.iconst X0.here hx rfl (hb hby d24_1) ?_
    refine XS.ixor X0.here hx rfl (hb hby d24_2) rfl ?_
    refine XS.iloadN X0.here hx rfl (hb hby d24_3) rfl ?_
    refine XS.iconst X0.here hx rfl (hb hby d24_4) ?_
    refine XS.isub X0.here hx rfl (hb hby d24_5) rfl ?_
    refine XS.iand X0.here hx rfl (hb hby d24_6) rfl ?_
    refine XS.istoreN X0.here hx rfl (hb hby d24_7) rfl (l' := #[sI ((p0 ^^^ (-1 : Int32)) &&& (p0 - (1 : Int32))), .unset]) rfl ?_
    refine XS.iloadN X0.here hx rfl (hb hby d24_8) rfl ?_
    exact kZ
  by_cases hc9 : (0 : Int32) < ((p0 ^^^ (-1 : Int32)) &&& (p0 - (1 : Int32)))
  · refine Vi (s₁.setTop (mkF m 17 #[sI ((p0 ^^^ (-1 : Int32)) &&& (p0 - (1 : Int32))), .unset] [])) (fun tZ kZ => ?_) ?_
    · show Steps p.tables e below (s₁.setTop (mkF m 9 #[sI ((p0 ^^^ (-1 : Int32)) &&& (p0 - (1 : Int32))), .unset] [(.int ((p0 ^^^ (-1 : Int32)) &&& (p0 - (1 : Int32))))])) _
      refine XS.ifYes X0.here hx rfl (pc0 := 9) (pc' := 17) rfl (hb hby d24_9) rfl ((if0 _ _).trans (tlt hc9).2.2.1) (by decide) (by decide) ?_
      exact kZ
    refine Vi (s₁.setTop (mkF m 79 #[sI (w24_7 p0), sI (w24_8 p0)] [(.int ((w24_8 p0) + (((w24_7 p0).toUInt32 >>> ((1 : Int32) &&& 31).toUInt32).toInt32)))])) (fun tZ kZ => ?_) ?_
    · refine XS.iconst X0.here hx rfl (hb hby d24_17) ?_
      refine XS.istoreN X0.here hx rfl (hb hby d24_18) rfl (l' := #[sI ((p0 ^^^ (-1 : Int32)) &&& (p0 - (1 : Int32))), sI 1]) rfl ?_
      refine XS.iloadN X0.here hx rfl (hb hby d24_19) rfl ?_
      refine X0.ldcwInt hx hown (wz hZ hw 142 rfl) (g := (mkF m 20 #[sI ((p0 ^^^ (-1 : Int32)) &&& (p0 - (1 : Int32))), sI 1] [(.int ((p0 ^^^ (-1 : Int32)) &&& (p0 - (1 : Int32))))])) rfl (hb hby d24_20) _ ?_
      have sg23 : Steps p.tables e below (s₁.setTop (mkF m 34 #[sI (if (65536 : Int32) < ((p0 ^^^ (-1 : Int32)) &&& (p0 - (1 : Int32))) then (w24_0 p0) else ((p0 ^^^ (-1 : Int32)) &&& (p0 - (1 : Int32)))), sI (if (65536 : Int32) < ((p0 ^^^ (-1 : Int32)) &&& (p0 - (1 : Int32))) then (17 : Int32) else (1 : Int32))] [])) tZ → Steps p.tables e below (s₁.setTop (mkF m 23 #[sI ((p0 ^^^ (-1 : Int32)) &&& (p0 - (1 : Int32))), sI 1] [(.int 65536), (.int ((p0 ^^^ (-1 : Int32)) &&& (p0 - (1 : Int32))))])) tZ := by
        intro kj
        by_cases hc23 : (65536 : Int32) < ((p0 ^^^ (-1 : Int32)) &&& (p0 - (1 : Int32)))
        · try simp only [if_pos hc23] at kj
          refine XS.icmpNo X0.here hx rfl (hb hby d24_23) rfl (tlt hc23).2.2.2 ?_
          refine XS.iinc X0.here hx rfl (hb hby d24_26) rfl (l' := #[sI ((p0 ^^^ (-1 : Int32)) &&& (p0 - (1 : Int32))), sI 17]) rfl ?_
          refine XS.iloadN X0.here hx rfl (hb hby d24_29) rfl ?_
          refine XS.bipush X0.here hx rfl (hb hby d24_30) ?_
          refine XS.iushr X0.here hx rfl (hb hby d24_32) rfl ?_
          refine XS.istoreN X0.here hx rfl (hb hby d24_33) rfl (l' := #[sI (w24_0 p0), sI 17]) rfl ?_
          exact kj
        · try simp only [if_neg hc23] at kj
          refine XS.icmpYes X0.here hx rfl (pc0 := 23) (pc' := 34) rfl (hb hby d24_23) rfl (flt hc23).2.2.2 (by decide) (by decide) ?_
          exact kj
      refine sg23 ?_
      show Steps p.tables e below (s₁.setTop (mkF m 34 #[sI (w24_1 p0), sI (w24_2 p0)] [])) _
      refine XS.iloadN X0.here hx rfl (hb hby d24_34) rfl ?_
      refine XS.sipush X0.here hx rfl (hb hby d24_35) ?_
      have sg38 : Steps p.tables e below (s₁.setTop (mkF m 49 #[sI (if (256 : Int32) < (w24_1 p0) then (((w24_1 p0).toUInt32 >>> ((8 : Int32) &&& 31).toUInt32).toInt32) else (w24_1 p0)), sI (if (256 : Int32) < (w24_1 p0) then ((w24_2 p0) + (8 : Int32)) else (w24_2 p0))] [])) tZ → Steps p.tables e below (s₁.setTop (mkF m 38 #[sI (w24_1 p0), sI (w24_2 p0)] [(.int 256), (.int (w24_1 p0))])) tZ := by
        intro kj
        by_cases hc38 : (256 : Int32) < (w24_1 p0)
        · try simp only [if_pos hc38] at kj
          refine XS.icmpNo X0.here hx rfl (hb hby d24_38) rfl (tlt hc38).2.2.2 ?_
          refine XS.iinc X0.here hx rfl (hb hby d24_41) rfl (l' := #[sI (w24_1 p0), sI ((w24_2 p0) + (8 : Int32))]) rfl ?_
          refine XS.iloadN X0.here hx rfl (hb hby d24_44) rfl ?_
          refine XS.bipush X0.here hx rfl (hb hby d24_45) ?_
          refine XS.iushr X0.here hx rfl (hb hby d24_47) rfl ?_
          refine XS.istoreN X0.here hx rfl (hb hby d24_48) rfl (l' := #[sI (((w24_1 p0).toUInt32 >>> ((8 : Int32) &&& 31).toUInt32).toInt32), sI ((w24_2 p0) + (8 : Int32))]) rfl ?_
          exact kj
        · try simp only [if_neg hc38] at kj
          refine XS.icmpYes X0.here hx rfl (pc0 := 38) (pc' := 49) rfl (hb hby d24_38) rfl (flt hc38).2.2.2 (by decide) (by decide) ?_
          exact kj
      refine sg38 ?_
      show Steps p.tables e below (s₁.setTop (mkF m 49 #[sI (w24_3 p0), sI (w24_4 p0)] [])) _
      refine XS.iloadN X0.here hx rfl (hb hby d24_49) rfl ?_
      refine XS.bipush X0.here hx rfl (hb hby d24_50) ?_
      have sg52 : Steps p.tables e below (s₁.setTop (mkF m 62 #[sI (if (16 : Int32) < (w24_3 p0) then (((w24_3 p0).toUInt32 >>> ((4 : Int32) &&& 31).toUInt32).toInt32) else (w24_3 p0)), sI (if (16 : Int32) < (w24_3 p0) then ((w24_4 p0) + (4 : Int32)) else (w24_4 p0))] [])) tZ → Steps p.tables e below (s₁.setTop (mkF m 52 #[sI (w24_3 p0), sI (w24_4 p0)] [(.int 16), (.int (w24_3 p0))])) tZ := by
        intro kj
        by_cases hc52 : (16 : Int32) < (w24_3 p0)
        · try simp only [if_pos hc52] at kj
          refine XS.icmpNo X0.here hx rfl (hb hby d24_52) rfl (tlt hc52).2.2.2 ?_
          refine XS.iinc X0.here hx rfl (hb hby d24_55) rfl (l' := #[sI (w24_3 p0), sI ((w24_4 p0) + (4 : Int32))]) rfl ?_
          refine XS.iloadN X0.here hx rfl (hb hby d24_58) rfl ?_
          refine XS.iconst X0.here hx rfl (hb hby d24_59) ?_
          refine XS.iushr X0.here hx rfl (hb hby d24_60) rfl ?_
          refine XS.istoreN X0.here hx rfl (hb hby d24_61) rfl (l' := #[sI (((w24_3 p0).toUInt32 >>> ((4 : Int32) &&& 31).toUInt32).toInt32), sI ((w24_4 p0) + (4 : Int32))]) rfl ?_
          exact kj
        · try simp only [if_neg hc52] at kj
          refine XS.icmpYes X0.here hx rfl (pc0 := 52) (pc' := 62) rfl (hb hby d24_52) rfl (flt hc52).2.2.2 (by decide) (by decide) ?_
          exact kj
      refine sg52 ?_
      show Steps p.tables e below (s₁.setTop (mkF m 62 #[sI (w24_5 p0), sI (w24_6 p0)] [])) _
      refine XS.iloadN X0.here hx rfl (hb hby d24_62) rfl ?_
      refine XS.iconst X0.here hx rfl (hb hby d24_63) ?_
      have sg64 : Steps p.tables e below (s₁.setTop (mkF m 74 #[sI (if (4 : Int32) < (w24_5 p0) then (((w24_5 p0).toUInt32 >>> ((2 : Int32) &&& 31).toUInt32).toInt32) else (w24_5 p0)), sI (if (4 : Int32) < (w24_5 p0) then ((w24_6 p0) + (2 : Int32)) else (w24_6 p0))] [])) tZ → Steps p.tables e below (s₁.setTop (mkF m 64 #[sI (w24_5 p0), sI (w24_6 p0)] [(.int 4), (.int (w24_5 p0))])) tZ := by
        intro kj
        by_cases hc64 : (4 : Int32) < (w24_5 p0)
        · try simp only [if_pos hc64] at kj
          refine XS.icmpNo X0.here hx rfl (hb hby d24_64) rfl (tlt hc64).2.2.2 ?_
          refine XS.iinc X0.here hx rfl (hb hby d24_67) rfl (l' := #[sI (w24_5 p0), sI ((w24_6 p0) + (2 : Int32))]) rfl ?_
          refine XS.iloadN X0.here hx rfl (hb hby d24_70) rfl ?_
          refine XS.iconst X0.here hx rfl (hb hby d24_71) ?_
          refine XS.iushr X0.here hx rfl (hb hby d24_72) rfl ?_
          refine XS.istoreN X0.here hx rfl (hb hby d24_73) rfl (l' := #[sI (((w24_5 p0).toUInt32 >>> ((2 : Int32) &&& 31).toUInt32).toInt32), sI ((w24_6 p0) + (2 : Int32))]) rfl ?_
          exact kj
        · try simp only [if_neg hc64] at kj
          refine XS.icmpYes X0.here hx rfl (pc0 := 64) (pc' := 74) rfl (hb hby d24_64) rfl (flt hc64).2.2.2 (by decide) (by decide) ?_
          exact kj
      refine sg64 ?_
      show Steps p.tables e below (s₁.setTop (mkF m 74 #[sI (w24_7 p0), sI (w24_8 p0)] [])) _
      refine XS.iloadN X0.here hx rfl (hb hby d24_74) rfl ?_
      refine XS.iloadN X0.here hx rfl (hb hby d24_75) rfl ?_
      refine XS.iconst X0.here hx rfl (hb hby d24_76) ?_
      refine XS.iushr X0.here hx rfl (hb hby d24_77) rfl ?_
      refine XS.iadd X0.here hx rfl (hb hby d24_78) rfl ?_
      exact kZ
    refine Go.retI X0 hx Bd.notSynchronized Bd.returns (hb hby d24_79) (by decide) (by decide) ?_
    refine ⟨?_, N0, e0⟩
    show some ((.int ((w24_8 p0) + (((w24_7 p0).toUInt32 >>> ((1 : Int32) &&& 31).toUInt32).toInt32))) : Value) = some (.int (f24 p0))
    unfold f24; rw [if_pos hc9] <;> rfl
  · refine Vi (s₁.setTop (mkF m 12 #[sI ((p0 ^^^ (-1 : Int32)) &&& (p0 - (1 : Int32))), .unset] [])) (fun tZ kZ => ?_) ?_
    · show Steps p.tables e below (s₁.setTop (mkF m 9 #[sI ((p0 ^^^ (-1 : Int32)) &&& (p0 - (1 : Int32))), .unset] [(.int ((p0 ^^^ (-1 : Int32)) &&& (p0 - (1 : Int32))))])) _
      refine XS.ifNo X0.here hx rfl (hb hby d24_9) rfl ((if0 _ _).trans (flt hc9).2.2.1) ?_
      exact kZ
    refine Vi (s₁.setTop (mkF m 16 #[sI ((p0 ^^^ (-1 : Int32)) &&& (p0 - (1 : Int32))), .unset] [(.int (((p0 ^^^ (-1 : Int32)) &&& (p0 - (1 : Int32))) &&& (32 : Int32)))])) (fun tZ kZ => ?_) ?_
    · refine XS.iloadN X0.here hx rfl (hb hby d24_12) rfl ?_
      refine XS.bipush X0.here hx rfl (hb hby d24_13) ?_
      refine XS.iand X0.here hx rfl (hb hby d24_15) rfl ?_
      exact kZ
    refine Go.retI X0 hx Bd.notSynchronized Bd.returns (hb hby d24_16) (by decide) (by decide) ?_
    refine ⟨?_, N0, e0⟩
    show some ((.int (((p0 ^^^ (-1 : Int32)) &&& (p0 - (1 : Int32))) &&& (32 : Int32))) : Value) = some (.int (f24 p0))
    unfold f24; rw [if_neg hc9] <;> rfl
theorem d21_0 : DC B21 0 (.iload_n 0) 1 := by decide +kernel
theorem d21_1 : DC B21 1 (.ifCond .gt 14) 3 := by decide +kernel
theorem d21_15 : DC B21 15 (.bipush 31) 2 := by decide +kernel
theorem d21_17 : DC B21 17 (.istore_n 1) 1 := by decide +kernel
theorem d21_18 : DC B21 18 (.iload_n 0) 1 := by decide +kernel
theorem d21_19 : DC B21 19 (.ldc_w 264) 3 := by decide +kernel
theorem d21_22 : DC B21 22 (.if_icmp .lt 11) 3 := by decide +kernel
theorem d21_25 : DC B21 25 (.iinc 1 (-16)) 3 := by decide +kernel
theorem d21_28 : DC B21 28 (.iload_n 0) 1 := by decide +kernel
theorem d21_29 : DC B21 29 (.bipush 16) 2 := by decide +kernel
theorem d21_31 : DC B21 31 (.iushr) 1 := by decide +kernel
theorem d21_32 : DC B21 32 (.istore_n 0) 1 := by decide +kernel
def w21_0 (p0 : Int32) : Int32 := (if p0 < (65536 : Int32) then p0 else ((p0.toUInt32 >>> ((16 : Int32) &&& 31).toUInt32).toInt32))
theorem d21_33 : DC B21 33 (.iload_n 0) 1 := by decide +kernel
theorem d21_34 : DC B21 34 (.sipush 256) 3 := by decide +kernel
theorem d21_37 : DC B21 37 (.if_icmp .lt 11) 3 := by decide +kernel
def w21_1 (p0 : Int32) : Int32 := ((if p0 < (65536 : Int32) then (31 : Int32) else (15 : Int32)) + (-8 : Int32))
theorem d21_40 : DC B21 40 (.iinc 1 (-8)) 3 := by decide +kernel
theorem d21_43 : DC B21 43 (.iload_n 0) 1 := by decide +kernel
theorem d21_44 : DC B21 44 (.bipush 8) 2 := by decide +kernel
theorem d21_46 : DC B21 46 (.iushr) 1 := by decide +kernel
theorem d21_47 : DC B21 47 (.istore_n 0) 1 := by decide +kernel
def w21_2 (p0 : Int32) : Int32 := (if (w21_0 p0) < (256 : Int32) then (w21_0 p0) else (((w21_0 p0).toUInt32 >>> ((8 : Int32) &&& 31).toUInt32).toInt32))
def w21_3 (p0 : Int32) : Int32 := (if (w21_0 p0) < (256 : Int32) then (if p0 < (65536 : Int32) then (31 : Int32) else (15 : Int32)) else (w21_1 p0))
theorem d21_48 : DC B21 48 (.iload_n 0) 1 := by decide +kernel
theorem d21_49 : DC B21 49 (.bipush 16) 2 := by decide +kernel
theorem d21_51 : DC B21 51 (.if_icmp .lt 10) 3 := by decide +kernel
theorem d21_54 : DC B21 54 (.iinc 1 (-4)) 3 := by decide +kernel
theorem d21_57 : DC B21 57 (.iload_n 0) 1 := by decide +kernel
theorem d21_58 : DC B21 58 (.iconst 4) 1 := by decide +kernel
theorem d21_59 : DC B21 59 (.iushr) 1 := by decide +kernel
theorem d21_60 : DC B21 60 (.istore_n 0) 1 := by decide +kernel
def w21_4 (p0 : Int32) : Int32 := (if (w21_2 p0) < (16 : Int32) then (w21_2 p0) else (((w21_2 p0).toUInt32 >>> ((4 : Int32) &&& 31).toUInt32).toInt32))
def w21_5 (p0 : Int32) : Int32 := (if (w21_2 p0) < (16 : Int32) then (w21_3 p0) else ((w21_3 p0) + (-4 : Int32)))
theorem d21_61 : DC B21 61 (.iload_n 0) 1 := by decide +kernel
theorem d21_62 : DC B21 62 (.iconst 4) 1 := by decide +kernel
theorem d21_63 : DC B21 63 (.if_icmp .lt 10) 3 := by decide +kernel
theorem d21_66 : DC B21 66 (.iinc 1 (-2)) 3 := by decide +kernel
theorem d21_69 : DC B21 69 (.iload_n 0) 1 := by decide +kernel
theorem d21_70 : DC B21 70 (.iconst 2) 1 := by decide +kernel
theorem d21_71 : DC B21 71 (.iushr) 1 := by decide +kernel
theorem d21_72 : DC B21 72 (.istore_n 0) 1 := by decide +kernel
def w21_6 (p0 : Int32) : Int32 := (if (w21_4 p0) < (4 : Int32) then (w21_4 p0) else (((w21_4 p0).toUInt32 >>> ((2 : Int32) &&& 31).toUInt32).toInt32))
def w21_7 (p0 : Int32) : Int32 := (if (w21_4 p0) < (4 : Int32) then (w21_5 p0) else ((w21_5 p0) + (-2 : Int32)))
theorem d21_73 : DC B21 73 (.iload_n 1) 1 := by decide +kernel
theorem d21_74 : DC B21 74 (.iload_n 0) 1 := by decide +kernel
theorem d21_75 : DC B21 75 (.iconst 1) 1 := by decide +kernel
theorem d21_76 : DC B21 76 (.iushr) 1 := by decide +kernel
theorem d21_77 : DC B21 77 (.isub) 1 := by decide +kernel
theorem d21_78 : DC B21 78 (.ireturn) 1 := by decide +kernel
theorem d21_4 : DC B21 4 (.iload_n 0) 1 := by decide +kernel
theorem d21_5 : DC B21 5 (.ifCond .ne 8) 3 := by decide +kernel
theorem d21_8 : DC B21 8 (.bipush 32) 2 := by decide +kernel
theorem d21_10 : DC B21 10 (.goto 4) 3 := by decide +kernel
theorem d21_13 : DC B21 13 (.iconst 0) 1 := by decide +kernel
theorem d21_14 : DC B21 14 (.ireturn) 1 := by decide +kernel
def f21 (p0 : Int32) : Int32 := (if (0 : Int32) < p0 then ((w21_7 p0) - (((w21_6 p0).toUInt32 >>> ((1 : Int32) &&& 31).toUInt32).toInt32)) else (if p0 = (0 : Int32) then (32 : Int32) else (0 : Int32)))
def Q21 (p0 : Int32) (h0 : Heap) (n0 : Nat) (v : Option Value) (h : Heap) (L : List Loc) : Prop := v = some (.int (f21 p0)) ∧ Fr n0 L ∧ h = h0
theorem ef_21_a (m : MethodId) (x0 : Int32) : entryFrame m #[(.int x0)] 2 = mkF m 0 #[.val (.int x0), .unset] [] := by first | (simp [entryFrame, mkF, argsToLocals, Value.category]; done) | rfl
theorem rm21 (l : Launch) (Z : State) (a0 : Array Value) (hw : HW a0 Z) (ws : List Jvm.Cond) (p0 : Int32) (h0 : Heap) (n0 : Nat) (Z0 : n0 ≤ h0.size) :
    MetFree l y21 (head1 (Jvm.Cond.code y21 jdk_33_method_47_code 2 (some .int) :: ws) RM_0_0_0_0) (fun a U => a = #[(.int p0)] ∧ Z.Warmed39 U.vm ∧ U.heap = h0) (fun _ _ _ _ _ => True) (fun _ U o U' => ∃ v L, o = .returned v ∧ Q21 p0 h0 n0 v U'.heap L ∧ FrameEnd U o U' L RM_0_0_0_0.cells RM_0_0_0_0.slots) := by
  refine MetFree.of_bodySF (plainFor_of_name pn_0) hisR ?_
  intro p e s m args below meth c s₁ Bd hml0 hP hK
  obtain ⟨rfl, hZ, hh⟩ := hP
  have hx := Bd.exec
  have hby := Bd.bytes
  have hml : c.maxLocals = 2 := hml0
  have hown : s.vm.findClass "java/lang/Integer" = some m.cls := findClass_of_methodNamed Bd.named
  have X0 : Stand p l e RM_0_0_0_0 s m _ below meth c s₁ [] 0 0 := Stand.of_body Bd
  have e0 : s₁.heap = h0 := by rw [← hh, Bd.state]; rfl
  have N0 := Fr.nil n0
  refine Go.into (P := fun oo uu => ∃ v L, oo = .returned v ∧ Q21 p0 h0 n0 v uu.heap L ∧ FrameEnd s oo uu L RM_0_0_0_0.cells RM_0_0_0_0.slots) (ef_21_a m p0) ?_
  show Go p e below _ (s₁.setTop (mkF m 0 #[sI p0, .unset] []))
  refine Vi (s₁.setTop (mkF m 1 #[sI p0, .unset] [(.int p0)])) (fun tZ kZ => ?_) ?_
  · refine XS.iloadN X0.here hx rfl (hb hby d21_0) rfl ?_
    exact kZ
  by_cases hc1 : (0 : Int32) < p0
  · refine Vi (s₁.setTop (mkF m 15 #[sI p0, .unset] [])) (fun tZ kZ => ?_) ?_
    · show Steps p.tables e below (s₁.setTop (mkF m 1 #[sI p0, .unset] [(.int p0)])) _
      refine XS.ifYes X0.here hx rfl (pc0 := 1) (pc' := 15) rfl (hb hby d21_1) rfl ((if0 _ _).trans (tlt hc1).2.2.1) (by decide) (by decide) ?_
      exact kZ
    refine Vi (s₁.setTop (mkF m 78 #[sI (w21_6 p0), sI (w21_7 p0)] [(.int ((w21_7 p0) - (((w21_6 p0).toUInt32 >>> ((1 : Int32) &&& 31).toUInt32).toInt32)))])) (fun tZ kZ => ?_) ?_
    · refine XS.bipush X0.here hx rfl (hb hby d21_15) ?_
      refine XS.istoreN X0.here hx rfl (hb hby d21_17) rfl (l' := #[sI p0, sI 31]) rfl ?_
      refine XS.iloadN X0.here hx rfl (hb hby d21_18) rfl ?_
      refine X0.ldcwInt hx hown (wz hZ hw 142 rfl) (g := (mkF m 19 #[sI p0, sI 31] [(.int p0)])) rfl (hb hby d21_19) _ ?_
      have sg22 : Steps p.tables e below (s₁.setTop (mkF m 33 #[sI (if p0 < (65536 : Int32) then p0 else ((p0.toUInt32 >>> ((16 : Int32) &&& 31).toUInt32).toInt32)), sI (if p0 < (65536 : Int32) then (31 : Int32) else (15 : Int32))] [])) tZ → Steps p.tables e below (s₁.setTop (mkF m 22 #[sI p0, sI 31] [(.int 65536), (.int p0)])) tZ := by
        intro kj
        by_cases hc22 : p0 < (65536 : Int32)
        · try simp only [if_pos hc22] at kj
          refine XS.icmpYes X0.here hx rfl (pc0 := 22) (pc' := 33) rfl (hb hby d21_22) rfl (tlt hc22).1 (by decide) (by decide) ?_
          exact kj
        · try simp only [if_neg hc22] at kj
          refine XS.icmpNo X0.here hx rfl (hb hby d21_22) rfl (flt hc22).1 ?_
          refine XS.iinc X0.here hx rfl (hb hby d21_25) rfl (l' := #[sI p0, sI 15]) rfl ?_
          refine XS.iloadN X0.here hx rfl (hb hby d21_28) rfl ?_
          refine XS.bipush X0.here hx rfl (hb hby d21_29) ?_
          refine XS.iushr X0.here hx rfl (hb hby d21_31) rfl ?_
          refine XS.istoreN X0.here hx rfl (hb hby d21_32) rfl (l' := #[sI ((p0.toUInt32 >>> ((16 : Int32) &&& 31).toUInt32).toInt32), sI 15]) rfl ?_
          exact kj
      refine sg22 ?_
      show Steps p.tables e below (s₁.setTop (mkF m 33 #[sI (w21_0 p0), sI (if p0 < (65536 : Int32) then (31 : Int32) else (15 : Int32))] [])) _
      refine XS.iloadN X0.here hx rfl (hb hby d21_33) rfl ?_
      refine XS.sipush X0.here hx rfl (hb hby d21_34) ?_
      have sg37 : Steps p.tables e below (s₁.setTop (mkF m 48 #[sI (if (w21_0 p0) < (256 : Int32) then (w21_0 p0) else (((w21_0 p0).toUInt32 >>> ((8 : Int32) &&& 31).toUInt32).toInt32)), sI (if (w21_0 p0) < (256 : Int32) then (if p0 < (65536 : Int32) then (31 : Int32) else (15 : Int32)) else (w21_1 p0))] [])) tZ → Steps p.tables e below (s₁.setTop (mkF m 37 #[sI (w21_0 p0), sI (if p0 < (65536 : Int32) then (31 : Int32) else (15 : Int32))] [(.int 256), (.int (w21_0 p0))])) tZ := by
        intro kj
        by_cases hc37 : (w21_0 p0) < (256 : Int32)
        · try simp only [if_pos hc37] at kj
          refine XS.icmpYes X0.here hx rfl (pc0 := 37) (pc' := 48) rfl (hb hby d21_37) rfl (tlt hc37).1 (by decide) (by decide) ?_
          exact kj
        · try simp only [if_neg hc37] at kj
          refine XS.icmpNo X0.here hx rfl (hb hby d21_37) rfl (flt hc37).1 ?_
          refine XS.iinc X0.here hx rfl (hb hby d21_40) rfl (l' := #[sI (w21_0 p0), sI (w21_1 p0)]) rfl ?_
          refine XS.iloadN X0.here hx rfl (hb hby d21_43) rfl ?_
          refine XS.bipush X0.here hx rfl (hb hby d21_44) ?_
          refine XS.iushr X0.here hx rfl (hb hby d21_46) rfl ?_
          refine XS.istoreN X0.here hx rfl (hb hby d21_47) rfl (l' := #[sI (((w21_0 p0).toUInt32 >>> ((8 : Int32) &&& 31).toUInt32).toInt32), sI (w21_1 p0)]) rfl ?_
          exact kj
      refine sg37 ?_
      show Steps p.tables e below (s₁.setTop (mkF m 48 #[sI (w21_2 p0), sI (w21_3 p0)] [])) _
      refine XS.iloadN X0.here hx rfl (hb hby d21_48) rfl ?_
      refine XS.bipush X0.here hx rfl (hb hby d21_49) ?_
      have sg51 : Steps p.tables e below (s₁.setTop (mkF m 61 #[sI (if (w21_2 p0) < (16 : Int32) then (w21_2 p0) else (((w21_2 p0).toUInt32 >>> ((4 : Int32) &&& 31).toUInt32).toInt32)), sI (if (w21_2 p0) < (16 : Int32) then (w21_3 p0) else ((w21_3 p0) + (-4 : Int32)))] [])) tZ → Steps p.tables e below (s₁.setTop (mkF m 51 #[sI (w21_2 p0), sI (w21_3 p0)] [(.int 16), (.int (w21_2 p0))])) tZ := by
        intro kj
        by_cases hc51 : (w21_2 p0) < (16 : Int32)
        · try simp only [if_pos hc51] at kj
          refine XS.icmpYes X0.here hx rfl (pc0 := 51) (pc' := 61) rfl (hb hby d21_51) rfl (tlt hc51).1 (by decide) (by decide) ?_
          exact kj
        · try simp only [if_neg hc51] at kj
          refine XS.icmpNo X0.here hx rfl (hb hby d21_51) rfl (flt hc51).1 ?_
          refine XS.iinc X0.here hx rfl (hb hby d21_54) rfl (l' := #[sI (w21_2 p0), sI ((w21_3 p0) + (-4 : Int32))]) rfl ?_
          refine XS.iloadN X0.here hx rfl (hb hby d21_57) rfl ?_
          refine XS.iconst X0.here hx rfl (hb hby d21_58) ?_
          refine XS.iushr X0.here hx rfl (hb hby d21_59) rfl ?_
          refine XS.istoreN X0.here hx rfl (hb hby d21_60) rfl (l' := #[sI (((w21_2 p0).toUInt32 >>> ((4 : Int32) &&& 31).toUInt32).toInt32), sI ((w21_3 p0) + (-4 : Int32))]) rfl ?_
          exact kj
      refine sg51 ?_
      show Steps p.tables e below (s₁.setTop (mkF m 61 #[sI (w21_4 p0), sI (w21_5 p0)] [])) _
      refine XS.iloadN X0.here hx rfl (hb hby d21_61) rfl ?_
      refine XS.iconst X0.here hx rfl (hb hby d21_62) ?_
      have sg63 : Steps p.tables e below (s₁.setTop (mkF m 73 #[sI (if (w21_4 p0) < (4 : Int32) then (w21_4 p0) else (((w21_4 p0).toUInt32 >>> ((2 : Int32) &&& 31).toUInt32).toInt32)), sI (if (w21_4 p0) < (4 : Int32) then (w21_5 p0) else ((w21_5 p0) + (-2 : Int32)))] [])) tZ → Steps p.tables e below (s₁.setTop (mkF m 63 #[sI (w21_4 p0), sI (w21_5 p0)] [(.int 4), (.int (w21_4 p0))])) tZ := by
        intro kj
        by_cases hc63 : (w21_4 p0) < (4 : Int32)
        · try simp only [if_pos hc63] at kj
          refine XS.icmpYes X0.here hx rfl (pc0 := 63) (pc' := 73) rfl (hb hby d21_63) rfl (tlt hc63).1 (by decide) (by decide) ?_
          exact kj
        · try simp only [if_neg hc63] at kj
          refine XS.icmpNo X0.here hx rfl (hb hby d21_63) rfl (flt hc63).1 ?_
          refine XS.iinc X0.here hx rfl (hb hby d21_66) rfl (l' := #[sI (w21_4 p0), sI ((w21_5 p0) + (-2 : Int32))]) rfl ?_
          refine XS.iloadN X0.here hx rfl (hb hby d21_69) rfl ?_
          refine XS.iconst X0.here hx rfl (hb hby d21_70) ?_
          refine XS.iushr X0.here hx rfl (hb hby d21_71) rfl ?_
          refine XS.istoreN X0.here hx rfl (hb hby d21_72) rfl (l' := #[sI (((w21_4 p0).toUInt32 >>> ((2 : Int32) &&& 31).toUInt32).toInt32), sI ((w21_5 p0) + (-2 : Int32))]) rfl ?_
          exact kj
      refine sg63 ?_
      show Steps p.tables e below (s₁.setTop (mkF m 73 #[sI (w21_6 p0), sI (w21_7 p0)] [])) _
      refine XS.iloadN X0.here hx rfl (hb hby d21_73) rfl ?_
      refine XS.iloadN X0.here hx rfl (hb hby d21_74) rfl ?_
      refine XS.iconst X0.here hx rfl (hb hby d21_75) ?_
      refine XS.iushr X0.here hx rfl (hb hby d21_76) rfl ?_
      refine XS.isub X0.here hx rfl (hb hby d21_77) rfl ?_
      exact kZ
    refine Go.retI X0 hx Bd.notSynchronized Bd.returns (hb hby d21_78) (by decide) (by decide) ?_
    refine ⟨?_, N0, e0⟩
    show some ((.int ((w21_7 p0) - (((w21_6 p0).toUInt32 >>> ((1 : Int32) &&& 31).toUInt32).toInt32))) : Value) = some (.int (f21 p0))
    unfold f21; rw [if_pos hc1] <;> rfl
  · refine Vi (s₁.setTop (mkF m 4 #[sI p0, .unset] [])) (fun tZ kZ => ?_) ?_
    · show Steps p.tables e below (s₁.setTop (mkF m 1 #[sI p0, .unset] [(.int p0)])) _
      refine XS.ifNo X0.here hx rfl (hb hby d21_1) rfl ((if0 _ _).trans (flt hc1).2.2.1) ?_
      exact kZ
    refine Vi (s₁.setTop (mkF m 14 #[sI p0, .unset] [(.int (if p0 = (0 : Int32) then (32 : Int32) else (0 : Int32)))])) (fun tZ kZ => ?_) ?_
    · refine XS.iloadN X0.here hx rfl (hb hby d21_4) rfl ?_
      have sg5 : Steps p.tables e below (s₁.setTop (mkF m 14 #[sI p0, .unset] [(.int (if p0 = (0 : Int32) then (32 : Int32) else (0 : Int32)))])) tZ → Steps p.tables e below (s₁.setTop (mkF m 5 #[sI p0, .unset] [(.int p0)])) tZ := by
        intro kj
        by_cases hc5 : p0 = (0 : Int32)
        · try simp only [if_pos hc5] at kj
          refine XS.ifNo X0.here hx rfl (hb hby d21_5) rfl ((if0 _ _).trans (teq hc5).2) ?_
          refine XS.bipush X0.here hx rfl (hb hby d21_8) ?_
          refine XS.goto X0.here hx rfl (pc0 := 10) (pc' := 14) rfl (hb hby d21_10) (by decide) (by decide) ?_
          exact kj
        · try simp only [if_neg hc5] at kj
          refine XS.ifYes X0.here hx rfl (pc0 := 5) (pc' := 13) rfl (hb hby d21_5) rfl ((if0 _ _).trans (feq hc5).2) (by decide) (by decide) ?_
          refine XS.iconst X0.here hx rfl (hb hby d21_13) ?_
          exact kj
      refine sg5 ?_
      show Steps p.tables e below (s₁.setTop (mkF m 14 #[sI p0, .unset] [(.int (if p0 = (0 : Int32) then (32 : Int32) else (0 : Int32)))])) _
      exact kZ
    refine Go.retI X0 hx Bd.notSynchronized Bd.returns (hb hby d21_14) (by decide) (by decide) ?_
    refine ⟨?_, N0, e0⟩
    show some ((.int (if p0 = (0 : Int32) then (32 : Int32) else (0 : Int32))) : Value) = some (.int (f21 p0))
    unfold f21; rw [if_neg hc1] <;> rfl
theorem d23_0 : DC B23 0 (.lload_n 0) 1 := by decide +kernel
theorem d23_1 : DC B23 1 (.l2i) 1 := by decide +kernel
theorem d23_2 : DC B23 2 (.istore_n 2) 1 := by decide +kernel
theorem d23_3 : DC B23 3 (.iload_n 2) 1 := by decide +kernel
theorem d23_4 : DC B23 4 (.ifCond .ne 17) 3 := by decide +kernel
theorem d23_7 : DC B23 7 (.bipush 32) 2 := by decide +kernel
theorem d23_9 : DC B23 9 (.lload_n 0) 1 := by decide +kernel
theorem d23_10 : DC B23 10 (.bipush 32) 2 := by decide +kernel
theorem d23_12 : DC B23 12 (.lushr) 1 := by decide +kernel
theorem d23_13 : DC B23 13 (.l2i) 1 := by decide +kernel
theorem pd_10 : parseMethodDescriptor "(I)I" = some ⟨[.int], some .int⟩ := by decide +kernel
theorem d23_14 : DC B23 14 (.invokestatic 311) 3 := by decide +kernel
theorem d23_17 : DC B23 17 (.iadd) 1 := by decide +kernel
theorem d23_18 : DC B23 18 (.goto 7) 3 := by decide +kernel
theorem d23_25 : DC B23 25 (.ireturn) 1 := by decide +kernel
theorem d23_21 : DC B23 21 (.iload_n 2) 1 := by decide +kernel
theorem d23_22 : DC B23 22 (.invokestatic 311) 3 := by decide +kernel
def f23 (q0 : Int64) : Int32 := (if (q0.toInt32) = (0 : Int32) then ((32 : Int32) + (f24 (((q0.toUInt64 >>> ((32 : Int32) &&& 0x3f).toInt64.toUInt64).toInt64).toInt32))) else (f24 (q0.toInt32)))
def Q23 (q0 : Int64) (h0 : Heap) (n0 : Nat) (v : Option Value) (h : Heap) (L : List Loc) : Prop := v = some (.int (f23 q0)) ∧ Fr n0 L ∧ h = h0
abbrev RM_1_0_0_14 : Room := { frames := 1, cells := 0, slots := 0, locals := 14 }
theorem pn_1 : plainName "java/lang/Long" = true := by first | (simp [plainName, overriddenIn]; done) | decide +kernel
theorem ef_23_a (m : MethodId) (x0 : Int64) : entryFrame m #[(.long x0)] 3 = mkF m 0 #[.val (.long x0), .second, .unset] [] := by first | (simp [entryFrame, mkF, argsToLocals, Value.category]; done) | rfl
theorem rm23 (l : Launch) (Z : State) (a0 : Array Value) (hw : HW a0 Z) (ws : List Jvm.Cond) (q0 : Int64) (h0 : Heap) (n0 : Nat) (Z0 : n0 ≤ h0.size) :
    MetFree l y23 (head1 (Jvm.Cond.code y23 jdk_35_method_49_code 3 (some .int) :: ws) RM_1_0_0_14) (fun a U => a = #[(.long q0)] ∧ Z.Warmed39 U.vm ∧ U.heap = h0) (fun _ _ _ _ _ => True) (fun _ U o U' => ∃ v L, o = .returned v ∧ Q23 q0 h0 n0 v U'.heap L ∧ FrameEnd U o U' L RM_1_0_0_14.cells RM_1_0_0_14.slots) := by
  refine MetFree.of_bodySF (plainFor_of_name pn_1) hisR ?_
  intro p e s m args below meth c s₁ Bd hml0 hP hK
  obtain ⟨rfl, hZ, hh⟩ := hP
  have hx := Bd.exec
  have hby := Bd.bytes
  have hml : c.maxLocals = 3 := hml0
  have hown : s.vm.findClass "java/lang/Long" = some m.cls := findClass_of_methodNamed Bd.named
  have X0 : Stand p l e RM_1_0_0_14 s m _ below meth c s₁ [] 0 0 := Stand.of_body Bd
  have e0 : s₁.heap = h0 := by rw [← hh, Bd.state]; rfl
  have N0 := Fr.nil n0
  refine Go.into (P := fun oo uu => ∃ v L, oo = .returned v ∧ Q23 q0 h0 n0 v uu.heap L ∧ FrameEnd s oo uu L RM_1_0_0_14.cells RM_1_0_0_14.slots) (ef_23_a m q0) ?_
  show Go p e below _ (s₁.setTop (mkF m 0 #[.val (.long q0), .second, .unset] []))
  refine Vi (s₁.setTop (mkF m 4 #[.val (.long q0), .second, sI (q0.toInt32)] [(.int (q0.toInt32))])) (fun tZ kZ => ?_) ?_
  · refine XS.lloadN X0.here hx rfl (hb hby d23_0) rfl ?_
    refine XS.l2i X0.here hx rfl (hb hby d23_1) rfl ?_
    refine XS.istoreN X0.here hx rfl (hb hby d23_2) rfl (l' := #[.val (.long q0), .second, sI (q0.toInt32)]) rfl ?_
    refine XS.iloadN X0.here hx rfl (hb hby d23_3) rfl ?_
    exact kZ
  by_cases hc4 : (q0.toInt32) = (0 : Int32)
  · refine Vi (s₁.setTop (mkF m 7 #[.val (.long q0), .second, sI (q0.toInt32)] [])) (fun tZ kZ => ?_) ?_
    · show Steps p.tables e below (s₁.setTop (mkF m 4 #[.val (.long q0), .second, sI (q0.toInt32)] [(.int (q0.toInt32))])) _
      refine XS.ifNo X0.here hx rfl (hb hby d23_4) rfl ((if0 _ _).trans (teq hc4).2) ?_
      exact kZ
    refine Vi (s₁.setTop (mkF m 14 #[.val (.long q0), .second, sI (q0.toInt32)] [(.int (((q0.toUInt64 >>> ((32 : Int32) &&& 0x3f).toInt64.toUInt64).toInt64).toInt32)), (.int 32)])) (fun tZ kZ => ?_) ?_
    · refine XS.bipush X0.here hx rfl (hb hby d23_7) ?_
      refine XS.lloadN X0.here hx rfl (hb hby d23_9) rfl ?_
      refine XS.bipush X0.here hx rfl (hb hby d23_10) ?_
      refine XS.lushr X0.here hx rfl (hb hby d23_12) rfl ?_
      refine XS.l2i X0.here hx rfl (hb hby d23_13) rfl ?_
      exact kZ
    obtain ⟨_, _, ⟨T1, L1, k1, n1⟩, -, X1, ⟨Lc1, hQ1, l1, y1, z1⟩, st1⟩ := Jvm.LawKit.callS X0 hx (y := y24) hown (wz hZ hw 151 rfl) (wz hZ hw 152 rfl) (wz hZ hw 140 rfl) (wz hZ hw 153 rfl) (by decide) (backOf (W := 1) (rm24 l Z a0 hw [] (((q0.toUInt64 >>> ((32 : Int32) &&& 0x3f).toInt64.toUInt64).toInt64).toInt32) h0 n0 Z0 ) hZ (wq hw 153 rfl) (wq hw 140 rfl) (by decide) (by decide)) (g := (mkF m 14 #[.val (.long q0), .second, sI (q0.toInt32)] [(.int (((q0.toUInt64 >>> ((32 : Int32) &&& 0x3f).toInt64.toUInt64).toInt64).toInt32)), (.int 32)])) rfl (by rw [hml]; rfl) (argsL := [(.int (((q0.toUInt64 >>> ((32 : Int32) &&& 0x3f).toInt64.toUInt64).toInt64).toInt32))]) (rest := [(.int 32)]) (lenOf pd_10 rfl) rfl (leW rfl) (hb hby d23_14) (fun _ _ => ⟨rfl, e0, (by decide : 0 + 0 ≤ _), (by decide : 0 + 0 ≤ _)⟩)
    dsimp only [Pt.U, Pt.locs, Pt.cells, Pt.slots] at X1 l1 y1 z1 st1 hQ1
    subst l1 y1 z1
    obtain ⟨rfl, N1q, e1⟩ := hQ1
    have N1 := Fr.app N0 N1q
    refine Go.via st1 ?_
    refine Vi (T1.setTop (mkF m 25 #[.val (.long q0), .second, sI (q0.toInt32)] [(.int ((32 : Int32) + (f24 (((q0.toUInt64 >>> ((32 : Int32) &&& 0x3f).toInt64.toUInt64).toInt64).toInt32))))])) (fun tZ kZ => ?_) ?_
    · refine XS.iadd X1.here hx rfl (hb hby d23_17) rfl ?_
      refine XS.goto X1.here hx rfl (pc0 := 18) (pc' := 25) rfl (hb hby d23_18) (by decide) (by decide) ?_
      exact kZ
    refine Go.retI X1 hx Bd.notSynchronized Bd.returns (hb hby d23_25) (by decide) (by decide) ?_
    refine ⟨?_, N1, e1⟩
    show some ((.int ((32 : Int32) + (f24 (((q0.toUInt64 >>> ((32 : Int32) &&& 0x3f).toInt64.toUInt64).toInt64).toInt32)))) : Value) = some (.int (f23 q0))
    unfold f23; rw [if_pos hc4] <;> rfl
  · refine Vi (s₁.setTop (mkF m 21 #[.val (.long q0), .second, sI (q0.toInt32)] [])) (fun tZ kZ => ?_) ?_
    · show Steps p.tables e below (s₁.setTop (mkF m 4 #[.val (.long q0), .second, sI (q0.toInt32)] [(.int (q0.toInt32))])) _
      refine XS.ifYes X0.here hx rfl (pc0 := 4) (pc' := 21) rfl (hb hby d23_4) rfl ((if0 _ _).trans (feq hc4).2) (by decide) (by decide) ?_
      exact kZ
    refine Vi (s₁.setTop (mkF m 22 #[.val (.long q0), .second, sI (q0.toInt32)] [(.int (q0.toInt32))])) (fun tZ kZ => ?_) ?_
    · refine XS.iloadN X0.here hx rfl (hb hby d23_21) rfl ?_
      exact kZ
    obtain ⟨_, _, ⟨T2, L2, k2, n2⟩, -, X2, ⟨Lc2, hQ2, l2, y2, z2⟩, st2⟩ := Jvm.LawKit.callS X0 hx (y := y24) hown (wz hZ hw 151 rfl) (wz hZ hw 152 rfl) (wz hZ hw 140 rfl) (wz hZ hw 153 rfl) (by decide) (backOf (W := 0) (rm24 l Z a0 hw [] (q0.toInt32) h0 n0 Z0 ) hZ (wq hw 153 rfl) (wq hw 140 rfl) (by decide) (by decide)) (g := (mkF m 22 #[.val (.long q0), .second, sI (q0.toInt32)] [(.int (q0.toInt32))])) rfl (by rw [hml]; rfl) (argsL := [(.int (q0.toInt32))]) (rest := []) (lenOf pd_10 rfl) rfl (leW rfl) (hb hby d23_22) (fun _ _ => ⟨rfl, e0, (by decide : 0 + 0 ≤ _), (by decide : 0 + 0 ≤ _)⟩)
    dsimp only [Pt.U, Pt.locs, Pt.cells, Pt.slots] at X2 l2 y2 z2 st2 hQ2
    subst l2 y2 z2
    obtain ⟨rfl, N2q, e2⟩ := hQ2
    have N2 := Fr.app N0 N2q
    refine Go.via st2 ?_
    refine Go.retI X2 hx Bd.notSynchronized Bd.returns (hb hby d23_25) (by decide) (by decide) ?_
    refine ⟨?_, N2, e2⟩
    show some ((.int (f24 (q0.toInt32))) : Value) = some (.int (f23 q0))
    unfold f23; rw [if_neg hc4] <;> rfl
theorem d20_0 : DC B20 0 (.lload_n 0) 1 := by decide +kernel
theorem d20_1 : DC B20 1 (.bipush 32) 2 := by decide +kernel
theorem d20_3 : DC B20 3 (.lushr) 1 := by decide +kernel
theorem d20_4 : DC B20 4 (.l2i) 1 := by decide +kernel
def w20_0 (q0 : Int64) : Int32 := (((q0.toUInt64 >>> ((32 : Int32) &&& 0x3f).toInt64.toUInt64).toInt64).toInt32)
theorem d20_5 : DC B20 5 (.istore_n 2) 1 := by decide +kernel
theorem d20_6 : DC B20 6 (.iload_n 2) 1 := by decide +kernel
theorem d20_7 : DC B20 7 (.ifCond .ne 14) 3 := by decide +kernel
theorem d20_10 : DC B20 10 (.bipush 32) 2 := by decide +kernel
theorem d20_12 : DC B20 12 (.lload_n 0) 1 := by decide +kernel
theorem d20_13 : DC B20 13 (.l2i) 1 := by decide +kernel
theorem d20_14 : DC B20 14 (.invokestatic 308) 3 := by decide +kernel
theorem d20_17 : DC B20 17 (.iadd) 1 := by decide +kernel
theorem d20_18 : DC B20 18 (.goto 7) 3 := by decide +kernel
theorem d20_25 : DC B20 25 (.ireturn) 1 := by decide +kernel
theorem d20_21 : DC B20 21 (.iload_n 2) 1 := by decide +kernel
theorem d20_22 : DC B20 22 (.invokestatic 308) 3 := by decide +kernel
def f20 (q0 : Int64) : Int32 := (if (w20_0 q0) = (0 : Int32) then ((32 : Int32) + (f21 (q0.toInt32))) else (f21 (w20_0 q0)))
def Q20 (q0 : Int64) (h0 : Heap) (n0 : Nat) (v : Option Value) (h : Heap) (L : List Loc) : Prop := v = some (.int (f20 q0)) ∧ Fr n0 L ∧ h = h0
theorem ef_20_a (m : MethodId) (x0 : Int64) : entryFrame m #[(.long x0)] 3 = mkF m 0 #[.val (.long x0), .second, .unset] [] := by first | (simp [entryFrame, mkF, argsToLocals, Value.category]; done) | rfl
theorem rm20 (l : Launch) (Z : State) (a0 : Array Value) (hw : HW a0 Z) (ws : List Jvm.Cond) (q0 : Int64) (h0 : Heap) (n0 : Nat) (Z0 : n0 ≤ h0.size) :
    MetFree l y20 (head1 (Jvm.Cond.code y20 jdk_35_method_48_code 3 (some .int) :: ws) RM_1_0_0_14) (fun a U => a = #[(.long q0)] ∧ Z.Warmed39 U.vm ∧ U.heap = h0) (fun _ _ _ _ _ => True) (fun _ U o U' => ∃ v L, o = .returned v ∧ Q20 q0 h0 n0 v U'.heap L ∧ FrameEnd U o U' L RM_1_0_0_14.cells RM_1_0_0_14.slots) := by
  refine MetFree.of_bodySF (plainFor_of_name pn_1) hisR ?_
  intro p e s m args below meth c s₁ Bd hml0 hP hK
  obtain ⟨rfl, hZ, hh⟩ := hP
  have hx := Bd.exec
  have hby := Bd.bytes
  have hml : c.maxLocals = 3 := hml0
  have hown : s.vm.findClass "java/lang/Long" = some m.cls := findClass_of_methodNamed Bd.named
  have X0 : Stand p l e RM_1_0_0_14 s m _ below meth c s₁ [] 0 0 := Stand.of_body Bd
  have e0 : s₁.heap = h0 := by rw [← hh, Bd.state]; rfl
  have N0 := Fr.nil n0
  refine Go.into (P := fun oo uu => ∃ v L, oo = .returned v ∧ Q20 q0 h0 n0 v uu.heap L ∧ FrameEnd s oo uu L RM_1_0_0_14.cells RM_1_0_0_14.slots) (ef_20_a m q0) ?_
  show Go p e below _ (s₁.setTop (mkF m 0 #[.val (.long q0), .second, .unset] []))
  refine Vi (s₁.setTop (mkF m 7 #[.val (.long q0), .second, sI (w20_0 q0)] [(.int (w20_0 q0))])) (fun tZ kZ => ?_) ?_
  · refine XS.lloadN X0.here hx rfl (hb hby d20_0) rfl ?_
    refine XS.bipush X0.here hx rfl (hb hby d20_1) ?_
    refine XS.lushr X0.here hx rfl (hb hby d20_3) rfl ?_
    refine XS.l2i X0.here hx rfl (hb hby d20_4) rfl ?_
    refine XS.istoreN X0.here hx rfl (hb hby d20_5) rfl (l' := #[.val (.long q0), .second, sI (w20_0 q0)]) rfl ?_
    refine XS.iloadN X0.here hx rfl (hb hby d20_6) rfl ?_
    exact kZ
  by_cases hc7 : (w20_0 q0) = (0 : Int32)
  · refine Vi (s₁.setTop (mkF m 10 #[.val (.long q0), .second, sI (w20_0 q0)] [])) (fun tZ kZ => ?_) ?_
    · show Steps p.tables e below (s₁.setTop (mkF m 7 #[.val (.long q0), .second, sI (w20_0 q0)] [(.int (w20_0 q0))])) _
      refine XS.ifNo X0.here hx rfl (hb hby d20_7) rfl ((if0 _ _).trans (teq hc7).2) ?_
      exact kZ
    refine Vi (s₁.setTop (mkF m 14 #[.val (.long q0), .second, sI (w20_0 q0)] [(.int (q0.toInt32)), (.int 32)])) (fun tZ kZ => ?_) ?_
    · refine XS.bipush X0.here hx rfl (hb hby d20_10) ?_
      refine XS.lloadN X0.here hx rfl (hb hby d20_12) rfl ?_
      refine XS.l2i X0.here hx rfl (hb hby d20_13) rfl ?_
      exact kZ
    obtain ⟨_, _, ⟨T1, L1, k1, n1⟩, -, X1, ⟨Lc1, hQ1, l1, y1, z1⟩, st1⟩ := Jvm.LawKit.callS X0 hx (y := y21) hown (wz hZ hw 138 rfl) (wz hZ hw 139 rfl) (wz hZ hw 140 rfl) (wz hZ hw 141 rfl) (by decide) (backOf (W := 1) (rm21 l Z a0 hw [] (q0.toInt32) h0 n0 Z0 ) hZ (wq hw 141 rfl) (wq hw 140 rfl) (by decide) (by decide)) (g := (mkF m 14 #[.val (.long q0), .second, sI (w20_0 q0)] [(.int (q0.toInt32)), (.int 32)])) rfl (by rw [hml]; rfl) (argsL := [(.int (q0.toInt32))]) (rest := [(.int 32)]) (lenOf pd_10 rfl) rfl (leW rfl) (hb hby d20_14) (fun _ _ => ⟨rfl, e0, (by decide : 0 + 0 ≤ _), (by decide : 0 + 0 ≤ _)⟩)
    dsimp only [Pt.U, Pt.locs, Pt.cells, Pt.slots] at X1 l1 y1 z1 st1 hQ1
    subst l1 y1 z1
    obtain ⟨rfl, N1q, e1⟩ := hQ1
    have N1 := Fr.app N0 N1q
    refine Go.via st1 ?_
    refine Vi (T1.setTop (mkF m 25 #[.val (.long q0), .second, sI (w20_0 q0)] [(.int ((32 : Int32) + (f21 (q0.toInt32))))])) (fun tZ kZ => ?_) ?_
    · refine XS.iadd X1.here hx rfl (hb hby d20_17) rfl ?_
      refine XS.goto X1.here hx rfl (pc0 := 18) (pc' := 25) rfl (hb hby d20_18) (by decide) (by decide) ?_
      exact kZ
    refine Go.retI X1 hx Bd.notSynchronized Bd.returns (hb hby d20_25) (by decide) (by decide) ?_
    refine ⟨?_, N1, e1⟩
    show some ((.int ((32 : Int32) + (f21 (q0.toInt32)))) : Value) = some (.int (f20 q0))
    unfold f20; rw [if_pos hc7] <;> rfl
  · refine Vi (s₁.setTop (mkF m 21 #[.val (.long q0), .second, sI (w20_0 q0)] [])) (fun tZ kZ => ?_) ?_
    · show Steps p.tables e below (s₁.setTop (mkF m 7 #[.val (.long q0), .second, sI (w20_0 q0)] [(.int (w20_0 q0))])) _
      refine XS.ifYes X0.here hx rfl (pc0 := 7) (pc' := 21) rfl (hb hby d20_7) rfl ((if0 _ _).trans (feq hc7).2) (by decide) (by decide) ?_
      exact kZ
    refine Vi (s₁.setTop (mkF m 22 #[.val (.long q0), .second, sI (w20_0 q0)] [(.int (w20_0 q0))])) (fun tZ kZ => ?_) ?_
    · refine XS.iloadN X0.here hx rfl (hb hby d20_21) rfl ?_
      exact kZ
    obtain ⟨_, _, ⟨T2, L2, k2, n2⟩, -, X2, ⟨Lc2, hQ2, l2, y2, z2⟩, st2⟩ := Jvm.LawKit.callS X0 hx (y := y21) hown (wz hZ hw 138 rfl) (wz hZ hw 139 rfl) (wz hZ hw 140 rfl) (wz hZ hw 141 rfl) (by decide) (backOf (W := 0) (rm21 l Z a0 hw [] (w20_0 q0) h0 n0 Z0 ) hZ (wq hw 141 rfl) (wq hw 140 rfl) (by decide) (by decide)) (g := (mkF m 22 #[.val (.long q0), .second, sI (w20_0 q0)] [(.int (w20_0 q0))])) rfl (by rw [hml]; rfl) (argsL := [(.int (w20_0 q0))]) (rest := []) (lenOf pd_10 rfl) rfl (leW rfl) (hb hby d20_22) (fun _ _ => ⟨rfl, e0, (by decide : 0 + 0 ≤ _), (by decide : 0 + 0 ≤ _)⟩)
    dsimp only [Pt.U, Pt.locs, Pt.cells, Pt.slots] at X2 l2 y2 z2 st2 hQ2
    subst l2 y2 z2
    obtain ⟨rfl, N2q, e2⟩ := hQ2
    have N2 := Fr.app N0 N2q
    refine Go.via st2 ?_
    refine Go.retI X2 hx Bd.notSynchronized Bd.returns (hb hby d20_25) (by decide) (by decide) ?_
    refine ⟨?_, N2, e2⟩
    show some ((.int (f21 (w20_0 q0))) : Value) = some (.int (f20 q0))
    unfold f20; rw [if_neg hc7] <;> rfl
theorem d10_0 : DC B10 0 (.iload_n 0) 1 := by decide +kernel
theorem d10_1 : DC B10 1 (.iload_n 1) 1 := by decide +kernel
theorem d10_2 : DC B10 2 (.if_icmp .lt 7) 3 := by decide +kernel
theorem d10_9 : DC B10 9 (.iload_n 1) 1 := by decide +kernel
theorem d10_5 : DC B10 5 (.iload_n 0) 1 := by decide +kernel
theorem d10_6 : DC B10 6 (.goto 4) 3 := by decide +kernel
theorem d10_10 : DC B10 10 (.ireturn) 1 := by decide +kernel
def f10 (p0 : Int32) (p1 : Int32) : Int32 := (if p0 < p1 then p1 else p0)
def Q10 (p0 : Int32) (p1 : Int32) (h0 : Heap) (n0 : Nat) (v : Option Value) (h : Heap) (L : List Loc) : Prop := v = some (.int (f10 p0 p1)) ∧ Fr n0 L ∧ h = h0
theorem ef_10_aa (m : MethodId) (x0 : Int32) (x1 : Int32) : entryFrame m #[(.int x0), (.int x1)] 2 = mkF m 0 #[.val (.int x0), .val (.int x1)] [] := by first | (simp [entryFrame, mkF, argsToLocals, Value.category]; done) | rfl
theorem rm10 (l : Launch) (Z : State) (a0 : Array Value) (hw : HW a0 Z) (ws : List Jvm.Cond) (p0 : Int32) (p1 : Int32) (h0 : Heap) (n0 : Nat) (Z0 : n0 ≤ h0.size) :
    MetFree l y10 (head1 (Jvm.Cond.code y10 jdk_29_method_65_code 2 (some .int) :: ws) RM_0_0_0_0) (fun a U => a = #[(.int p0), (.int p1)] ∧ Z.Warmed39 U.vm ∧ U.heap = h0) (fun _ _ _ _ _ => True) (fun _ U o U' => ∃ v L, o = .returned v ∧ Q10 p0 p1 h0 n0 v U'.heap L ∧ FrameEnd U o U' L RM_0_0_0_0.cells RM_0_0_0_0.slots) := by
  refine MetFree.of_bodySF (Jvm.Free.JP.mathPlain rfl (by decide +kernel)) hisR ?_
  intro p e s m args below meth c s₁ Bd hml0 hP hK
  obtain ⟨rfl, hZ, hh⟩ := hP
  have hx := Bd.exec
  have hby := Bd.bytes
  have hml : c.maxLocals = 2 := hml0
  have hown : s.vm.findClass "java/lang/Math" = some m.cls := findClass_of_methodNamed Bd.named
  have X0 : Stand p l e RM_0_0_0_0 s m _ below meth c s₁ [] 0 0 := Stand.of_body Bd
  have e0 : s₁.heap = h0 := by rw [← hh, Bd.state]; rfl
  have N0 := Fr.nil n0
  refine Go.into (P := fun oo uu => ∃ v L, oo = .returned v ∧ Q10 p0 p1 h0 n0 v uu.heap L ∧ FrameEnd s oo uu L RM_0_0_0_0.cells RM_0_0_0_0.slots) (ef_10_aa m p0 p1) ?_
  show Go p e below _ (s₁.setTop (mkF m 0 #[sI p0, sI p1] []))
  refine Vi (s₁.setTop (mkF m 10 #[sI p0, sI p1] [(.int (if p0 < p1 then p1 else p0))])) (fun tZ kZ => ?_) ?_
  · refine XS.iloadN X0.here hx rfl (hb hby d10_0) rfl ?_
    refine XS.iloadN X0.here hx rfl (hb hby d10_1) rfl ?_
    have sg2 : Steps p.tables e below (s₁.setTop (mkF m 10 #[sI p0, sI p1] [(.int (if p0 < p1 then p1 else p0))])) tZ → Steps p.tables e below (s₁.setTop (mkF m 2 #[sI p0, sI p1] [(.int p1), (.int p0)])) tZ := by
      intro kj
      by_cases hc2 : p0 < p1
      · try simp only [if_pos hc2] at kj
        refine XS.icmpYes X0.here hx rfl (pc0 := 2) (pc' := 9) rfl (hb hby d10_2) rfl (tlt hc2).1 (by decide) (by decide) ?_
        refine XS.iloadN X0.here hx rfl (hb hby d10_9) rfl ?_
        exact kj
      · try simp only [if_neg hc2] at kj
        refine XS.icmpNo X0.here hx rfl (hb hby d10_2) rfl (flt hc2).1 ?_
        refine XS.iloadN X0.here hx rfl (hb hby d10_5) rfl ?_
        refine XS.goto X0.here hx rfl (pc0 := 6) (pc' := 10) rfl (hb hby d10_6) (by decide) (by decide) ?_
        exact kj
    refine sg2 ?_
    show Steps p.tables e below (s₁.setTop (mkF m 10 #[sI p0, sI p1] [(.int (if p0 < p1 then p1 else p0))])) _
    exact kZ
  refine Go.retI X0 hx Bd.notSynchronized Bd.returns (hb hby d10_10) (by decide) (by decide) ?_
  refine ⟨?_, N0, e0⟩
  show some ((.int (if p0 < p1 then p1 else p0)) : Value) = some (.int (f10 p0 p1))
  rfl
theorem d19_0 : DC B19 0 (.iload_n 0) 1 := by decide +kernel
theorem d19_1 : DC B19 1 (.iload_n 1) 1 := by decide +kernel
theorem d19_2 : DC B19 2 (.if_icmp .gt 7) 3 := by decide +kernel
theorem d19_9 : DC B19 9 (.iload_n 1) 1 := by decide +kernel
theorem d19_5 : DC B19 5 (.iload_n 0) 1 := by decide +kernel
theorem d19_6 : DC B19 6 (.goto 4) 3 := by decide +kernel
theorem d19_10 : DC B19 10 (.ireturn) 1 := by decide +kernel
def f19 (p0 : Int32) (p1 : Int32) : Int32 := (if p1 < p0 then p1 else p0)
def Q19 (p0 : Int32) (p1 : Int32) (h0 : Heap) (n0 : Nat) (v : Option Value) (h : Heap) (L : List Loc) : Prop := v = some (.int (f19 p0 p1)) ∧ Fr n0 L ∧ h = h0
theorem ef_19_aa (m : MethodId) (x0 : Int32) (x1 : Int32) : entryFrame m #[(.int x0), (.int x1)] 2 = mkF m 0 #[.val (.int x0), .val (.int x1)] [] := by first | (simp [entryFrame, mkF, argsToLocals, Value.category]; done) | rfl
theorem rm19 (l : Launch) (Z : State) (a0 : Array Value) (hw : HW a0 Z) (ws : List Jvm.Cond) (p0 : Int32) (p1 : Int32) (h0 : Heap) (n0 : Nat) (Z0 : n0 ≤ h0.size) :
    MetFree l y19 (head1 (Jvm.Cond.code y19 jdk_29_method_69_code 2 (some .int) :: ws) RM_0_0_0_0) (fun a U => a = #[(.int p0), (.int p1)] ∧ Z.Warmed39 U.vm ∧ U.heap = h0) (fun _ _ _ _ _ => True) (fun _ U o U' => ∃ v L, o = .returned v ∧ Q19 p0 p1 h0 n0 v U'.heap L ∧ FrameEnd U o U' L RM_0_0_0_0.cells RM_0_0_0_0.slots) := by
  refine MetFree.of_bodySF (Jvm.Free.JP.mathPlain rfl (by decide +kernel)) hisR ?_
  intro p e s m args below meth c s₁ Bd hml0 hP hK
  obtain ⟨rfl, hZ, hh⟩ := hP
  have hx := Bd.exec
  have hby := Bd.bytes
  have hml : c.maxLocals = 2 := hml0
  have hown : s.vm.findClass "java/lang/Math" = some m.cls := findClass_of_methodNamed Bd.named
  have X0 : Stand p l e RM_0_0_0_0 s m _ below meth c s₁ [] 0 0 := Stand.of_body Bd
  have e0 : s₁.heap = h0 := by rw [← hh, Bd.state]; rfl
  have N0 := Fr.nil n0
  refine Go.into (P := fun oo uu => ∃ v L, oo = .returned v ∧ Q19 p0 p1 h0 n0 v uu.heap L ∧ FrameEnd s oo uu L RM_0_0_0_0.cells RM_0_0_0_0.slots) (ef_19_aa m p0 p1) ?_
  show Go p e below _ (s₁.setTop (mkF m 0 #[sI p0, sI p1] []))
  refine Vi (s₁.setTop (mkF m 10 #[sI p0, sI p1] [(.int (if p1 < p0 then p1 else p0))])) (fun tZ kZ => ?_) ?_
  · refine XS.iloadN X0.here hx rfl (hb hby d19_0) rfl ?_
    refine XS.iloadN X0.here hx rfl (hb hby d19_1) rfl ?_
    have sg2 : Steps p.tables e below (s₁.setTop (mkF m 10 #[sI p0, sI p1] [(.int (if p1 < p0 then p1 else p0))])) tZ → Steps p.tables e below (s₁.setTop (mkF m 2 #[sI p0, sI p1] [(.int p1), (.int p0)])) tZ := by
      intro kj
      by_cases hc2 : p1 < p0
      · try simp only [if_pos hc2] at kj
        refine XS.icmpYes X0.here hx rfl (pc0 := 2) (pc' := 9) rfl (hb hby d19_2) rfl (tlt hc2).2.2.1 (by decide) (by decide) ?_
        refine XS.iloadN X0.here hx rfl (hb hby d19_9) rfl ?_
        exact kj
      · try simp only [if_neg hc2] at kj
        refine XS.icmpNo X0.here hx rfl (hb hby d19_2) rfl (flt hc2).2.2.1 ?_
        refine XS.iloadN X0.here hx rfl (hb hby d19_5) rfl ?_
        refine XS.goto X0.here hx rfl (pc0 := 6) (pc' := 10) rfl (hb hby d19_6) (by decide) (by decide) ?_
        exact kj
    refine sg2 ?_
    show Steps p.tables e below (s₁.setTop (mkF m 10 #[sI p0, sI p1] [(.int (if p1 < p0 then p1 else p0))])) _
    exact kZ
  refine Go.retI X0 hx Bd.notSynchronized Bd.returns (hb hby d19_10) (by decide) (by decide) ?_
  refine ⟨?_, N0, e0⟩
  show some ((.int (if p1 < p0 then p1 else p0)) : Value) = some (.int (f19 p0 p1))
  rfl
def own_hi (s : Int32) : Int64 := (-1 : Int64) <<< (s &&& 0x3f).toInt64
def own_lo (s : Int32) : Int64 := (((-1 : Int64).toUInt64 >>> (((63 : Int32) - (s &&& (63 : Int32))) &&& 0x3f).toInt64.toUInt64).toInt64)
abbrev own_J (s : Int32) : Int32 := ((s.toUInt32 >>> ((6 : Int32) &&& 31).toUInt32).toInt32)
def own_c (lo hi : Int32) (w : Nat → Int64) (k : Int32) : Int32 := (if k < lo then (0 : Int32) else (if hi < k then (0 : Int32) else (if ((w (own_J k).toNatClampNeg) &&& ((1 : Int64) <<< (k &&& 0x3f).toInt64)) = (0 : Int64) then (0 : Int32) else (1 : Int32))))
def own_nx (S hi : Int32) (w : Nat → Int64) : Int32 := (if hi < S then (-1 : Int32) else (if ((w (own_J S).toNatClampNeg) &&& own_hi S) = (0 : Int64) then (((own_J S + (1 : Int32)) <<< ((6 : Int32) &&& 31)) + (f23 (w (own_J S + (1 : Int32)).toNatClampNeg))) else (((own_J S) <<< ((6 : Int32) &&& 31)) + (f23 ((w (own_J S).toNatClampNeg) &&& own_hi S)))))
def own_pv (S lo : Int32) (w : Nat → Int64) : Int32 := (if S < lo then (-1 : Int32) else (if ((w (own_J S).toNatClampNeg) &&& own_lo S) = (0 : Int64) then ((((own_J S + (-1 : Int32)) <<< ((6 : Int32) &&& 31)) + (63 : Int32)) - (f20 (w (own_J S + (-1 : Int32)).toNatClampNeg))) else ((((own_J S) <<< ((6 : Int32) &&& 31)) + (63 : Int32)) - (f20 ((w (own_J S).toNatClampNeg) &&& own_lo S)))))
theorem own_tA : ∀ n : Fin 128, own_J (Int32.ofNat n) = Int32.ofNat (n / 64) ∧ (own_J (Int32.ofNat n)).toNatClampNeg = n / 64 ∧ ¬ own_J (Int32.ofNat n) < 0 ∧ (own_J (Int32.ofNat n) + 1).toNatClampNeg = n / 64 + 1 ∧ ¬ own_J (Int32.ofNat n) + 1 < 0 ∧ own_hi (Int32.ofNat n) = own_hi (Int32.ofNat (n % 64)) ∧ own_lo (Int32.ofNat n) = own_lo (Int32.ofNat (n % 64)) ∧ ((1 : Int64) <<< ((Int32.ofNat n) &&& 0x3f).toInt64) = ((1 : Int64) <<< ((Int32.ofNat (n % 64)) &&& 0x3f).toInt64) := by decide +kernel
theorem own_tB : ∀ n : Fin 128, 64 ≤ n.val → (own_J (Int32.ofNat n) + -1).toNatClampNeg = n / 64 - 1 ∧ ¬ own_J (Int32.ofNat n) + -1 < 0 := by decide +kernel
theorem own_s1 {a : Int32} (h : ¬ a < 0) : (a - 1).toInt = a.toInt - 1 := by
  rw [Int32.lt_iff_toInt_lt, show (0 : Int32).toInt = 0 from rfl] at h
  have := Int32.toInt_lt a
  rw [Int32.toInt_sub, show (1 : Int32).toInt = 1 from rfl]
  exact Int.bmod_eq_of_le (by omega) (by omega)
theorem own_a1 {a b : Int32} (h : a < b) : (a + 1).toInt = a.toInt + 1 := by
  rw [Int32.lt_iff_toInt_lt] at h
  have := Int32.toInt_lt b; have := Int32.le_toInt a
  rw [Int32.toInt_add, show (1 : Int32).toInt = 1 from rfl]
  exact Int.bmod_eq_of_le (by omega) (by omega)
theorem own_up {α : Type} {f : Nat → α} {i : Nat} {v : α} : up f i v i = v := by unfold up; rw [if_pos rfl]
/-- a value within the bounds has a word -/
def own_B (lo hi : Int32) (nW : Nat) : Prop := ∀ x, ¬ x < lo → ¬ hi < x → ¬ own_J x < 0 ∧ (own_J x).toNatClampNeg < nW
theorem own_m8 (x lo : Int32) : ¬ f10 x lo < lo := by unfold f10; split <;> simp only [Int32.lt_iff_toInt_lt] at * <;> omega
theorem own_m10 (x hi : Int32) : ¬ hi < f19 x hi := by unfold f19; split <;> simp only [Int32.lt_iff_toInt_lt] at * <;> omega
/-- the lowest bit of a number that isn't 0 -/
theorem own_low2 : ∀ n : Nat, n ≠ 0 → ∃ k m, n = 2 ^ k * (2 * m + 1) := by
  intro n
  induction n using Nat.strongRecOn with
  | ind n ih =>
    intro h
    by_cases e : n % 2 = 1
    · exact ⟨0, n / 2, by omega⟩
    · obtain ⟨k, m, q⟩ := ih (n / 2) (by omega) (by omega)
      exact ⟨k + 1, m, by rw [Nat.pow_succ]; have : n = 2 * (n / 2) := by omega
                          rw [this, q, Nat.mul_comm (2 ^ k) 2, Nat.mul_assoc]⟩
theorem own_mask {n k m : Nat} (h : n = 2 ^ k * (2 * m + 1)) (hn : n < 2 ^ 32) : (2 ^ 32 - 1 - n) &&& (n - 1) = 2 ^ k - 1 := by
  have pk : 0 < 2 ^ k := Nat.pow_pos (by decide)
  have e1 : n = 2 ^ k * (2 * m + 1) + 0 := by omega
  have e2 : n - 1 = 2 ^ k * (2 * m) + (2 ^ k - 1) := by rw [h, Nat.mul_add]; omega
  apply Nat.eq_of_testBit_eq
  intro i
  rw [Nat.testBit_and, Nat.testBit_two_pow_sub_one, show 2 ^ 32 - 1 - n = 2 ^ 32 - (n + 1) from by omega, Nat.testBit_two_pow_sub_succ hn]
  rw [e2, Nat.testBit_two_pow_mul_add _ (by omega)]
  by_cases c : i < k
  · rw [if_pos c, Nat.testBit_two_pow_sub_one]
    have : n.testBit i = false := by rw [e1, Nat.testBit_two_pow_mul_add _ pk, if_pos c]; simp
    have k32 : k < 32 := by
      rcases Nat.lt_or_ge k 32 with h32 | h32
      · exact h32
      · have := Nat.pow_le_pow_right (n := 2) (by decide) h32
        have : 2 ^ k ≤ n := by rw [h]; exact Nat.le_mul_of_pos_right _ (by omega)
        omega
    simp [this, c]; omega
  · rw [if_neg c]
    have : n.testBit i = (2 * m + 1).testBit (i - k) := by rw [e1, Nat.testBit_two_pow_mul_add _ pk, if_neg c]
    rw [this]
    cases q : i - k with
    | zero => simp [c]
    | succ j => simp [Nat.testBit_succ, c, show (2 * m + 1) / 2 = m by omega]
def own_F (y : Int32) : Int32 :=
  let s := fun (z : Int32) (c : Int32) => (z.toUInt32 >>> (c &&& 31).toUInt32).toInt32
  let w1 := if 65536 < y then s y 16 else y
  let w2 : Int32 := if 65536 < y then 17 else 1
  let w3 := if 256 < w1 then s w1 8 else w1
  let w4 := if 256 < w1 then w2 + 8 else w2
  let w5 := if 16 < w3 then s w3 4 else w3
  let w6 := if 16 < w3 then w4 + 4 else w4
  let w7 := if 4 < w5 then s w5 2 else w5
  let w8 := if 4 < w5 then w6 + 2 else w6
  if 0 < y then w8 + s w7 1 else y &&& 32
theorem own_f19F (x : Int32) : f24 x = own_F ((x ^^^ (-1 : Int32)) &&& (x - (1 : Int32))) := rfl
theorem own_Ft : ∀ k : Fin 32, own_F (Int32.ofNat (2 ^ k.val - 1)) = Int32.ofNat k := by decide +kernel
theorem own_tz32 (x : Int32) (h : x ≠ 0) : ∃ t, t < 32 ∧ f24 x = Int32.ofNat t ∧ x.toBitVec.getLsbD t = true ∧ ∀ i, i < t → x.toBitVec.getLsbD i = false := by
  have hb : x.toBitVec.toNat ≠ 0 := fun q => h (by
    apply Int32.toBitVec_inj.mp; apply BitVec.eq_of_toNat_eq; rw [q]; rfl)
  have hlt := x.toBitVec.isLt
  obtain ⟨k, m, q⟩ := own_low2 _ hb
  have pk : 0 < 2 ^ k := Nat.pow_pos (by decide)
  have k32 : k < 32 := by
    rcases Nat.lt_or_ge k 32 with h32 | h32
    · exact h32
    · have := Nat.pow_le_pow_right (n := 2) (by decide) h32
      have : 2 ^ k ≤ x.toBitVec.toNat := by rw [q]; exact Nat.le_mul_of_pos_right _ (by omega)
      omega
  have e1 : x.toBitVec.toNat = 2 ^ k * (2 * m + 1) + 0 := by omega
  have hy : (x ^^^ (-1 : Int32)) &&& (x - (1 : Int32)) = Int32.ofNat (2 ^ k - 1) := by
    apply Int32.toBitVec_inj.mp
    apply BitVec.eq_of_toNat_eq
    rw [Int32.toBitVec_and, Int32.toBitVec_xor, Int32.toBitVec_sub, BitVec.toNat_and]
    rw [show (-1 : Int32).toBitVec = BitVec.allOnes 32 from rfl, BitVec.xor_allOnes, BitVec.toNat_not, BitVec.toNat_sub]
    rw [show (1 : Int32).toBitVec.toNat = 1 from rfl, show (2 ^ 32 - 1 + x.toBitVec.toNat) % 2 ^ 32 = x.toBitVec.toNat - 1 from by omega, own_mask q hlt]
    have : 2 ^ k ≤ 2 ^ 31 := Nat.pow_le_pow_right (by decide) (by omega)
    show _ = (BitVec.ofNat 32 (2 ^ k - 1)).toNat
    rw [BitVec.toNat_ofNat, Nat.mod_eq_of_lt (by omega)]
  refine ⟨k, k32, by rw [own_f19F, hy]; exact own_Ft ⟨k, k32⟩, ?_, fun i hi => ?_⟩
  · rw [BitVec.getLsbD, e1, Nat.testBit_two_pow_mul_add _ pk, if_neg (by omega), Nat.sub_self]; simp
  · rw [BitVec.getLsbD, e1, Nat.testBit_two_pow_mul_add _ pk, if_pos hi]; simp
theorem own_lo32 (w : Int64) (i : Nat) : w.toInt32.toBitVec.getLsbD i = (decide (i < 32) && w.toBitVec.getLsbD i) := by
  show (w.toBitVec.signExtend 32).getLsbD i = _
  rw [BitVec.signExtend_eq_setWidth_of_le _ (by decide), BitVec.getLsbD_setWidth]
def own_h32 (w : Int64) : Int32 := (((w.toUInt64 >>> ((32 : Int32) &&& 0x3f).toInt64.toUInt64).toInt64).toInt32)
theorem own_hi32 (w : Int64) (i : Nat) : (own_h32 w).toBitVec.getLsbD i = (decide (i < 32) && w.toBitVec.getLsbD (32 + i)) := by
  unfold own_h32
  rw [own_lo32]
  show (decide (i < 32) && (w.toBitVec >>> (32 % 64 : Nat)).getLsbD i) = _
  rw [BitVec.getLsbD_ushiftRight]
theorem own_bits0 {x : Int32} (h : ∀ i, i < 32 → x.toBitVec.getLsbD i = false) : x = 0 := by
  apply Int32.toBitVec_inj.mp
  apply BitVec.eq_of_getLsbD_eq
  intro i hi
  rw [h i hi]; simp
theorem own_tz (w : Int64) (h : w ≠ 0) : ∃ t, t < 64 ∧ f23 w = Int32.ofNat t ∧ w.toBitVec.getLsbD t = true ∧ ∀ i, i < t → w.toBitVec.getLsbD i = false := by
  by_cases c : w.toInt32 = 0
  · have e : f23 w = 32 + f24 (own_h32 w) := by unfold f23; rw [if_pos c]; rfl
    have z : ∀ i, i < 32 → w.toBitVec.getLsbD i = false := fun i hi => by
      have q := own_lo32 w i
      rw [c] at q; simpa [hi] using q.symm
    have hh : own_h32 w ≠ 0 := fun q => h (by
      apply Int64.toBitVec_inj.mp
      apply BitVec.eq_of_getLsbD_eq
      intro i hi
      rcases Nat.lt_or_ge i 32 with h32 | h32
      · rw [z i h32]; simp
      · have r := own_hi32 w (i - 32)
        rw [q, show 32 + (i - 32) = i by omega] at r
        simpa [show i - 32 < 32 by omega] using r.symm)
    obtain ⟨t, ht, e1, e2, e3⟩ := own_tz32 _ hh
    refine ⟨32 + t, by omega, ?_, ?_, fun i hi => ?_⟩
    · rw [e, e1, Int32.ofNat_add]; rfl
    · rw [own_hi32] at e2; simpa [ht] using e2
    · rcases Nat.lt_or_ge i 32 with h32 | h32
      · exact z i h32
      · have r := e3 (i - 32) (by omega)
        rw [own_hi32, show 32 + (i - 32) = i by omega] at r
        simpa [show i - 32 < 32 by omega] using r
  · have e : f23 w = f24 w.toInt32 := by unfold f23; rw [if_neg c]
    obtain ⟨t, ht, e1, e2, e3⟩ := own_tz32 _ c
    refine ⟨t, by omega, by rw [e, e1], ?_, fun i hi => ?_⟩
    · rw [own_lo32] at e2; simpa [ht] using e2
    · have r := e3 i hi
      rw [own_lo32] at r; simpa [show i < 32 by omega] using r
theorem own_sr {p : Int32} (h : 0 ≤ p.toInt) (c : Nat) (hc : c < 32) : ((p.toUInt32 >>> ((Int32.ofNat c) &&& 31).toUInt32).toInt32).toInt = p.toInt / 2 ^ c := by
  have hm : ∀ c : Fin 32, (((Int32.ofNat c.val) &&& 31).toUInt32).toBitVec.toNat % 32 = c.val := by decide +kernel
  have hc' := hm ⟨c, hc⟩
  simp only at hc'
  have hp : (p.toBitVec.toNat : Int) = p.toInt := by
    have q : p.toInt = p.toBitVec.toInt := rfl
    rw [BitVec.toInt_eq_toNat_cond] at q
    have := p.toBitVec.isLt
    split at q <;> omega
  have h31 := Int32.toInt_lt p
  have e : ((p.toUInt32 >>> ((Int32.ofNat c) &&& 31).toUInt32).toInt32).toInt = ((p.toUInt32 >>> ((Int32.ofNat c) &&& 31).toUInt32).toBitVec).toInt := rfl
  have e2 : (p.toUInt32 >>> ((Int32.ofNat c) &&& 31).toUInt32).toBitVec.toNat = p.toBitVec.toNat / 2 ^ c := by
    rw [UInt32.toBitVec_shiftRight]
    have : p.toUInt32.toBitVec = p.toBitVec := rfl
    rw [this, BitVec.ushiftRight_eq', BitVec.toNat_ushiftRight, Nat.shiftRight_eq_div_pow]
    congr 2
  have lt : p.toBitVec.toNat / 2 ^ c ≤ p.toBitVec.toNat := Nat.div_le_self _ _
  rw [e, BitVec.toInt_eq_toNat_cond, e2, if_pos (by omega), ← hp]
  simp
def own_s (z c : Int32) : Int32 := (z.toUInt32 >>> (c &&& 31).toUInt32).toInt32
theorem own_s16 {p : Int32} (h : 0 ≤ p.toInt) : (own_s p 16).toInt = p.toInt / 65536 := own_sr h 16 (by decide)
theorem own_s8 {p : Int32} (h : 0 ≤ p.toInt) : (own_s p 8).toInt = p.toInt / 256 := own_sr h 8 (by decide)
theorem own_s4 {p : Int32} (h : 0 ≤ p.toInt) : (own_s p 4).toInt = p.toInt / 16 := own_sr h 4 (by decide)
theorem own_s2 {p : Int32} (h : 0 ≤ p.toInt) : (own_s p 2).toInt = p.toInt / 4 := own_sr h 2 (by decide)
theorem own_s1' {p : Int32} (h : 0 ≤ p.toInt) : (own_s p 1).toInt = p.toInt / 2 := own_sr h 1 (by decide)
theorem own_add32 {a b : Int32} (h : -2147483648 ≤ a.toInt + b.toInt) (h' : a.toInt + b.toInt < 2147483648) : (a + b).toInt = a.toInt + b.toInt := by
  rw [Int32.toInt_add]; exact Int.bmod_eq_of_le (by omega) (by omega)
theorem own_sub32 {a b : Int32} (h : -2147483648 ≤ a.toInt - b.toInt) (h' : a.toInt - b.toInt < 2147483648) : (a - b).toInt = a.toInt - b.toInt := by
  rw [Int32.toInt_sub]; exact Int.bmod_eq_of_le (by omega) (by omega)
theorem own_lzp (p : Int32) (h : 0 < p.toInt) : ∃ t, t < 31 ∧ f21 p = Int32.ofNat (31 - t) ∧ 2 ^ t ≤ p.toInt ∧ p.toInt < 2 ^ (t + 1) := by
  have hp31 := Int32.toInt_lt p
  have e0 : (0 : Int32).toInt = 0 := rfl
  have e1 : (65536 : Int32).toInt = 65536 := rfl
  have e2 : (256 : Int32).toInt = 256 := rfl
  have e3 : (16 : Int32).toInt = 16 := rfl
  have e4 : (4 : Int32).toInt = 4 := rfl
  -- the parts
  obtain ⟨i1, hi1⟩ : ∃ z, z = w21_0 p := ⟨_, rfl⟩
  obtain ⟨i2, hi2⟩ : ∃ z, z = w21_2 p := ⟨_, rfl⟩
  obtain ⟨i3, hi3⟩ : ∃ z, z = w21_4 p := ⟨_, rfl⟩
  obtain ⟨i4, hi4⟩ : ∃ z, z = w21_6 p := ⟨_, rfl⟩
  have a1 : i1.toInt = if p.toInt < 65536 then p.toInt else p.toInt / 65536 := by
    rw [hi1]; unfold w21_0; simp only [Int32.lt_iff_toInt_lt, e1]
    split
    · rfl
    · exact own_s16 (by omega)
  have p1 : 0 < i1.toInt ∧ i1.toInt < 65536 := by rw [a1]; split <;> omega
  have a2 : i2.toInt = if i1.toInt < 256 then i1.toInt else i1.toInt / 256 := by
    rw [hi2]; unfold w21_2; rw [← hi1]; simp only [Int32.lt_iff_toInt_lt, e2]
    split
    · rfl
    · exact own_s8 (by omega)
  have p2 : 0 < i2.toInt ∧ i2.toInt < 256 := by rw [a2]; split <;> omega
  have a3 : i3.toInt = if i2.toInt < 16 then i2.toInt else i2.toInt / 16 := by
    rw [hi3]; unfold w21_4; rw [← hi2]; simp only [Int32.lt_iff_toInt_lt, e3]
    split
    · rfl
    · exact own_s4 (by omega)
  have p3 : 0 < i3.toInt ∧ i3.toInt < 16 := by rw [a3]; split <;> omega
  have a4 : i4.toInt = if i3.toInt < 4 then i3.toInt else i3.toInt / 4 := by
    rw [hi4]; unfold w21_6; rw [← hi3]; simp only [Int32.lt_iff_toInt_lt, e4]
    split
    · rfl
    · exact own_s2 (by omega)
  have p4 : 0 < i4.toInt ∧ i4.toInt < 4 := by rw [a4]; split <;> omega
  have n1 : ∃ b1, b1 = (if p.toInt < 65536 then 0 else 16) ∧ (if p < 65536 then (31 : Int32) else 15) = Int32.ofNat (31 - b1) ∧ w21_1 p = Int32.ofNat (23 - b1) := by
    unfold w21_1; simp only [Int32.lt_iff_toInt_lt, e1]
    by_cases c : p.toInt < 65536
    · exact ⟨0, by rw [if_pos c], by rw [if_pos c]; rfl, by rw [if_pos c]; rfl⟩
    · exact ⟨16, by rw [if_neg c], by rw [if_neg c]; rfl, by rw [if_neg c]; rfl⟩
  obtain ⟨b1, hb1, n1a, n1b⟩ := n1
  have n2 : ∃ b2, b2 = b1 + (if i1.toInt < 256 then 0 else 8) ∧ w21_3 p = Int32.ofNat (31 - b2) := by
    unfold w21_3; rw [← hi1, n1a, n1b]; simp only [Int32.lt_iff_toInt_lt, e2]
    by_cases c : i1.toInt < 256
    · exact ⟨b1, by rw [if_pos c]; rfl, by rw [if_pos c]⟩
    · exact ⟨b1 + 8, by rw [if_neg c], by rw [if_neg c]; congr 1; omega⟩
  obtain ⟨b2, hb2, n2a⟩ := n2
  have bb1 : b1 ≤ 16 := by rw [hb1]; split <;> omega
  have bb2 : b2 ≤ 24 := by rw [hb2]; split <;> omega
  have n3 : ∃ b3, b3 = b2 + (if i2.toInt < 16 then 0 else 4) ∧ w21_5 p = Int32.ofNat (31 - b3) := by
    unfold w21_5; rw [← hi2, n2a]; simp only [Int32.lt_iff_toInt_lt, e3]
    by_cases c : i2.toInt < 16
    · exact ⟨b2, by rw [if_pos c]; rfl, by rw [if_pos c]⟩
    · refine ⟨b2 + 4, by rw [if_neg c], ?_⟩
      rw [if_neg c]
      have : ∀ b : Fin 25, Int32.ofNat (31 - b.val) + (-4 : Int32) = Int32.ofNat (31 - (b.val + 4)) := by decide +kernel
      exact this ⟨b2, by omega⟩
  obtain ⟨b3, hb3, n3a⟩ := n3
  have bb3 : b3 ≤ 28 := by rw [hb3]; split <;> omega
  have n4 : ∃ b4, b4 = b3 + (if i3.toInt < 4 then 0 else 2) ∧ w21_7 p = Int32.ofNat (31 - b4) := by
    unfold w21_7; rw [← hi3, n3a]; simp only [Int32.lt_iff_toInt_lt, e4]
    by_cases c : i3.toInt < 4
    · exact ⟨b3, by rw [if_pos c]; rfl, by rw [if_pos c]⟩
    · refine ⟨b3 + 2, by rw [if_neg c], ?_⟩
      rw [if_neg c]
      have : ∀ b : Fin 29, Int32.ofNat (31 - b.val) + (-2 : Int32) = Int32.ofNat (31 - (b.val + 2)) := by decide +kernel
      exact this ⟨b3, by omega⟩
  obtain ⟨b4, hb4, n4a⟩ := n4
  have bb4 : b4 ≤ 30 := by rw [hb4]; split <;> omega
  have hs := own_s1' (p := i4) (by omega)
  have fin : f21 p = Int32.ofNat (31 - b4) - own_s i4 1 := by
    unfold f21
    rw [if_pos (by rw [Int32.lt_iff_toInt_lt, e0]; exact h), n4a, ← hi4]; rfl
  -- the last step
  have key : ∀ (b : Nat) (lo : Int), b = b4 → True := fun _ _ _ => trivial
  have two : (own_s i4 1 = 0 ∧ i4.toInt = 1) ∨ (own_s i4 1 = 1 ∧ 2 ≤ i4.toInt) := by
    by_cases c : i4.toInt = 1
    · left; refine ⟨?_, c⟩; rw [← Int32.toInt_inj, hs, c]; rfl
    · right; refine ⟨?_, by omega⟩; rw [← Int32.toInt_inj, hs]; show _ = (1 : Int); omega
  have sub1 : ∀ b : Fin 31, Int32.ofNat (31 - b.val) - 0 = Int32.ofNat (31 - b.val) ∧ Int32.ofNat (31 - b.val) - 1 = Int32.ofNat (31 - (b.val + 1)) := by decide +kernel
  have s1 := sub1 ⟨b4, by omega⟩
  simp only at s1
  have rng : ∀ x : Nat, x = b4 → (2 : Int) ^ b4 * i4.toInt ≤ p.toInt ∧ p.toInt < 2 ^ b4 * (i4.toInt + 1) := by
    intro x hx
    clear hx x key sub1 s1 two fin n1a n1b n2a n3a n4a hi1 hi2 hi3 hi4 hs
    by_cases c1 : p.toInt < 65536 <;> by_cases c2 : i1.toInt < 256 <;> by_cases c3 : i2.toInt < 16 <;> by_cases c4 : i3.toInt < 4 <;>
      simp only [c1, c2, c3, c4, if_true, if_false] at a1 a2 a3 a4 hb1 hb2 hb3 hb4 <;> subst hb1 hb2 hb3 hb4 <;> simp only [Nat.zero_add, Nat.add_zero, Nat.reduceAdd, Int.reducePow] <;> omega
  obtain ⟨r1, r2⟩ := rng b4 rfl
  have tpos : (0 : Int) < 2 ^ b4 := Int.pow_pos (by decide)
  rcases two with ⟨q1, q2⟩ | ⟨q1, q2⟩
  · refine ⟨b4, ?_, by rw [fin, q1, s1.1], by rw [q2] at r1; omega, by rw [q2] at r2; rw [Int.pow_succ]; omega⟩
    rcases Nat.lt_or_ge b4 31 with g | g <;> omega
  · have r3 : (2 : Int) ^ (b4 + 1) ≤ p.toInt := by
      rw [Int.pow_succ]; exact Int.le_trans (Int.mul_le_mul_of_nonneg_left (by omega) (by omega)) r1
    refine ⟨b4 + 1, ?_, by rw [fin, q1, s1.2], r3, ?_⟩
    · rcases Nat.lt_or_ge (b4 + 1) 31 with g | g
      · exact g
      · have : b4 = 30 := by omega
        rw [this] at r3; simp at r3; omega
    · rw [Int.pow_succ, Int.pow_succ, Int.mul_assoc]
      exact Int.lt_of_lt_of_le r2 (Int.mul_le_mul_of_nonneg_left (by omega) (by omega))
theorem own_lz32 (x : Int32) (h : x ≠ 0) : ∃ t, t < 32 ∧ f21 x = Int32.ofNat (31 - t) ∧ x.toBitVec.getLsbD t = true ∧ ∀ i, t < i → x.toBitVec.getLsbD i = false := by
  have hlt := x.toBitVec.isLt
  have q : x.toInt = x.toBitVec.toInt := rfl
  rw [BitVec.toInt_eq_toNat_cond] at q
  have hne : x.toInt ≠ 0 := fun e => h (Int32.toInt_inj.mp e)
  by_cases c : 0 < x.toInt
  · obtain ⟨t, ht, e1, e2, e3⟩ := own_lzp x c
    have hn : (x.toBitVec.toNat : Int) = x.toInt := by split at q <;> omega
    have n1 : 2 ^ t ≤ x.toBitVec.toNat := by
      have := e2; rw [← hn] at this; exact_mod_cast this
    have n2 : x.toBitVec.toNat < 2 ^ (t + 1) := by
      have := e3; rw [← hn] at this; exact_mod_cast this
    refine ⟨t, by omega, e1, ?_, fun i hi => ?_⟩
    · rw [BitVec.getLsbD, Nat.testBit_eq_decide_div_mod_eq]
      have : x.toBitVec.toNat / 2 ^ t = 1 := by
        rw [Nat.div_eq_iff (Nat.pow_pos (by decide))]
        rw [Nat.pow_succ] at n2
        omega
      rw [this]; rfl
    · rw [BitVec.getLsbD]
      exact Nat.testBit_lt_two_pow (Nat.lt_of_lt_of_le n2 (Nat.pow_le_pow_right (by decide) hi))
  · have hn : 2 ^ 31 ≤ x.toBitVec.toNat := by split at q <;> omega
    refine ⟨31, by decide, ?_, ?_, fun i hi => ?_⟩
    · unfold f21
      rw [if_neg (by rw [Int32.lt_iff_toInt_lt]; exact c), if_neg h]; rfl
    · rw [BitVec.getLsbD, Nat.testBit_eq_decide_div_mod_eq]
      have : x.toBitVec.toNat / 2 ^ 31 = 1 := by
        rw [Nat.div_eq_iff (by decide)]; omega
      rw [this]; rfl
    · exact BitVec.getLsbD_of_ge _ _ (by omega)
theorem own_lz (w : Int64) (h : w ≠ 0) : ∃ t, t < 64 ∧ f20 w = Int32.ofNat (63 - t) ∧ w.toBitVec.getLsbD t = true ∧ ∀ i, t < i → w.toBitVec.getLsbD i = false := by
  by_cases c : own_h32 w = 0
  · have e : f20 w = 32 + f21 w.toInt32 := by unfold f20; rw [if_pos (show w20_0 w = 0 from c)]
    have z : ∀ i, 32 ≤ i → w.toBitVec.getLsbD i = false := fun i hi => by
      rcases Nat.lt_or_ge i 64 with h64 | h64
      · have r := own_hi32 w (i - 32)
        rw [c, show 32 + (i - 32) = i by omega] at r
        simpa [show i - 32 < 32 by omega] using r.symm
      · exact BitVec.getLsbD_of_ge _ _ h64
    have hh : w.toInt32 ≠ 0 := fun q => h (by
      apply Int64.toBitVec_inj.mp
      apply BitVec.eq_of_getLsbD_eq
      intro i hi
      rcases Nat.lt_or_ge i 32 with h32 | h32
      · have r := own_lo32 w i
        rw [q] at r
        simpa [h32] using r.symm
      · rw [z i h32]; simp)
    obtain ⟨t, ht, e1, e2, e3⟩ := own_lz32 _ hh
    refine ⟨t, by omega, ?_, ?_, fun i hi => ?_⟩
    · rw [e, e1, show 63 - t = 32 + (31 - t) by omega, Int32.ofNat_add]; rfl
    · rw [own_lo32] at e2; simpa [ht] using e2
    · rcases Nat.lt_or_ge i 32 with h32 | h32
      · have r := e3 i hi
        rw [own_lo32] at r; simpa [h32] using r
      · exact z i h32
  · have e : f20 w = f21 (own_h32 w) := by unfold f20; rw [if_neg (show ¬ w20_0 w = 0 from c)]; rfl
    obtain ⟨t, ht, e1, e2, e3⟩ := own_lz32 _ c
    refine ⟨32 + t, by omega, by rw [e, e1]; congr 1; omega, ?_, fun i hi => ?_⟩
    · rw [own_hi32] at e2; simpa [ht] using e2
    · rcases Nat.lt_or_ge i 64 with h64 | h64
      · have r := e3 (i - 32) (by omega)
        rw [own_hi32, show 32 + (i - 32) = i by omega] at r
        simpa [show i - 32 < 32 by omega] using r
      · exact BitVec.getLsbD_of_ge _ _ h64
def own_Bt (w : Nat → Int64) (k : Nat) : Bool := (w (k / 64)).toBitVec.getLsbD (k % 64)
theorem own_t1 : ∀ i : Fin 64, ((1 : Int64) <<< ((Int32.ofNat i) &&& 0x3f).toInt64).toBitVec = BitVec.twoPow 64 i.val := by decide +kernel
theorem own_t2 : ∀ i : Fin 64, (own_hi (Int32.ofNat i)).toBitVec = BitVec.allOnes 64 <<< i.val := by decide +kernel
theorem own_t3 : ∀ i : Fin 64, (own_lo (Int32.ofNat i)).toBitVec = BitVec.allOnes 64 >>> (63 - i.val) := by decide +kernel
theorem own_one (v : Int64) {i : Nat} (h : i < 64) : v &&& ((1 : Int64) <<< ((Int32.ofNat i) &&& 0x3f).toInt64) = 0 ↔ v.toBitVec.getLsbD i = false := by
  rw [← Int64.toBitVec_inj, Int64.toBitVec_and, own_t1 ⟨i, h⟩, BitVec.and_twoPow]
  simp only
  cases q : v.toBitVec.getLsbD i with
  | false => simp
  | true =>
    simp only [if_true]
    constructor
    · intro e
      have := congrArg (fun z => z.getLsbD i) e
      simp [h] at this
    · intro e; cases e
theorem own_hib (v : Int64) {s : Nat} (h : s < 64) (j : Nat) : (v &&& own_hi (Int32.ofNat s)).toBitVec.getLsbD j = (v.toBitVec.getLsbD j && decide (s ≤ j)) := by
  rw [Int64.toBitVec_and, own_t2 ⟨s, h⟩, BitVec.getLsbD_and, BitVec.getLsbD_shiftLeft, BitVec.getLsbD_allOnes]
  rcases Nat.lt_or_ge j 64 with hj | hj
  · by_cases c : s ≤ j
    · simp [hj, c, show ¬ j < s by omega, show j - s < 64 by omega]
    · simp [hj, c, show j < s by omega]
  · rw [BitVec.getLsbD_of_ge _ _ hj]; simp
theorem own_lob (v : Int64) {s : Nat} (h : s < 64) (j : Nat) : (v &&& own_lo (Int32.ofNat s)).toBitVec.getLsbD j = (v.toBitVec.getLsbD j && decide (j ≤ s)) := by
  rw [Int64.toBitVec_and, own_t3 ⟨s, h⟩, BitVec.getLsbD_and, BitVec.getLsbD_ushiftRight, BitVec.getLsbD_allOnes]
  congr 1
  simp only [decide_eq_decide]; omega
theorem own_nz {v : Int64} {i : Nat} (h : v.toBitVec.getLsbD i = true) : v ≠ 0 := fun e => by
  rw [e] at h; simp at h
theorem own_zb {v : Int64} (h : v = 0) (i : Nat) : v.toBitVec.getLsbD i = false := by rw [h]; simp
/-- what holds of a variable's bounds and words -/
def own_BI (lo hi : Int32) (w : Nat → Int64) (nW : Nat) : Prop := 0 ≤ lo.toInt ∧ nW ≤ 2 ∧ hi.toInt < 64 * nW ∧ lo.toInt ≤ 64 * nW ∧ (lo.toInt ≤ hi.toInt → own_Bt w lo.toInt.toNat = true ∧ own_Bt w hi.toInt.toNat = true)
section
variable {lo hi : Int32} {w : Nat → Int64} {nW : Nat}
theorem own_BI.l0 (I : own_BI lo hi w nW) : 0 ≤ lo.toInt := I.1
theorem own_BI.n2 (I : own_BI lo hi w nW) : nW ≤ 2 := I.2.1
theorem own_BI.hn (I : own_BI lo hi w nW) : hi.toInt < 64 * nW := I.2.2.1
theorem own_BI.lh (I : own_BI lo hi w nW) : lo.toInt ≤ 64 * nW := I.2.2.2.1
theorem own_BI.bl (I : own_BI lo hi w nW) : lo.toInt ≤ hi.toInt → own_Bt w lo.toInt.toNat = true ∧ own_Bt w hi.toInt.toNat = true := I.2.2.2.2
end
theorem own_ofN {a : Int32} {n : Nat} (h : a.toInt = n) : a = Int32.ofNat n := by
  have := Int32.toInt_lt a
  rw [← Int32.toInt_inj, Int32.toInt_ofNat_of_lt (by omega), h]
theorem own_toI {n : Nat} (h : n < 2 ^ 31) : (Int32.ofNat n).toInt = n := Int32.toInt_ofNat_of_lt h
theorem own_nxB {S lo hi : Int32} {w : Nat → Int64} {nW : Nat} (I : own_BI lo hi w nW) (hS : ¬ S < lo) :
    (¬ hi < S → ¬ own_J S < 0 ∧ (own_J S).toNatClampNeg < nW) ∧ (¬ hi < S → w (own_J S).toNatClampNeg &&& own_hi S = 0 → ¬ own_J S + 1 < 0 ∧ (own_J S + 1).toNatClampNeg < nW) ∧ (¬ hi < S → w (own_J S).toNatClampNeg &&& own_hi S = 0 → ¬ w (own_J S + 1).toNatClampNeg = 0) ∧
    (hi < S → own_nx S hi w = -1) ∧ (¬ hi < S → ∃ r : Nat, own_nx S hi w = Int32.ofNat r ∧ S.toInt ≤ r ∧ (r : Int) ≤ hi.toInt ∧ own_Bt w r = true ∧ ∀ k : Nat, S.toInt ≤ k → k < r → own_Bt w k = false) := by
  by_cases c : hi < S
  · refine ⟨fun h => absurd c h, fun h => absurd c h, fun h => absurd c h, fun _ => ?_, fun h => absurd c h⟩
    unfold own_nx; rw [if_pos c]
  have c0 := c
  rw [Int32.lt_iff_toInt_lt] at hS c
  have l0 := I.l0; have n2 := I.n2; have hn := I.hn
  obtain ⟨-, bh⟩ := I.bl (by omega)
  obtain ⟨n, en⟩ : ∃ n : Nat, S.toInt = n := ⟨S.toInt.toNat, by omega⟩
  obtain ⟨h, eh⟩ : ∃ h : Nat, hi.toInt = h := ⟨hi.toInt.toNat, by omega⟩
  rw [eh, Int.toNat_natCast] at bh
  obtain rfl := own_ofN en
  obtain ⟨a1, a2, a3, a4, a5, a6, -⟩ := own_tA ⟨n, by omega⟩
  simp only at a1 a2 a3 a4 a5 a6
  rw [a2, a6, a4]
  have hbit : ∀ j, (w (n / 64) &&& own_hi (Int32.ofNat (n % 64))).toBitVec.getLsbD j = ((w (n / 64)).toBitVec.getLsbD j && decide (n % 64 ≤ j)) := own_hib _ (by omega)
  have zero : w (n / 64) &&& own_hi (Int32.ofNat (n % 64)) = 0 → n / 64 = 0 ∧ h / 64 = 1 := by
    intro e
    rcases Nat.lt_or_ge (n / 64) (h / 64) with g | g
    · omega
    · have := hbit (h % 64)
      rw [own_zb e] at this
      unfold own_Bt at bh
      rw [show h / 64 = n / 64 by omega] at bh
      rw [bh] at this
      simp at this; omega
  have tab : ∀ q : Fin 2, ∀ t : Fin 64, (Int32.ofNat q.val <<< ((6 : Int32) &&& 31)) + Int32.ofNat t.val = Int32.ofNat (64 * q.val + t.val) := by decide +kernel
  refine ⟨fun _ => ⟨a3, by omega⟩, fun _ e => ⟨a5, by have := zero e; omega⟩, fun _ e => ?_, fun q => absurd q c0, fun _ => ?_⟩
  · have z := zero e
    rw [z.1]; unfold own_Bt at bh; rw [z.2] at bh; exact own_nz bh
  · unfold own_nx
    rw [if_neg c0, a2, a6, a4]
    by_cases e : w (n / 64) &&& own_hi (Int32.ofNat (n % 64)) = 0
    · have z := zero e
      rw [if_pos e]
      rw [z.1] at e ⊢
      unfold own_Bt at bh; rw [z.2] at bh
      obtain ⟨t, ht, e1, e2, e3⟩ := own_tz _ (own_nz bh)
      have th : t ≤ h % 64 := by
        rcases Nat.lt_or_ge (h % 64) t with g | g
        · rw [e3 _ g] at bh; cases bh
        · exact g
      refine ⟨64 + t, ?_, by rw [en]; omega, by rw [eh]; omega, ?_, fun k k1 k2 => ?_⟩
      · rw [a1, z.1, e1, show Int32.ofNat 0 + 1 = Int32.ofNat 1 from rfl]; exact tab 1 ⟨t, ht⟩
      · unfold own_Bt; rw [show (64 + t) / 64 = 1 by omega, show (64 + t) % 64 = t by omega]; exact e2
      · unfold own_Bt
        rw [en] at k1
        rcases Nat.lt_or_ge k 64 with g | g
        · have := hbit (k % 64)
          rw [z.1, own_zb e] at this
          rw [show k / 64 = 0 by omega]
          simpa [show n % 64 ≤ k % 64 by omega] using this.symm
        · rw [show k / 64 = 1 by omega]; exact e3 _ (by omega)
    · rw [if_neg e]
      obtain ⟨t, ht, e1, e2, e3⟩ := own_tz _ e
      have tb := hbit t
      rw [e2] at tb
      have tb' := tb.symm
      rw [Bool.and_eq_true, decide_eq_true_eq] at tb'
      have th : h / 64 = n / 64 → t ≤ h % 64 := by
        intro q
        rcases Nat.lt_or_ge (h % 64) t with g | g
        · have := e3 _ g
          rw [hbit] at this
          unfold own_Bt at bh
          rw [q] at bh
          rw [bh] at this
          simp at this; omega
        · exact g
      refine ⟨64 * (n / 64) + t, ?_, by rw [en]; omega, ?_, ?_, fun k k1 k2 => ?_⟩
      · rw [a1, e1]; exact tab ⟨n / 64, by omega⟩ ⟨t, ht⟩
      · rw [eh]
        rcases Nat.lt_or_ge (n / 64) (h / 64) with g | g
        · omega
        · have := th (by omega); omega
      · unfold own_Bt; rw [show (64 * (n / 64) + t) / 64 = n / 64 by omega, show (64 * (n / 64) + t) % 64 = t by omega]; exact tb'.1
      · unfold own_Bt
        rw [en] at k1
        have kq : k / 64 = n / 64 := by omega
        have := e3 (k % 64) (by omega)
        rw [hbit] at this
        rw [kq]
        simpa [show n % 64 ≤ k % 64 by omega] using this
theorem own_pvB {S lo hi : Int32} {w : Nat → Int64} {nW : Nat} (I : own_BI lo hi w nW) (hS : ¬ hi < S) :
    (¬ S < lo → ¬ own_J S < 0 ∧ (own_J S).toNatClampNeg < nW) ∧ (¬ S < lo → w (own_J S).toNatClampNeg &&& own_lo S = 0 → ¬ own_J S + -1 < 0 ∧ (own_J S + -1).toNatClampNeg < nW) ∧ (¬ S < lo → w (own_J S).toNatClampNeg &&& own_lo S = 0 → ¬ w (own_J S + -1).toNatClampNeg = 0) ∧
    (S < lo → own_pv S lo w = -1) ∧ (¬ S < lo → ∃ r : Nat, own_pv S lo w = Int32.ofNat r ∧ lo.toInt ≤ r ∧ (r : Int) ≤ S.toInt ∧ own_Bt w r = true ∧ ∀ k : Nat, r < k → (k : Int) ≤ S.toInt → own_Bt w k = false) := by
  by_cases c : S < lo
  · refine ⟨fun h => absurd c h, fun h => absurd c h, fun h => absurd c h, fun _ => ?_, fun h => absurd c h⟩
    unfold own_pv; rw [if_pos c]
  have c0 := c
  rw [Int32.lt_iff_toInt_lt] at hS c
  have l0 := I.l0; have n2 := I.n2; have hn := I.hn
  obtain ⟨bh, -⟩ := I.bl (by omega)
  obtain ⟨n, en⟩ : ∃ n : Nat, S.toInt = n := ⟨S.toInt.toNat, by omega⟩
  obtain ⟨h, eh⟩ : ∃ h : Nat, lo.toInt = h := ⟨lo.toInt.toNat, by omega⟩
  rw [eh, Int.toNat_natCast] at bh
  obtain rfl := own_ofN en
  obtain ⟨a1, a2, a3, -, -, -, a7, -⟩ := own_tA ⟨n, by omega⟩
  have b1 := own_tB ⟨n, by omega⟩
  simp only at a1 a2 a3 a7 b1
  rw [a2, a7]
  have hbit : ∀ j, (w (n / 64) &&& own_lo (Int32.ofNat (n % 64))).toBitVec.getLsbD j = ((w (n / 64)).toBitVec.getLsbD j && decide (j ≤ n % 64)) := own_lob _ (by omega)
  have zero : w (n / 64) &&& own_lo (Int32.ofNat (n % 64)) = 0 → n / 64 = 1 ∧ h / 64 = 0 := by
    intro e
    rcases Nat.lt_or_ge (h / 64) (n / 64) with g | g
    · omega
    · have := hbit (h % 64)
      rw [own_zb e] at this
      unfold own_Bt at bh
      rw [show h / 64 = n / 64 by omega] at bh
      rw [bh] at this
      simp at this; omega
  have tab : ∀ q : Fin 2, ∀ t : Fin 64, ((Int32.ofNat q.val <<< ((6 : Int32) &&& 31)) + 63) - Int32.ofNat (63 - t.val) = Int32.ofNat (64 * q.val + t.val) := by decide +kernel
  have z0 : (Int32.ofNat 1 + -1 : Int32) = Int32.ofNat 0 := by decide
  refine ⟨fun _ => ⟨a3, by omega⟩, fun _ e => ?_, fun _ e => ?_, fun q => absurd q c0, fun _ => ?_⟩
  · have z := zero e
    have b := b1 (by omega)
    exact ⟨b.2, by rw [b.1]; omega⟩
  · have z := zero e
    have b := b1 (by omega)
    rw [b.1, z.1]; unfold own_Bt at bh; rw [z.2] at bh; exact own_nz bh
  · unfold own_pv
    rw [if_neg c0, a2, a7]
    by_cases e : w (n / 64) &&& own_lo (Int32.ofNat (n % 64)) = 0
    · have z := zero e
      have b := b1 (by omega)
      rw [if_pos e, b.1, z.1]
      unfold own_Bt at bh; rw [z.2] at bh
      obtain ⟨t, ht, e1, e2, e3⟩ := own_lz _ (own_nz bh)
      have th : h % 64 ≤ t := by
        rcases Nat.lt_or_ge t (h % 64) with g | g
        · rw [e3 _ g] at bh; cases bh
        · exact g
      refine ⟨t, ?_, by rw [eh]; omega, by rw [en]; omega, ?_, fun k k1 k2 => ?_⟩
      · rw [a1, z.1, z0]
        show _ - f20 (w 0) = _
        rw [e1]; have := tab 0 ⟨t, ht⟩; simpa using this
      · unfold own_Bt; rw [show t / 64 = 0 by omega, show t % 64 = t by omega]; exact e2
      · unfold own_Bt
        rw [en] at k2
        rcases Nat.lt_or_ge k 64 with g | g
        · rw [show k / 64 = 0 by omega]; exact e3 _ (by omega)
        · have := hbit (k % 64)
          rw [own_zb e, z.1] at this
          rw [show k / 64 = 1 by omega]
          simpa [show k % 64 ≤ n % 64 by omega] using this.symm
    · rw [if_neg e]
      obtain ⟨t, ht, e1, e2, e3⟩ := own_lz _ e
      have tb := hbit t
      rw [e2] at tb
      have tb' := tb.symm
      rw [Bool.and_eq_true, decide_eq_true_eq] at tb'
      have th : h / 64 = n / 64 → h % 64 ≤ t := by
        intro q
        rcases Nat.lt_or_ge t (h % 64) with g | g
        · have := e3 _ g
          rw [hbit] at this
          unfold own_Bt at bh
          rw [q] at bh
          rw [bh] at this
          simp at this; omega
        · exact g
      refine ⟨64 * (n / 64) + t, ?_, ?_, by rw [en]; omega, ?_, fun k k1 k2 => ?_⟩
      · rw [a1, e1]; exact tab ⟨n / 64, by omega⟩ ⟨t, ht⟩
      · rw [eh]
        rcases Nat.lt_or_ge (h / 64) (n / 64) with g | g
        · omega
        · have := th (by omega); omega
      · unfold own_Bt; rw [show (64 * (n / 64) + t) / 64 = n / 64 by omega, show (64 * (n / 64) + t) % 64 = t by omega]; exact tb'.1
      · unfold own_Bt
        rw [en] at k2
        have kq : k / 64 = n / 64 := by omega
        have := e3 (k % 64) (by omega)
        rw [hbit] at this
        rw [kq]
        simpa [show k % 64 ≤ n % 64 by omega] using this
def own_pk (lo hi : Int32) : Int64 := (((lo.toInt64) <<< ((32 : Int32) &&& 0x3f).toInt64) ||| ((hi.toInt64) &&& (4294967295 : Int64)))
theorem own_unhi (lo hi : Int32) : (own_pk lo hi).toInt32 = hi := by
  apply Int32.toBitVec_inj.mp
  apply BitVec.eq_of_getLsbD_eq
  intro i h
  rw [own_lo32]
  unfold own_pk
  rw [Int64.toBitVec_or, Int64.toBitVec_and, BitVec.getLsbD_or, BitVec.getLsbD_and]
  have e1 : ((lo.toInt64) <<< ((32 : Int32) &&& 0x3f).toInt64).toBitVec = lo.toInt64.toBitVec <<< (32 : Nat) := rfl
  have e2 : ∀ i : Fin 32, (4294967295 : Int64).toBitVec.getLsbD i = true := by decide +kernel
  have e3 : hi.toInt64.toBitVec.getLsbD i = hi.toBitVec.getLsbD i := by
    show (hi.toBitVec.signExtend 64).getLsbD i = _
    rw [BitVec.getLsbD_signExtend]; simp [show i < 64 by omega, h]
  rw [e1, BitVec.getLsbD_shiftLeft, e2 ⟨i, h⟩, e3]
  simp [h]
theorem own_unlo (lo hi : Int32) : ((own_pk lo hi) >>> ((32 : Int32) &&& 0x3f).toInt64).toInt32 = lo := by
  apply Int32.toBitVec_inj.mp
  apply BitVec.eq_of_getLsbD_eq
  intro i h
  rw [own_lo32]
  have e0 : ((own_pk lo hi) >>> ((32 : Int32) &&& 0x3f).toInt64).toBitVec = (own_pk lo hi).toBitVec.sshiftRight 32 := rfl
  rw [e0, BitVec.getLsbD_sshiftRight]
  unfold own_pk
  rw [Int64.toBitVec_or, Int64.toBitVec_and]
  have e1 : ((lo.toInt64) <<< ((32 : Int32) &&& 0x3f).toInt64).toBitVec = lo.toInt64.toBitVec <<< (32 : Nat) := rfl
  have e2 : ∀ i : Fin 32, (4294967295 : Int64).toBitVec.getLsbD (32 + i) = false := by decide +kernel
  have e3 : lo.toInt64.toBitVec.getLsbD i = lo.toBitVec.getLsbD i := by
    show (lo.toBitVec.signExtend 64).getLsbD i = _
    rw [BitVec.getLsbD_signExtend]; simp [show i < 64 by omega, h]
  have e4 := e2 ⟨i, h⟩
  simp only at e4
  simp only [show 32 + i < 64 by omega, if_true, BitVec.getLsbD_or, BitVec.getLsbD_and, e4, Bool.and_false, Bool.or_false, e1, BitVec.getLsbD_shiftLeft]
  have e5 : (BitVec.signExtend 64 lo.toBitVec).getLsbD i = lo.toBitVec.getLsbD i := e3
  simp [h, show 32 + i < 64 by omega, show ¬ (32 + i < 32) by omega, show ¬ (64 ≤ i) by omega, e5]
theorem own_upup {α : Type} {f : Nat → α} {i : Nat} {a : α} : up (up f i a) i (f i) = f := by
  funext k; unfold up; split
  · next h => rw [h]
  · rfl
theorem own_upo {α : Type} {f : Nat → α} {i j : Nat} {a : α} (h : j ≠ i) : up f i a j = f j := by unfold up; rw [if_neg h]
/-- what an operation on variable x leaves on the trail -/
def own_U (x : Nat) (xi tl : Int32) (nW : Nat) (lF hF sF : Nat → Int32) (wF : Nat → Int64) (tv tw : Nat → Int32) (ts : Nat → Int64) (tz : Nat → Int32) (tl' : Int32) (lF' hF' sF' : Nat → Int32) (wF' : Nat → Int64) (tv' tw' : Nat → Int32) (ts' : Nat → Int64) (tz' : Nat → Int32) : Prop :=
  (tl' = tl ∧ lF' = lF ∧ hF' = hF ∧ sF' = sF ∧ wF' = wF ∧ tv' = tv ∧ tw' = tw ∧ ts' = ts ∧ tz' = tz) ∨
  (tl' = tl + 1 ∧ tv' = up tv tl.toNatClampNeg xi ∧ tz' = up tz tl.toNatClampNeg (sF x) ∧ (∃ c, sF' = up sF x c) ∧
    ((tw' = up tw tl.toNatClampNeg (-1) ∧ ts' = up ts tl.toNatClampNeg (own_pk (lF x) (hF x)) ∧ wF' = wF ∧ (∃ a, lF' = up lF x a) ∧ ∃ b, hF' = up hF x b) ∨
     ∃ j : Int32, (¬ j < 0 ∧ j.toNatClampNeg < nW) ∧ tw' = up tw tl.toNatClampNeg j ∧ ts' = up ts tl.toNatClampNeg (wF j.toNatClampNeg) ∧ lF' = lF ∧ hF' = hF ∧ ∃ b, wF' = up wF j.toNatClampNeg b))
/-- the state that undo brings back -/
def own_S : Type := (Nat → Int32) × (Nat → Int32) × (Nat → Int32) × (Nat → Int64) × (Nat → Int64)
def own_S.mk (l h s : Nat → Int32) (w0 w1 : Nat → Int64) : own_S := (l, h, s, w0, w1)
def own_S.l (S : own_S) : Nat → Int32 := S.1
def own_S.h (S : own_S) : Nat → Int32 := S.2.1
def own_S.s (S : own_S) : Nat → Int32 := S.2.2.1
def own_S.w0 (S : own_S) : Nat → Int64 := S.2.2.2.1
def own_S.w1 (S : own_S) : Nat → Int64 := S.2.2.2.2
/-- one turn of undo -/
def own_un (tv tw : Nat → Int32) (ts : Nat → Int64) (tz : Nat → Int32) (t : Nat) (S : own_S) : own_S :=
  if tw t = -1 then own_S.mk (up S.l (tv t).toNatClampNeg (((ts t) >>> ((32 : Int32) &&& 0x3f).toInt64).toInt32)) (up S.h (tv t).toNatClampNeg ((ts t).toInt32)) (up S.s (tv t).toNatClampNeg (tz t)) S.w0 S.w1
  else if tv t = 0 then own_S.mk S.l S.h (up S.s (tv t).toNatClampNeg (tz t)) (up S.w0 (tw t).toNatClampNeg (ts t)) S.w1
  else own_S.mk S.l S.h (up S.s (tv t).toNatClampNeg (tz t)) S.w0 (up S.w1 (tw t).toNatClampNeg (ts t))
def own_uns (tv tw : Nat → Int32) (ts : Nat → Int64) (tz : Nat → Int32) (m : Nat) : Nat → own_S → own_S
  | 0, S => S
  | k + 1, S => own_uns tv tw ts tz m k (own_un tv tw ts tz (m + k) S)
/-- an entry that undo can read -/
def own_ok (tv tw : Nat → Int32) (n0 n1 t : Nat) : Prop := (tv t = 0 ∨ tv t = 1) ∧ (tw t = -1 ∨ (¬ tw t < 0 ∧ (tw t).toNatClampNeg < if tv t = 0 then n0 else n1))
theorem own_uns_congr {tv tw tv' tw' : Nat → Int32} {ts ts' : Nat → Int64} {tz tz' : Nat → Int32} {m : Nat} : ∀ {k : Nat} {S : own_S}, (∀ i, i < m + k → tv' i = tv i ∧ tw' i = tw i ∧ ts' i = ts i ∧ tz' i = tz i) → own_uns tv' tw' ts' tz' m k S = own_uns tv tw ts tz m k S
  | 0, S, _ => rfl
  | k + 1, S, h => by
    obtain ⟨a, b, c, d⟩ := h (m + k) (by omega)
    show own_uns tv' tw' ts' tz' m k (own_un tv' tw' ts' tz' (m + k) S) = own_uns tv tw ts tz m k (own_un tv tw ts tz (m + k) S)
    rw [own_uns_congr (fun i hi => h i (by omega))]
    unfold own_un; rw [a, b, c, d]
/-- the trail brings S back to S0 -/
def own_Tr (n0 n1 m kk : Nat) (tl : Int32) (tv tw : Nat → Int32) (ts : Nat → Int64) (tz : Nat → Int32) (S S0 : own_S) : Prop :=
  ∃ k, k ≤ kk ∧ tl = Int32.ofNat (m + k) ∧ (∀ i, m ≤ i → i < m + k → own_ok tv tw n0 n1 i) ∧ own_uns tv tw ts tz m k S = S0
theorem own_n32 {i : Nat} (h : i < 2 ^ 31) : (Int32.ofNat i).toNatClampNeg = i := by
  rw [Int32.toNatClampNeg, Int32.toInt_ofNat_of_lt h]; simp
theorem own_Tr.push {n0 n1 m kk : Nat} {tl tl' : Int32} {tv tw tv' tw' : Nat → Int32} {ts ts' : Nat → Int64} {tz tz' : Nat → Int32} {S S' S0 : own_S} (hm : m + kk < 1000) (h : own_Tr n0 n1 m kk tl tv tw ts tz S S0)
    (u : (S'.w1 = S.w1 ∧ own_U 0 0 tl n0 S.l S.h S.s S.w0 tv tw ts tz tl' S'.l S'.h S'.s S'.w0 tv' tw' ts' tz') ∨ (S'.w0 = S.w0 ∧ own_U 1 1 tl n1 S.l S.h S.s S.w1 tv tw ts tz tl' S'.l S'.h S'.s S'.w1 tv' tw' ts' tz')) : own_Tr n0 n1 m (kk + 1) tl' tv' tw' ts' tz' S' S0 := by
  obtain ⟨k, hk, rfl, ok, e⟩ := h
  have nn : (Int32.ofNat (m + k)).toNatClampNeg = m + k := own_n32 (by omega)
  have inc : (Int32.ofNat (m + k)) + 1 = Int32.ofNat (m + (k + 1)) := (Int32.ofNat_add (m + k) 1).symm
  obtain ⟨l, h, s, w0, w1⟩ := S
  obtain ⟨l', h', s', w0', w1'⟩ := S'
  simp only [own_S.l, own_S.h, own_S.s, own_S.w0, own_S.w1] at u
  have z1 : (0 : Int32).toNatClampNeg = 0 := rfl
  have z2 : (1 : Int32).toNatClampNeg = 1 := rfl
  have lw : ∀ {α : Type} (f : Nat → α) (v : α) (i : Nat), i < m + k → up f (m + k) v i = f i := fun f v i hi => own_upo (by omega)
  rcases u with ⟨rfl, u⟩ | ⟨rfl, u⟩
  · rcases u with ⟨rfl, rfl, rfl, rfl, rfl, rfl, rfl, rfl, rfl⟩ | ⟨rfl, rfl, rfl, ⟨c, rfl⟩, u⟩
    · exact ⟨k, by omega, rfl, ok, e⟩
    · rw [nn] at u ⊢
      refine ⟨k + 1, by omega, inc, ?_, ?_⟩
      · intro i h1 h2
        unfold own_ok
        by_cases c' : i = m + k
        · rw [c', own_up]
          refine ⟨Or.inl rfl, ?_⟩
          rcases u with ⟨rfl, -⟩ | ⟨j, hj, rfl, -⟩
          · exact Or.inl own_up
          · rw [own_up]; exact Or.inr (by rw [if_pos rfl]; exact hj)
        · have o := ok i h1 (by omega)
          unfold own_ok at o
          rw [own_upo c']
          rcases u with ⟨rfl, -⟩ | ⟨j, hj, rfl, -⟩ <;> rw [own_upo c'] <;> exact o
      · show own_uns _ _ _ _ m k (own_un _ _ _ _ (m + k) _) = S0
        rcases u with ⟨rfl, rfl, rfl, ⟨a, rfl⟩, ⟨b, rfl⟩⟩ | ⟨j, ⟨hj1, hj2⟩, rfl, rfl, rfl, rfl, b, rfl⟩
        · rw [own_uns_congr (fun i hi => ⟨lw _ _ i hi, lw _ _ i hi, lw _ _ i hi, lw _ _ i hi⟩)]
          unfold own_un
          rw [if_pos own_up]
          simp only [own_up, own_unlo, own_unhi, z1, own_upup, own_S.l, own_S.h, own_S.s, own_S.w0, own_S.w1, own_S.mk]
          exact e
        · rw [own_uns_congr (fun i hi => ⟨lw _ _ i hi, lw _ _ i hi, lw _ _ i hi, lw _ _ i hi⟩)]
          unfold own_un
          rw [if_neg (by rw [own_up]; intro q; rw [q] at hj1; exact hj1 (by decide)), if_pos own_up]
          simp only [own_up, z1, own_upup, own_S.l, own_S.h, own_S.s, own_S.w0, own_S.w1, own_S.mk]
          exact e
  · rcases u with ⟨rfl, rfl, rfl, rfl, rfl, rfl, rfl, rfl, rfl⟩ | ⟨rfl, rfl, rfl, ⟨c, rfl⟩, u⟩
    · exact ⟨k, by omega, rfl, ok, e⟩
    · rw [nn] at u ⊢
      refine ⟨k + 1, by omega, inc, ?_, ?_⟩
      · intro i h1 h2
        unfold own_ok
        by_cases c' : i = m + k
        · rw [c', own_up]
          refine ⟨Or.inr rfl, ?_⟩
          rcases u with ⟨rfl, -⟩ | ⟨j, hj, rfl, -⟩
          · exact Or.inl own_up
          · rw [own_up]; exact Or.inr (by rw [if_neg (by decide)]; exact hj)
        · have o := ok i h1 (by omega)
          unfold own_ok at o
          rw [own_upo c']
          rcases u with ⟨rfl, -⟩ | ⟨j, hj, rfl, -⟩ <;> rw [own_upo c'] <;> exact o
      · show own_uns _ _ _ _ m k (own_un _ _ _ _ (m + k) _) = S0
        rcases u with ⟨rfl, rfl, rfl, ⟨a, rfl⟩, ⟨b, rfl⟩⟩ | ⟨j, ⟨hj1, hj2⟩, rfl, rfl, rfl, rfl, b, rfl⟩
        · rw [own_uns_congr (fun i hi => ⟨lw _ _ i hi, lw _ _ i hi, lw _ _ i hi, lw _ _ i hi⟩)]
          unfold own_un
          rw [if_pos own_up]
          simp only [own_up, own_unlo, own_unhi, z2, own_upup, own_S.l, own_S.h, own_S.s, own_S.w0, own_S.w1, own_S.mk]
          exact e
        · rw [own_uns_congr (fun i hi => ⟨lw _ _ i hi, lw _ _ i hi, lw _ _ i hi, lw _ _ i hi⟩)]
          unfold own_un
          rw [if_neg (by rw [own_up]; intro q; rw [q] at hj1; exact hj1 (by decide)), if_neg (by rw [own_up]; decide)]
          simp only [own_up, z2, own_upup, own_S.l, own_S.h, own_S.s, own_S.w0, own_S.w1, own_S.mk]
          exact e
/-- how many variables are noted as changed -/
def own_NC (ic : Nat → Int32) (cc : Int32) : Prop := cc = (if ic 0 = 0 then 0 else 1) + (if ic 1 = 0 then 0 else 1)
theorem own_NC.lt {ic : Nat → Int32} {cc : Int32} {x : Int32} (h : own_NC ic cc) (hx : x = 0 ∨ x = 1) (q : ic x.toNatClampNeg = 0) : ¬ cc < 0 ∧ cc.toNatClampNeg < 2 := by
  unfold own_NC at h
  rcases hx with rfl | rfl
  · rw [if_pos (show ic 0 = 0 from q)] at h; rw [h]; split <;> decide
  · rw [if_pos (show ic 1 = 0 from q)] at h; rw [h]; split <;> decide
theorem own_NC.up {ic : Nat → Int32} {cc : Int32} {x : Int32} (h : own_NC ic cc) (hx : x = 0 ∨ x = 1) (q : ic x.toNatClampNeg = 0) : own_NC (up ic x.toNatClampNeg 1) (cc + 1) := by
  unfold own_NC at h ⊢
  rcases hx with rfl | rfl
  · rw [if_pos (show ic 0 = 0 from q)] at h
    rw [h, show (0 : Int32).toNatClampNeg = 0 from rfl, own_up, own_upo (by decide), if_neg (c := (1 : Int32) = 0) (by decide)]
    split <;> rfl
  · rw [if_pos (show ic 1 = 0 from q)] at h
    rw [h, show (1 : Int32).toNatClampNeg = 1 from rfl, own_up, own_upo (by decide), if_neg (c := (1 : Int32) = 0) (by decide)]
    split <;> rfl
theorem own_cB {lo hi : Int32} {w : Nat → Int64} {nW : Nat} (l0 : 0 ≤ lo.toInt) (n2 : nW ≤ 2) (hn : hi.toInt < 64 * nW) (k : Int32) : own_c lo hi w k = if k < lo then 0 else if hi < k then 0 else if own_Bt w k.toInt.toNat = true then 1 else 0 := by
  unfold own_c
  by_cases a : k < lo
  · rw [if_pos a, if_pos a]
  by_cases b : hi < k
  · rw [if_neg a, if_pos b, if_neg a, if_pos b]
  rw [if_neg a, if_neg b, if_neg a, if_neg b]
  rw [Int32.lt_iff_toInt_lt] at a b
  obtain ⟨n, en⟩ : ∃ n : Nat, k.toInt = n := ⟨k.toInt.toNat, by omega⟩
  obtain rfl := own_ofN en
  obtain ⟨-, a2, -, -, -, -, -, a8⟩ := own_tA ⟨n, by omega⟩
  simp only at a2 a8
  rw [a2, a8, en, Int.toNat_natCast]
  have z := own_one (w (n / 64)) (i := n % 64) (by omega)
  unfold own_Bt
  cases q : (w (n / 64)).toBitVec.getLsbD (n % 64) with
  | false => rw [if_pos (z.mpr q), if_neg (by simp)]
  | true => rw [if_neg (fun e => by rw [z.mp e] at q; cases q), if_pos rfl]
theorem own_inB {a lo hi : Int32} {w : Nat → Int64} {nW : Nat} (I : own_BI lo hi w nW) (h : ¬ own_c lo hi w a = 0) : lo.toInt ≤ a.toInt ∧ a.toInt ≤ hi.toInt ∧ own_Bt w a.toInt.toNat = true := by
  rw [own_cB I.l0 I.n2 I.hn] at h
  by_cases x : a < lo
  · rw [if_pos x] at h; exact absurd rfl h
  by_cases y : hi < a
  · rw [if_neg x, if_pos y] at h; exact absurd rfl h
  by_cases z : own_Bt w a.toInt.toNat = true
  · rw [Int32.lt_iff_toInt_lt] at x y; exact ⟨by omega, by omega, z⟩
  · rw [if_neg x, if_neg y, if_neg z] at h; exact absurd rfl h
theorem own_BI.B {lo hi : Int32} {w : Nat → Int64} {nW : Nat} (I : own_BI lo hi w nW) : own_B lo hi nW := fun x a b => by
  have l0 := I.l0; have n2 := I.n2; have hn := I.hn
  rw [Int32.lt_iff_toInt_lt] at a b
  obtain ⟨n, en⟩ : ∃ n : Nat, x.toInt = n := ⟨x.toInt.toNat, by omega⟩
  obtain rfl := own_ofN en
  obtain ⟨-, a2, a3, -⟩ := own_tA ⟨n, by omega⟩
  simp only at a2 a3
  exact ⟨a3, by rw [a2]; omega⟩
/-- behind the lowest -/
theorem own_nxlow {lo hi : Int32} {w : Nat → Int64} {nW : Nat} (I : own_BI lo hi w nW) (h : lo.toInt ≤ hi.toInt) :
    ((if own_nx (f10 (lo + 1) lo) hi w < 0 then lo + 1 else own_nx (f10 (lo + 1) lo) hi w).toInt = lo.toInt + 1 ∧ lo.toInt = hi.toInt) ∨
    ∃ r : Nat, (if own_nx (f10 (lo + 1) lo) hi w < 0 then lo + 1 else own_nx (f10 (lo + 1) lo) hi w).toInt = r ∧ lo.toInt + 1 ≤ r ∧ (r : Int) ≤ hi.toInt ∧ own_Bt w r = true ∧ ∀ k : Nat, lo.toInt + 1 ≤ k → k < r → own_Bt w k = false := by
  have l0 := I.l0; have n2 := I.n2; have hn := I.hn
  have z5 : (511 : Int32).toInt = 511 := rfl
  have z0 : (0 : Int32).toInt = 0 := rfl
  have sa : (lo + 1).toInt = lo.toInt + 1 := own_a1 (b := 511) (by rw [Int32.lt_iff_toInt_lt, z5]; omega)
  have e8 : f10 (lo + 1) lo = lo + 1 := by unfold f10; rw [if_neg (by rw [Int32.lt_iff_toInt_lt]; omega)]
  have q := own_nxB I (S := lo + 1) (by rw [Int32.lt_iff_toInt_lt]; omega)
  rw [e8]
  by_cases c : hi < lo + 1
  · left
    rw [q.2.2.2.1 c, if_pos (by decide), sa]
    rw [Int32.lt_iff_toInt_lt, sa] at c
    exact ⟨rfl, by omega⟩
  · right
    obtain ⟨r, e1, e2, e3, e4, e5⟩ := q.2.2.2.2 c
    have er : (own_nx (lo + 1) hi w).toInt = r := by rw [e1]; exact own_toI (by omega)
    rw [if_neg (by rw [Int32.lt_iff_toInt_lt, z0, er]; omega)]
    rw [sa] at e2 e5
    exact ⟨r, er, e2, e3, e4, e5⟩
theorem own_pvhigh {lo hi : Int32} {w : Nat → Int64} {nW : Nat} (I : own_BI lo hi w nW) (h : lo.toInt < hi.toInt) :
    ∃ r : Nat, (own_pv (f19 (hi - 1) hi) lo w).toInt = r ∧ lo.toInt ≤ r ∧ (r : Int) ≤ hi.toInt - 1 ∧ own_Bt w r = true ∧ ∀ k : Nat, r < k → (k : Int) ≤ hi.toInt - 1 → own_Bt w k = false := by
  have l0 := I.l0; have n2 := I.n2; have hn := I.hn
  have z0 : (0 : Int32).toInt = 0 := rfl
  have sa : (hi - 1).toInt = hi.toInt - 1 := own_s1 (by rw [Int32.lt_iff_toInt_lt, z0]; omega)
  have e8 : f19 (hi - 1) hi = hi - 1 := by unfold f19; rw [if_neg (by rw [Int32.lt_iff_toInt_lt]; omega)]
  have q := own_pvB I (S := hi - 1) (by rw [Int32.lt_iff_toInt_lt]; omega)
  rw [e8]
  obtain ⟨r, e1, e2, e3, e4, e5⟩ := q.2.2.2.2 (by rw [Int32.lt_iff_toInt_lt]; omega)
  have er : (own_pv (hi - 1) lo w).toInt = r := by rw [e1]; exact own_toI (by rw [sa] at e3; omega)
  rw [sa] at e3 e5
  exact ⟨r, er, e2, e3, e4, e5⟩
theorem own_t4 : ∀ i : Fin 64, (((1 : Int64) <<< ((Int32.ofNat i) &&& 0x3f).toInt64) ^^^ (-1 : Int64)).toBitVec = ~~~ (BitVec.twoPow 64 i.val) := by decide +kernel
def own_clr (w : Nat → Int64) (a : Int32) : Nat → Int64 := up w (own_J a).toNatClampNeg (w (own_J a).toNatClampNeg &&& (((1 : Int64) <<< (a &&& 0x3f).toInt64) ^^^ (-1 : Int64)))
theorem own_Btc {w : Nat → Int64} {a : Int32} {n : Nat} (h : a.toInt = n) (hn : n < 128) (k : Nat) : own_Bt (own_clr w a) k = (own_Bt w k && decide (k ≠ n)) := by
  obtain rfl := own_ofN h
  obtain ⟨-, a2, -, -, -, -, -, a8⟩ := own_tA ⟨n, by omega⟩
  simp only at a2 a8
  unfold own_clr own_Bt
  rw [a2, a8]
  unfold up
  by_cases c : k / 64 = n / 64
  · rw [if_pos c, Int64.toBitVec_and, own_t4 ⟨n % 64, by omega⟩, BitVec.getLsbD_and, BitVec.getLsbD_not, BitVec.getLsbD_twoPow, ← c]
    congr 1
    have : k % 64 < 64 := by omega
    by_cases q : k = n
    · simp [q] <;> omega
    · simp [q, this] <;> omega
  · rw [if_neg c]
    simp [show k ≠ n by intro q; exact c (by rw [q])]
/-- the first removal out of a full variable of n values -/
def own_X (n : Nat) (a lo' hi' : Int32) (w' : Nat → Int64) : Prop :=
  lo'.toInt = (if a.toInt = 0 then 1 else 0) ∧ hi'.toInt = (if a.toInt = (n : Int) - 1 ∧ a.toInt ≠ 0 then (n : Int) - 2 else (n : Int) - 1) ∧ ∀ k : Int32, own_c lo' hi' w' k = if k.toInt < 0 ∨ (n : Int) ≤ k.toInt ∨ k.toInt = a.toInt then 0 else 1
def own_XX (a lo hi : Int32) (w : Nat → Int64) (sz lo' hi' : Int32) (w' : Nat → Int64) (sz' : Int32) : Prop :=
  ∀ n : Nat, 1 ≤ n → n ≤ 128 → lo.toInt = 0 → hi.toInt = (n : Int) - 1 → (∀ k, k < n → own_Bt w k = true) →
    (0 ≤ a.toInt → a.toInt < n → sz' = sz - 1 ∧ own_X n a lo' hi' w') ∧ (¬ (0 ≤ a.toInt ∧ a.toInt < n) → sz' = sz ∧ lo' = lo ∧ hi' = hi ∧ w' = w)
def own_R14 (x : Nat) (xi a tl : Int32) (nW : Nat) (lF hF sF : Nat → Int32) (wF : Nat → Int64) (tv tw : Nat → Int32) (ts : Nat → Int64) (tz : Nat → Int32) (tl' : Int32) (lF' hF' sF' : Nat → Int32) (wF' : Nat → Int64) (tv' tw' : Nat → Int32) (ts' : Nat → Int64) (tz' : Nat → Int32) : Prop :=
  own_U x xi tl nW lF hF sF wF tv tw ts tz tl' lF' hF' sF' wF' tv' tw' ts' tz' ∧ own_BI (lF' x) (hF' x) wF' nW ∧ own_XX a (lF x) (hF x) wF (sF x) (lF' x) (hF' x) wF' (sF' x)
section
variable {x : Nat} {xi a tl : Int32} {nW : Nat} {lF hF sF : Nat → Int32} {wF : Nat → Int64} {tv tw : Nat → Int32} {ts : Nat → Int64} {tz : Nat → Int32}
theorem own_L1 (I : own_BI (lF x) (hF x) wF nW) (h : own_c (lF x) (hF x) wF a = 0) : own_R14 x xi a tl nW lF hF sF wF tv tw ts tz tl lF hF sF wF tv tw ts tz := by
  refine ⟨Or.inl ⟨rfl, rfl, rfl, rfl, rfl, rfl, rfl, rfl, rfl⟩, I, fun n n1 n2 hl hh full => ⟨fun a0 an => ?_, fun _ => ⟨rfl, rfl, rfl, rfl⟩⟩⟩
  rw [own_cB I.l0 I.n2 I.hn, if_neg (by rw [Int32.lt_iff_toInt_lt]; omega), if_neg (by rw [Int32.lt_iff_toInt_lt]; omega), if_pos (full _ (by omega))] at h
  exact absurd h (by decide)
theorem own_L2 (I : own_BI (lF x) (hF x) wF nW) (h : ¬ own_c (lF x) (hF x) wF a = 0) (e : a = lF x) :
    own_R14 x xi a tl nW lF hF sF wF tv tw ts tz (tl + 1) (up lF x (if own_nx (f10 (a + 1) (lF x)) (hF x) wF < 0 then a + 1 else own_nx (f10 (a + 1) (lF x)) (hF x) wF)) (up hF x (hF x)) (up sF x (sF x - 1)) wF (up tv tl.toNatClampNeg xi) (up tw tl.toNatClampNeg (-1)) (up ts tl.toNatClampNeg (own_pk (lF x) (hF x))) (up tz tl.toNatClampNeg (sF x)) := by
  obtain ⟨i1, i2, i3⟩ := own_inB I h
  refine ⟨Or.inr ⟨rfl, rfl, rfl, ⟨_, rfl⟩, Or.inl ⟨rfl, rfl, rfl, ⟨_, rfl⟩, _, rfl⟩⟩, ?_, ?_⟩
  · rw [own_up, own_up, e]
    have l0 := I.l0
    rcases own_nxlow I (by omega) with ⟨q1, q2⟩ | ⟨r, q1, q2, q3, q4, q5⟩
    · exact ⟨by omega, I.n2, I.hn, by have := I.hn; omega, fun g => by omega⟩
    · exact ⟨by omega, I.n2, I.hn, by have := I.hn; omega, fun g => ⟨by rw [q1, Int.toNat_natCast]; exact q4, (I.bl (by omega)).2⟩⟩
  · rw [own_up, own_up, own_up, e]
    intro n n1 n2 hl hh full
    refine ⟨fun a0 an => ⟨rfl, ?_⟩, fun q => absurd ⟨by omega, by omega⟩ q⟩
    have n22 := I.n2; have hnn := I.hn
    have l1 : (if own_nx (f10 (lF x + 1) (lF x)) (hF x) wF < 0 then lF x + 1 else own_nx (f10 (lF x + 1) (lF x)) (hF x) wF).toInt = 1 := by
      rcases own_nxlow I (by omega) with ⟨q1, q2⟩ | ⟨r, q1, q2, q3, q4, q5⟩
      · omega
      · have : ¬ 1 < r := fun g => by
          have := q5 1 (by omega) g
          rw [full 1 (by omega)] at this; cases this
        omega
    obtain ⟨L, hL⟩ : ∃ z, z = (if own_nx (f10 (lF x + 1) (lF x)) (hF x) wF < 0 then lF x + 1 else own_nx (f10 (lF x + 1) (lF x)) (hF x) wF) := ⟨_, rfl⟩
    rw [← hL] at l1 ⊢
    refine ⟨by rw [l1, hl, if_pos rfl], by rw [hh, hl, if_neg (by omega)], fun k => ?_⟩
    rw [own_cB (by omega) I.n2 I.hn]
    simp only [Int32.lt_iff_toInt_lt, l1, hh, hl]
    by_cases c : k.toInt < 1
    · rw [if_pos c, if_pos (by omega)]
    by_cases d : (n : Int) - 1 < k.toInt
    · rw [if_neg c, if_pos d, if_pos (by omega)]
    rw [if_neg c, if_neg d, if_pos (full _ (by omega)), if_neg (by omega)]
theorem own_L3 (I : own_BI (lF x) (hF x) wF nW) (h : ¬ own_c (lF x) (hF x) wF a = 0) (ne : ¬ a = lF x) (e : a = hF x) :
    own_R14 x xi a tl nW lF hF sF wF tv tw ts tz (tl + 1) (up lF x (lF x)) (up hF x (own_pv (f19 (a - 1) (hF x)) (lF x) wF)) (up sF x (sF x - 1)) wF (up tv tl.toNatClampNeg xi) (up tw tl.toNatClampNeg (-1)) (up ts tl.toNatClampNeg (own_pk (lF x) (hF x))) (up tz tl.toNatClampNeg (sF x)) := by
  obtain ⟨i1, i2, i3⟩ := own_inB I h
  rw [← Int32.toInt_inj] at ne
  have l0 := I.l0
  refine ⟨Or.inr ⟨rfl, rfl, rfl, ⟨_, rfl⟩, Or.inl ⟨rfl, rfl, rfl, ⟨_, rfl⟩, _, rfl⟩⟩, ?_, ?_⟩
  · rw [own_up, own_up, e]
    obtain ⟨r, q1, q2, q3, q4, q5⟩ := own_pvhigh I (by rw [e] at i1 ne; omega)
    have := I.hn
    exact ⟨I.l0, I.n2, by omega, I.lh, fun g => ⟨(I.bl (by omega)).1, by rw [q1, Int.toNat_natCast]; exact q4⟩⟩
  · rw [own_up, own_up, own_up, e]
    rw [e] at ne i1
    intro n n1 n2 hl hh full
    refine ⟨fun a0 an => ⟨rfl, ?_⟩, fun q => absurd ⟨by omega, by omega⟩ q⟩
    have n22 := I.n2; have hnn := I.hn
    obtain ⟨r, q1, q2, q3, q4, q5⟩ := own_pvhigh I (by omega)
    have hr : r = n - 2 := by
      have : ¬ r < n - 2 := fun g => by
        have := q5 (n - 2) g (by omega)
        rw [full _ (by omega)] at this; cases this
      omega
    have h1 : (own_pv (f19 (hF x - 1) (hF x)) (lF x) wF).toInt = (n : Int) - 2 := by omega
    refine ⟨by rw [hl, hh, if_neg (by omega)], by rw [h1, hh, if_pos ⟨rfl, by omega⟩], fun k => ?_⟩
    rw [own_cB (nW := nW) I.l0 I.n2 (by omega)]
    simp only [Int32.lt_iff_toInt_lt, h1, hh, hl]
    by_cases c : k.toInt < 0
    · rw [if_pos c, if_pos (by omega)]
    by_cases d : (n : Int) - 2 < k.toInt
    · rw [if_neg c, if_pos d, if_pos (by omega)]
    rw [if_neg c, if_neg d, if_pos (full _ (by omega)), if_neg (by omega)]
theorem own_L4 (I : own_BI (lF x) (hF x) wF nW) (h : ¬ own_c (lF x) (hF x) wF a = 0) (n1 : ¬ a = lF x) (n2 : ¬ a = hF x) :
    own_R14 x xi a tl nW lF hF sF wF tv tw ts tz (tl + 1) lF hF (up sF x (sF x - 1)) (own_clr wF a) (up tv tl.toNatClampNeg xi) (up tw tl.toNatClampNeg (own_J a)) (up ts tl.toNatClampNeg (wF (own_J a).toNatClampNeg)) (up tz tl.toNatClampNeg (sF x)) := by
  obtain ⟨i1, i2, i3⟩ := own_inB I h
  rw [← Int32.toInt_inj] at n1 n2
  have l0 := I.l0; have n22 := I.n2; have hnn := I.hn
  obtain ⟨m, em⟩ : ∃ m : Nat, a.toInt = m := ⟨a.toInt.toNat, by omega⟩
  have bt := own_Btc (w := wF) em (by omega)
  have jb := I.B a (by rw [Int32.lt_iff_toInt_lt]; omega) (by rw [Int32.lt_iff_toInt_lt]; omega)
  have J0 : own_BI (lF x) (hF x) (own_clr wF a) nW := ⟨I.l0, I.n2, I.hn, I.lh, fun g => by
    have b := I.bl g
    rw [bt, bt, b.1, b.2]; simp only [Bool.true_and, decide_eq_true_eq]; omega⟩
  refine ⟨Or.inr ⟨rfl, rfl, rfl, ⟨_, rfl⟩, Or.inr ⟨own_J a, jb, rfl, rfl, rfl, rfl, _, rfl⟩⟩, J0, ?_⟩
  · rw [own_up]
    intro n m1 m2 hl hh full
    refine ⟨fun a0 an => ⟨rfl, ?_⟩, fun q => absurd ⟨by omega, by omega⟩ q⟩
    refine ⟨by rw [hl, if_neg (by omega)], by rw [hh, if_neg (by omega)], fun k => ?_⟩
    rw [own_cB I.l0 I.n2 I.hn]
    simp only [Int32.lt_iff_toInt_lt, hh, hl]
    by_cases c : k.toInt < 0
    · rw [if_pos c, if_pos (by omega)]
    by_cases d : (n : Int) - 1 < k.toInt
    · rw [if_neg c, if_pos d, if_pos (by omega)]
    rw [if_neg c, if_neg d, bt, full _ (by omega)]
    by_cases e : k.toInt = a.toInt
    · rw [if_pos (Or.inr (Or.inr e)), if_neg (by rw [Bool.true_and, decide_eq_true_eq]; omega)]
    · rw [if_pos (by rw [Bool.true_and, decide_eq_true_eq]; omega), if_neg (by omega)]
/-- what keepWithin and assign leave -/
def own_R6 (x : Nat) (xi tl : Int32) (nW : Nat) (lF hF sF : Nat → Int32) (wF : Nat → Int64) (tv tw : Nat → Int32) (ts : Nat → Int64) (tz : Nat → Int32) (tl' : Int32) (lF' hF' sF' : Nat → Int32) (tv' tw' : Nat → Int32) (ts' : Nat → Int64) (tz' : Nat → Int32) : Prop :=
  own_U x xi tl nW lF hF sF wF tv tw ts tz tl' lF' hF' sF' wF tv' tw' ts' tz' ∧ own_BI (lF' x) (hF' x) wF nW
theorem own_M0 (I : own_BI (lF x) (hF x) wF nW) : own_R6 x xi tl nW lF hF sF wF tv tw ts tz tl lF hF sF tv tw ts tz := ⟨Or.inl ⟨rfl, rfl, rfl, rfl, rfl, rfl, rfl, rfl, rfl⟩, I⟩
theorem own_Mb {lo' hi' c : Int32} (I : own_BI lo' hi' wF nW) : own_R6 x xi tl nW lF hF sF wF tv tw ts tz (tl + 1) (up lF x lo') (up hF x hi') (up sF x c) (up tv tl.toNatClampNeg xi) (up tw tl.toNatClampNeg (-1)) (up ts tl.toNatClampNeg (own_pk (lF x) (hF x))) (up tz tl.toNatClampNeg (sF x)) :=
  ⟨Or.inr ⟨rfl, rfl, rfl, ⟨_, rfl⟩, Or.inl ⟨rfl, rfl, rfl, ⟨_, rfl⟩, _, rfl⟩⟩, by rw [own_up, own_up]; exact I⟩
end
/-- nothing is left -/
theorem own_Be {lo hi : Int32} {w : Nat → Int64} {nW : Nat} (I : own_BI lo hi w nW) : own_BI lo (lo - 1) w nW := by
  have l0 := I.l0; have lh := I.lh
  have sa : (lo - 1).toInt = lo.toInt - 1 := own_s1 (by rw [Int32.lt_iff_toInt_lt]; exact Int.not_lt.mpr l0)
  exact ⟨I.l0, I.n2, by omega, I.lh, fun g => by omega⟩
theorem own_Ba {lo hi a : Int32} {w : Nat → Int64} {nW : Nat} (I : own_BI lo hi w nW) (h : ¬ own_c lo hi w a = 0) : own_BI a a w nW := by
  obtain ⟨i1, i2, i3⟩ := own_inB I h
  have l0 := I.l0; have hn := I.hn
  exact ⟨by omega, I.n2, by omega, by omega, fun _ => ⟨i3, i3⟩⟩
/-- next and previous in keepWithin -/
theorem own_Bk {lo hi p q : Int32} {w : Nat → Int64} {nW : Nat} (I : own_BI lo hi w nW) (h1 : ¬ own_nx (f10 p lo) hi w < 0) (h2 : ¬ own_pv (f19 q hi) lo w < own_nx (f10 p lo) hi w) :
    own_BI (own_nx (f10 p lo) hi w) (own_pv (f19 q hi) lo w) w nW ∧ lo.toInt ≤ (own_nx (f10 p lo) hi w).toInt ∧ (own_pv (f19 q hi) lo w).toInt ≤ hi.toInt := by
  have l0 := I.l0; have hn := I.hn; have n2 := I.n2
  have m1 := own_m8 p lo; have m2 := own_m10 q hi
  have q1 := own_nxB I m1; have q2 := own_pvB I m2
  have c1 : ¬ hi < f10 p lo := fun c => h1 (by rw [q1.2.2.2.1 c]; decide)
  obtain ⟨r, e1, e2, e3, e4, e5⟩ := q1.2.2.2.2 c1
  have er : (own_nx (f10 p lo) hi w).toInt = r := by rw [e1]; exact own_toI (by omega)
  have c2 : ¬ f19 q hi < lo := fun c => h2 (by rw [q2.2.2.2.1 c, Int32.lt_iff_toInt_lt, er]; show (-1 : Int) < r; omega)
  obtain ⟨t, g1, g2, g3, g4, g5⟩ := q2.2.2.2.2 c2
  rw [Int32.lt_iff_toInt_lt] at m1 m2
  have et : (own_pv (f19 q hi) lo w).toInt = t := by rw [g1]; exact own_toI (by omega)
  exact ⟨⟨by omega, n2, by omega, by omega, fun _ => ⟨by rw [er, Int.toNat_natCast]; exact e4, by rw [et, Int.toNat_natCast]; exact g4⟩⟩, by omega, by omega⟩
/-- what bitCount asks for: the words between p and q lie in the array -/
def own_rg2 (p q : Int32) (nW : Nat) : Prop := ¬ q < p → 0 ≤ p.toInt ∧ q.toInt < 64 * nW ∧ nW ≤ 2
theorem own_bc {p q : Int32} {nW : Nat} (h : own_rg2 p q nW) (c : ¬ q < p) : (¬ own_J p < 0 ∧ (own_J p).toNatClampNeg < nW) ∧ (¬ own_J q < own_J p + 1 → ¬ own_J p + 1 < 0 ∧ (own_J p + 1).toNatClampNeg < nW) ∧ (¬ own_J q < own_J p + 1 → own_J q < own_J p + 1 + 1) ∧ ¬ own_J q < own_J p := by
  obtain ⟨p0, q0, n2⟩ := h c
  rw [Int32.lt_iff_toInt_lt] at c
  obtain ⟨n, en⟩ : ∃ n : Nat, p.toInt = n := ⟨p.toInt.toNat, by omega⟩
  obtain ⟨k, ek⟩ : ∃ n : Nat, q.toInt = n := ⟨q.toInt.toNat, by omega⟩
  obtain rfl := own_ofN en
  obtain rfl := own_ofN ek
  obtain ⟨a1, a2, a3, a4, a5, -⟩ := own_tA ⟨n, by omega⟩
  obtain ⟨b1, b2, b3, -⟩ := own_tA ⟨k, by omega⟩
  simp only at a1 a2 a3 a4 a5 b1 b2 b3
  have tab : ∀ i j : Fin 2, (Int32.ofNat j.val < Int32.ofNat i.val + 1 ↔ j.val < i.val + 1) ∧ (Int32.ofNat j.val < Int32.ofNat i.val + 1 + 1 ↔ j.val < i.val + 2) ∧ (Int32.ofNat j.val < Int32.ofNat i.val ↔ j.val < i.val) := by decide +kernel
  have t := tab ⟨n / 64, by omega⟩ ⟨k / 64, by omega⟩
  simp only at t
  refine ⟨⟨a3, by rw [a2]; omega⟩, fun g => ⟨a5, ?_⟩, fun g => ?_, ?_⟩
  · rw [a1, b1, t.1] at g
    rw [a4]; omega
  · rw [a1, b1] at g ⊢
    rw [t.1] at g; rw [t.2.1]; omega
  · rw [a1, b1, t.2.2]; omega
/-- countWithin's three stretches -/
theorem own_cw {lo hi p q : Int32} {nW : Nat} (l0 : 0 ≤ lo.toInt) (hn : hi.toInt < 64 * nW) (n2 : nW ≤ 2) (h1 : lo.toInt ≤ p.toInt) (h2 : p.toInt ≤ q.toInt) (h3 : q.toInt ≤ hi.toInt) : own_rg2 p q nW ∧ own_rg2 lo (p - 1) nW ∧ own_rg2 (q + 1) hi nW := by
  have z5 : (511 : Int32).toInt = 511 := rfl
  have sa : (p - 1).toInt = p.toInt - 1 := own_s1 (by rw [Int32.lt_iff_toInt_lt]; show ¬ p.toInt < 0; omega)
  have sb : (q + 1).toInt = q.toInt + 1 := own_a1 (b := 511) (by rw [Int32.lt_iff_toInt_lt, z5]; omega)
  refine ⟨fun _ => ⟨by omega, by omega, n2⟩, fun _ => ⟨by omega, by omega, n2⟩, fun _ => ⟨by omega, by omega, n2⟩⟩
theorem own_cwk {lo hi p q : Int32} {w : Nat → Int64} {nW : Nat} (I : own_BI lo hi w nW) (h1 : ¬ own_nx (f10 p lo) hi w < 0) (h2 : ¬ own_pv (f19 q hi) lo w < own_nx (f10 p lo) hi w) :
    own_rg2 (own_nx (f10 p lo) hi w) (own_pv (f19 q hi) lo w) nW ∧ own_rg2 lo (own_nx (f10 p lo) hi w - 1) nW ∧ own_rg2 (own_pv (f19 q hi) lo w + 1) hi nW := by
  obtain ⟨-, b1, b2⟩ := own_Bk I h1 h2
  rw [Int32.lt_iff_toInt_lt] at h2
  exact own_cw I.l0 I.hn I.n2 b1 (by omega) b2
def own_b2 (a b : Nat) : Nat → Value := fun k => if k = 0 then .ref a else .ref b
theorem own_b20 {a b : Nat} : own_b2 a b (0 : Int32).toNatClampNeg = .ref a := rfl
theorem own_b21 {a b : Nat} : own_b2 a b (1 : Int32).toNatClampNeg = .ref b := rfl
theorem own_b2q0 {a b : Nat} {x : Int32} (h : x = 0) : own_b2 a b x.toNatClampNeg = .ref a := by rw [h]; rfl
theorem own_b2q1 {a b : Nat} {x : Int32} (h : x = 1) : own_b2 a b x.toNatClampNeg = .ref b := by rw [h]; rfl
theorem own_xb {x : Int32} (h : x = 0 ∨ x = 1) : ¬ x < 0 ∧ x.toNatClampNeg < 2 := by rcases h with rfl | rfl <;> decide
/-- the numbers of the law -/
def own_H (xv xa xb xy ca cb cv cx cz cy ri ami hd : Int32) (nU nV : Nat) : Prop := (xv = 0 ∨ xv = 1) ∧ (xa = 0 ∨ xa = 1) ∧ (xb = 0 ∨ xb = 1) ∧ (xy = 0 ∨ xy = 1) ∧ (1 ≤ ca.toInt ∧ ca.toInt ≤ 128) ∧ (1 ≤ cb.toInt ∧ cb.toInt ≤ 128) ∧ (cv = if xv = 0 then ca else cb) ∧ (cx = if xa = 0 then ca else cb) ∧ (cz = if xb = 0 then ca else cb) ∧ (cy = if xy = 0 then ca else cb) ∧ (0 ≤ ri.toInt) ∧ (0 ≤ ami.toInt) ∧ (¬ hd = 0 → ami.toInt < cx.toInt ∧ ¬ (xa = xv ∧ ami = ri)) ∧ (ca.toInt ≤ 64 * nU ∧ nU ≤ 2) ∧ (cb.toInt ≤ 64 * nV ∧ nV ≤ 2)
section
variable {xv xa xb xy ca cb cv cx cz cy ri ami hd : Int32} {nU nV : Nat}
theorem own_H.hv (I : own_H xv xa xb xy ca cb cv cx cz cy ri ami hd nU nV) : xv = 0 ∨ xv = 1 := I.1
theorem own_H.ha (I : own_H xv xa xb xy ca cb cv cx cz cy ri ami hd nU nV) : xa = 0 ∨ xa = 1 := I.2.1
theorem own_H.hb (I : own_H xv xa xb xy ca cb cv cx cz cy ri ami hd nU nV) : xb = 0 ∨ xb = 1 := I.2.2.1
theorem own_H.hy (I : own_H xv xa xb xy ca cb cv cx cz cy ri ami hd nU nV) : xy = 0 ∨ xy = 1 := I.2.2.2.1
theorem own_H.c0 (I : own_H xv xa xb xy ca cb cv cx cz cy ri ami hd nU nV) : 1 ≤ ca.toInt ∧ ca.toInt ≤ 128 := I.2.2.2.2.1
theorem own_H.c1 (I : own_H xv xa xb xy ca cb cv cx cz cy ri ami hd nU nV) : 1 ≤ cb.toInt ∧ cb.toInt ≤ 128 := I.2.2.2.2.2.1
theorem own_H.ev (I : own_H xv xa xb xy ca cb cv cx cz cy ri ami hd nU nV) : cv = if xv = 0 then ca else cb := I.2.2.2.2.2.2.1
theorem own_H.ex (I : own_H xv xa xb xy ca cb cv cx cz cy ri ami hd nU nV) : cx = if xa = 0 then ca else cb := I.2.2.2.2.2.2.2.1
theorem own_H.ez (I : own_H xv xa xb xy ca cb cv cx cz cy ri ami hd nU nV) : cz = if xb = 0 then ca else cb := I.2.2.2.2.2.2.2.2.1
theorem own_H.ey (I : own_H xv xa xb xy ca cb cv cx cz cy ri ami hd nU nV) : cy = if xy = 0 then ca else cb := I.2.2.2.2.2.2.2.2.2.1
theorem own_H.r0 (I : own_H xv xa xb xy ca cb cv cx cz cy ri ami hd nU nV) : 0 ≤ ri.toInt := I.2.2.2.2.2.2.2.2.2.2.1
theorem own_H.m0 (I : own_H xv xa xb xy ca cb cv cx cz cy ri ami hd nU nV) : 0 ≤ ami.toInt := I.2.2.2.2.2.2.2.2.2.2.2.1
theorem own_H.hh (I : own_H xv xa xb xy ca cb cv cx cz cy ri ami hd nU nV) : ¬ hd = 0 → ami.toInt < cx.toInt ∧ ¬ (xa = xv ∧ ami = ri) := I.2.2.2.2.2.2.2.2.2.2.2.2.1
theorem own_H.u0 (I : own_H xv xa xb xy ca cb cv cx cz cy ri ami hd nU nV) : ca.toInt ≤ 64 * nU ∧ nU ≤ 2 := I.2.2.2.2.2.2.2.2.2.2.2.2.2.1
theorem own_H.v0 (I : own_H xv xa xb xy ca cb cv cx cz cy ri ami hd nU nV) : cb.toInt ≤ 64 * nV ∧ nV ≤ 2 := I.2.2.2.2.2.2.2.2.2.2.2.2.2.2
end
/-- a variable behind the law's first removal -/
def own_at (x xv n ri lo hi sz : Int32) (w : Nat → Int64) : Prop :=
  (x = xv ∧ ri.toInt < n.toInt → sz = n - 1 ∧ own_X n.toInt.toNat ri lo hi w) ∧ (¬ (x = xv ∧ ri.toInt < n.toInt) → sz = n ∧ lo = 0 ∧ hi = n - 1 ∧ ∀ k, own_Bt w k = true)
theorem own_fullB (k : Nat) : own_Bt (fun _ => -1) k = true := by
  unfold own_Bt
  show (BitVec.allOnes 64).getLsbD (k % 64) = true
  rw [BitVec.getLsbD_allOnes]; simp; omega
theorem own_BI.full {n : Int32} {w : Nat → Int64} {nW : Nat} (h1 : 1 ≤ n.toInt) (h2 : n.toInt ≤ 64 * nW) (h3 : nW ≤ 2) (hw : ∀ k, own_Bt w k = true) : own_BI 0 (n - 1) w nW := by
  have z0 : (0 : Int32).toInt = 0 := rfl
  have sa : (n - 1).toInt = n.toInt - 1 := own_s1 (by rw [Int32.lt_iff_toInt_lt, z0]; omega)
  exact ⟨by rw [z0]; omega, h3, by omega, by rw [z0]; omega, fun _ => ⟨hw _, hw _⟩⟩
/-- the variable of the first removal -/
theorem own_at_v {x xv n ri lo hi sz lo' hi' sz' : Int32} {w w' : Nat → Int64} (hx : x = xv) (h1 : 1 ≤ n.toInt) (h2 : n.toInt ≤ 128) (r0 : 0 ≤ ri.toInt) (hl : lo = 0) (hh : hi = n - 1) (hs : sz = n) (hw : ∀ k, own_Bt w k = true)
    (X : own_XX ri lo hi w sz lo' hi' w' sz') : own_at x xv n ri lo' hi' sz' w' := by
  have z0 : (0 : Int32).toInt = 0 := rfl
  have sa : (n - 1).toInt = n.toInt - 1 := own_s1 (by rw [Int32.lt_iff_toInt_lt, z0]; omega)
  obtain ⟨a, b⟩ := X n.toInt.toNat (by omega) (by omega) (by rw [hl]; rfl) (by rw [hh, sa]; omega) (fun k _ => hw k)
  refine ⟨fun q => ?_, fun q => ?_⟩
  · obtain ⟨c, d⟩ := a r0 (by omega)
    exact ⟨by rw [c, hs], d⟩
  · obtain ⟨c, d, e, f⟩ := b (fun g => q ⟨hx, by omega⟩)
    exact ⟨by rw [c, hs], by rw [d, hl], by rw [e, hh], by rw [f]; exact hw⟩
theorem own_at_o {x xv n ri : Int32} {w : Nat → Int64} (hx : ¬ x = xv) (hw : ∀ k, own_Bt w k = true) : own_at x xv n ri 0 (n - 1) n w := ⟨fun q => absurd q.1 hx, fun _ => ⟨rfl, rfl, rfl, hw⟩⟩
theorem own_held {x xv n ri lo hi sz a : Int32} {w : Nat → Int64} {nW : Nat} (A : own_at x xv n ri lo hi sz w) (I : own_BI lo hi w nW) (h1 : 1 ≤ n.toInt) (r0 : 0 ≤ ri.toInt) (a0 : 0 ≤ a.toInt) (a1 : a.toInt < n.toInt) (h : ¬ (x = xv ∧ a = ri)) : ¬ own_c lo hi w a = 0 := by
  have z0 : (0 : Int32).toInt = 0 := rfl
  by_cases c : x = xv ∧ ri.toInt < n.toInt
  · obtain ⟨-, -, -, q⟩ := A.1 c
    rw [q a, if_neg (by
      have : ¬ a.toInt = ri.toInt := fun e => h ⟨c.1, Int32.toInt_inj.mp e⟩
      omega)]
    decide
  · obtain ⟨-, rfl, rfl, q⟩ := A.2 c
    have sa : (n - 1).toInt = n.toInt - 1 := own_s1 (by rw [Int32.lt_iff_toInt_lt, z0]; omega)
    rw [own_cB I.l0 I.n2 I.hn, if_neg (by rw [Int32.lt_iff_toInt_lt, z0]; omega), if_neg (by rw [Int32.lt_iff_toInt_lt, sa]; omega), if_pos (q _)]
    decide
theorem own_fin {xy xv cy ri lo hi sz q : Int32} {w : Nat → Int64} {nW : Nat} (A : own_at xy xv cy ri lo hi sz w) (I : own_BI lo hi w nW) (h1 : 1 ≤ cy.toInt) (h2 : cy.toInt ≤ 128) (r0 : 0 ≤ ri.toInt) {R : Int32} (hR : R = if xv = xy then (if ri < cy then 1 else 0) else 0) :
    sz = (if R = 0 then cy else cy - 1) ∧ lo = (if R = 0 then 0 else if ri = 0 then 1 else 0) ∧ hi = (if R = 0 then cy - 1 else if ri = cy - 1 then (if ri = 0 then cy - 1 else cy - 2) else cy - 1) ∧
    own_c lo hi w q = (if q < 0 then 0 else if q < cy then (if R = 0 then 1 else if q = ri then 0 else 1) else 0) := by
  have z0 : (0 : Int32).toInt = 0 := rfl
  have zz1 : (1 : Int32).toInt = 1 := rfl
  have zz2 : (2 : Int32).toInt = 2 := rfl
  have sa : (cy - 1).toInt = cy.toInt - 1 := own_s1 (by rw [Int32.lt_iff_toInt_lt, z0]; omega)
  have sb : (cy - 2).toInt = cy.toInt - 2 := by rw [own_sub32 (by rw [zz2]; omega) (by rw [zz2]; omega), zz2]
  by_cases c : xy = xv ∧ ri.toInt < cy.toInt
  · have hR1 : ¬ R = 0 := by rw [hR, if_pos c.1.symm, if_pos (by rw [Int32.lt_iff_toInt_lt]; exact c.2)]; decide
    obtain ⟨s1, x1, x2, x3⟩ := A.1 c
    simp only [if_neg hR1]
    have en : (cy.toInt.toNat : Int) = cy.toInt := by omega
    rw [en] at x2
    refine ⟨s1, ?_, ?_, ?_⟩
    · rw [← Int32.toInt_inj, x1]
      by_cases d : ri = 0
      · rw [if_pos d, d, z0]; rfl
      · rw [if_neg d, if_neg (c := ri.toInt = 0) (fun g => d (Int32.toInt_inj.mp g))]; rfl
    · rw [← Int32.toInt_inj, x2]
      by_cases d : ri = cy - 1
      · rw [if_pos d]
        by_cases g : ri = 0
        · rw [if_pos g, if_neg (by rw [g, z0]; omega), sa]
        · rw [if_neg g, if_pos ⟨by rw [d, sa], fun k => g (Int32.toInt_inj.mp k)⟩, sb]
      · rw [if_neg d, if_neg (fun k => d (Int32.toInt_inj.mp (by rw [sa]; exact k.1))), sa]
    · rw [x3 q, en]
      simp only [Int32.lt_iff_toInt_lt, ← Int32.toInt_inj, z0]
      by_cases g1 : q.toInt < 0
      · rw [if_pos g1, if_pos (Or.inl g1)]
      by_cases g2 : q.toInt < cy.toInt
      · rw [if_neg g1, if_pos g2]
        by_cases g3 : q.toInt = ri.toInt
        · rw [if_pos g3, if_pos (by omega)]
        · rw [if_neg g3, if_neg (by omega)]
      · rw [if_neg g1, if_neg g2, if_pos (by omega)]
  · have hR0 : R = 0 := by
      rw [hR]
      by_cases d : xv = xy
      · rw [if_pos d, if_neg (fun g => c ⟨d.symm, by rw [Int32.lt_iff_toInt_lt] at g; exact g⟩)]
      · rw [if_neg d]
    obtain ⟨s1, x1, x2, x3⟩ := A.2 c
    simp only [if_pos hR0]
    refine ⟨s1, x1, x2, ?_⟩
    rw [own_cB I.l0 I.n2 I.hn, x1, x2]
    simp only [Int32.lt_iff_toInt_lt, z0, sa]
    by_cases g1 : q.toInt < 0
    · rw [if_pos g1, if_pos g1]
    by_cases g2 : q.toInt < cy.toInt
    · rw [if_neg g1, if_neg g1, if_pos g2, if_neg (by omega), if_pos (x3 _)]
    · rw [if_neg g1, if_neg g1, if_neg g2, if_pos (by omega)]
theorem own_Tr.tp {n0 n1 m kk : Nat} {tl : Int32} {tv tw : Nat → Int32} {ts : Nat → Int64} {tz : Nat → Int32} {S S0 : own_S} (hm : m + kk < 1000) (h : own_Tr n0 n1 m kk tl tv tw ts tz S S0) : ¬ tl = (1024 : Int32) ∧ (¬ tl < 0 ∧ tl.toNatClampNeg < 1024) := by
  obtain ⟨k, hk, rfl, -, -⟩ := h
  have e : (Int32.ofNat (m + k)).toInt = ((m + k : Nat) : Int) := own_toI (by omega)
  have z : (1024 : Int32).toInt = 1024 := rfl
  have z0 : (0 : Int32).toInt = 0 := rfl
  refine ⟨fun q => ?_, ?_, by rw [own_n32 (by omega)]; omega⟩
  · rw [← Int32.toInt_inj, e, z] at q; omega
  · rw [Int32.lt_iff_toInt_lt, e, z0]; omega
def own_2 (a b : Int32) : Nat → Int32 := fun k => if k = 0 then a else b
theorem own_andn (p m : Int32) (hm : m.toBitVec.toNat < 2 ^ 31) : (p &&& m).toInt = (p &&& m).toBitVec.toNat ∧ (p &&& m).toBitVec.toNat ≤ m.toBitVec.toNat := by
  have h : (p &&& m).toBitVec.toNat ≤ m.toBitVec.toNat := by
    rw [Int32.toBitVec_and, BitVec.toNat_and]; exact Nat.and_le_right
  refine ⟨?_, h⟩
  show (p &&& m).toBitVec.toInt = _
  rw [BitVec.toInt_eq_toNat_cond, if_pos (by omega)]
theorem own_cap (s : Int32) : 1 ≤ ((1 : Int32) + (s &&& 127)).toInt ∧ ((1 : Int32) + (s &&& 127)).toInt ≤ 128 := by
  obtain ⟨a, b⟩ := own_andn s 127 (by decide)
  have e : (127 : Int32).toBitVec.toNat = 127 := rfl
  have o : (1 : Int32).toInt = 1 := rfl
  rw [own_add32 (by rw [a, o]; omega) (by rw [a, o]; omega), a, o]; omega
theorem own_bit1 (s : Int32) : s &&& 1 = 0 ∨ s &&& 1 = 1 := by
  obtain ⟨a, b⟩ := own_andn s 1 (by decide)
  have e : (1 : Int32).toBitVec.toNat = 1 := rfl
  rcases (show (s &&& 1).toBitVec.toNat = 0 ∨ (s &&& 1).toBitVec.toNat = 1 by omega) with h | h
  · left; rw [← Int32.toInt_inj, a, h]; rfl
  · right; rw [← Int32.toInt_inj, a, h]; rfl
theorem own_nz1 {c d : Int32} (h : 1 ≤ c.toInt ∧ c.toInt ≤ 128) (hd : 0 ≤ d.toInt ∧ d.toInt ≤ 2) : c + d ≠ 0 := fun q => by
  have := congrArg Int32.toInt q
  rw [own_add32 (by omega) (by omega)] at this
  have z : (0 : Int32).toInt = 0 := rfl
  omega
theorem own_rem0 (a c : Int32) : 0 ≤ ((a &&& 2147483647) % c).toInt := by
  obtain ⟨h, -⟩ := own_andn a 2147483647 (by decide)
  rw [Int32.toInt_mod, h]
  exact Int.tmod_nonneg _ (by omega)
theorem own_wds {c : Int32} (h : 1 ≤ c.toInt ∧ c.toInt ≤ 128) : ¬ own_J (c + 63) < 0 ∧ (own_J (c + 63)).toNatClampNeg ≤ 2 ∧ c.toInt ≤ 64 * (own_J (c + 63)).toNatClampNeg := by
  have tab : ∀ n : Fin 129, ¬ own_J (Int32.ofNat n.val + 63) < 0 ∧ (own_J (Int32.ofNat n.val + 63)).toNatClampNeg ≤ 2 ∧ n.val ≤ 64 * (own_J (Int32.ofNat n.val + 63)).toNatClampNeg := by decide +kernel
  obtain ⟨n, en⟩ : ∃ n : Nat, c.toInt = n := ⟨c.toInt.toNat, by omega⟩
  have e := own_ofN en
  obtain ⟨a, b, d⟩ := tab ⟨n, by omega⟩
  simp only [← e] at a b d
  exact ⟨a, b, by omega⟩
theorem own_pickc {x a b c : Int32} (e : c = if x = 0 then a else b) (h0 : 1 ≤ a.toInt ∧ a.toInt ≤ 128) (h1 : 1 ≤ b.toInt ∧ b.toInt ≤ 128) : 1 ≤ c.toInt ∧ c.toInt ≤ 128 := by
  rw [e]; split <;> assumption
theorem own_heldH {ami cx xa xv ri hd : Int32} (e : hd = if ami < cx then (if xa = xv then (if ami = ri then 0 else 1) else 1) else 0) : ¬ hd = 0 → ami.toInt < cx.toInt ∧ ¬ (xa = xv ∧ ami = ri) := fun h => by
  rw [e] at h
  by_cases c : ami < cx
  · rw [if_pos c] at h
    refine ⟨by rw [Int32.lt_iff_toInt_lt] at c; exact c, fun ⟨q1, q2⟩ => ?_⟩
    rw [if_pos q1, if_pos q2] at h; exact h rfl
  · rw [if_neg c] at h; exact absurd rfl h
section
variable {x : Nat} {xi tl tl' : Int32} {nW : Nat} {lF hF sF lF' hF' sF' : Nat → Int32} {wF wF' : Nat → Int64} {tv tw tv' tw' : Nat → Int32} {ts ts' : Nat → Int64} {tz tz' : Nat → Int32}
theorem own_U.oth (U : own_U x xi tl nW lF hF sF wF tv tw ts tz tl' lF' hF' sF' wF' tv' tw' ts' tz') {j : Nat} (h : j ≠ x) : lF' j = lF j ∧ hF' j = hF j ∧ sF' j = sF j := by
  rcases U with ⟨-, rfl, rfl, rfl, -⟩ | ⟨-, -, -, ⟨c, rfl⟩, u⟩
  · exact ⟨rfl, rfl, rfl⟩
  · rcases u with ⟨-, -, -, ⟨a, rfl⟩, ⟨b, rfl⟩⟩ | ⟨k, -, -, -, rfl, rfl, -⟩
    · exact ⟨own_upo h, own_upo h, own_upo h⟩
    · exact ⟨rfl, rfl, own_upo h⟩
theorem own_U.bi (U : own_U x xi tl nW lF hF sF wF tv tw ts tz tl' lF' hF' sF' wF' tv' tw' ts' tz') {j n : Nat} {v : Nat → Int64} (I : own_BI (lF j) (hF j) v n) (h : j ≠ x) : own_BI (lF' j) (hF' j) v n := by
  obtain ⟨a, b, -⟩ := U.oth h
  rw [a, b]; exact I
theorem own_U.mm (U : own_U x xi 0 nW lF hF sF wF tv tw ts tz tl' lF' hF' sF' wF' tv' tw' ts' tz') : ∃ m : Nat, m ≤ 1 ∧ tl' = Int32.ofNat m := by
  rcases U with ⟨h, -⟩ | ⟨h, -⟩
  · exact ⟨0, by decide, h⟩
  · exact ⟨1, by decide, h⟩
theorem own_U.at (U : own_U x xi tl nW lF hF sF wF tv tw ts tz tl' lF' hF' sF' wF' tv' tw' ts' tz') {j : Nat} {xj xv n ri : Int32} {v : Nat → Int64} (h : j ≠ x) (hx : ¬ xj = xv) (h1 : lF j = 0) (h2 : hF j = n - 1) (h3 : sF j = n) (hv : ∀ k, own_Bt v k = true) : own_at xj xv n ri (lF' j) (hF' j) (sF' j) v := by
  obtain ⟨a, b, c⟩ := U.oth h
  rw [a, b, c, h1, h2, h3]; exact own_at_o hx hv
end
theorem own_Tr0 {n0 n1 m : Nat} {tv tw : Nat → Int32} {ts : Nat → Int64} {tz : Nat → Int32} {S : own_S} : own_Tr n0 n1 m 0 (Int32.ofNat m) tv tw ts tz S S := ⟨0, Nat.le_refl 0, rfl, fun i h1 h2 => absurd h2 (by omega), rfl⟩
section
variable {xv xa xb xy ca cb cv cx cz cy ri ami hd : Int32} {nU nV : Nat}
theorem own_H.hd0 (H : own_H xv xa xb xy ca cb cv cx cz cy ri ami hd nU nV) (hq : xa = 0) (hc : ¬ hd = 0) {lo hi sz : Int32} {w : Nat → Int64} {nW : Nat} (A : own_at 0 xv ca ri lo hi sz w) (I : own_BI lo hi w nW) : ¬ own_c lo hi w ami = 0 := by
  obtain ⟨a, b⟩ := H.hh hc
  have e := H.ex
  rw [if_pos hq] at e
  rw [e] at a; rw [hq] at b
  exact own_held A I H.c0.1 H.r0 H.m0 a b
theorem own_H.hd1 (H : own_H xv xa xb xy ca cb cv cx cz cy ri ami hd nU nV) (hq : xa = 1) (hc : ¬ hd = 0) {lo hi sz : Int32} {w : Nat → Int64} {nW : Nat} (A : own_at 1 xv cb ri lo hi sz w) (I : own_BI lo hi w nW) : ¬ own_c lo hi w ami = 0 := by
  obtain ⟨a, b⟩ := H.hh hc
  have e := H.ex
  rw [if_neg (by rw [hq]; decide)] at e
  rw [e] at a; rw [hq] at b
  exact own_held A I H.c1.1 H.r0 H.m0 a b
theorem own_H.f0 (H : own_H xv xa xb xy ca cb cv cx cz cy ri ami hd nU nV) : own_BI 0 (ca - 1) (fun _ => -1) nU := own_BI.full H.c0.1 H.u0.1 H.u0.2 own_fullB
theorem own_H.f1 (H : own_H xv xa xb xy ca cb cv cx cz cy ri ami hd nU nV) : own_BI 0 (cb - 1) (fun _ => -1) nV := own_BI.full H.c1.1 H.v0.1 H.v0.2 own_fullB
theorem own_H.cx1 (H : own_H xv xa xb xy ca cb cv cx cz cy ri ami hd nU nV) : 1 ≤ cx.toInt ∧ cx.toInt ≤ 128 := own_pickc H.ex H.c0 H.c1
theorem own_H.cz1 (H : own_H xv xa xb xy ca cb cv cx cz cy ri ami hd nU nV) : 1 ≤ cz.toInt ∧ cz.toInt ≤ 128 := own_pickc H.ez H.c0 H.c1
theorem own_H.cy1 (H : own_H xv xa xb xy ca cb cv cx cz cy ri ami hd nU nV) : 1 ≤ cy.toInt ∧ cy.toInt ≤ 128 := own_pickc H.ey H.c0 H.c1
theorem own_H.y0 (H : own_H xv xa xb xy ca cb cv cx cz cy ri ami hd nU nV) (hq : xy = 0) {lo hi sz : Int32} {w : Nat → Int64} (A : own_at 0 xv ca ri lo hi sz w) : own_at xy xv cy ri lo hi sz w := by
  have e := H.ey
  rw [if_pos hq] at e
  rw [e, hq]; exact A
theorem own_H.y1 (H : own_H xv xa xb xy ca cb cv cx cz cy ri ami hd nU nV) (hq : xy = 1) {lo hi sz : Int32} {w : Nat → Int64} (A : own_at 1 xv cb ri lo hi sz w) : own_at xy xv cy ri lo hi sz w := by
  have e := H.ey
  rw [if_neg (by rw [hq]; decide)] at e
  rw [e, hq]; exact A
theorem own_H.y (H : own_H xv xa xb xy ca cb cv cx cz cy ri ami hd nU nV) {S : own_S} (A0 : own_at 0 xv ca ri (S.l 0) (S.h 0) (S.s 0) S.w0) (A1 : own_at 1 xv cb ri (S.l 1) (S.h 1) (S.s 1) S.w1) (B0 : own_BI (S.l 0) (S.h 0) S.w0 nU) (B1 : own_BI (S.l 1) (S.h 1) S.w1 nV) :
    ∃ w n, own_at xy xv cy ri (S.l xy.toNatClampNeg) (S.h xy.toNatClampNeg) (S.s xy.toNatClampNeg) w ∧ own_BI (S.l xy.toNatClampNeg) (S.h xy.toNatClampNeg) w n := by
  rcases H.hy with hq | hq
  · refine ⟨S.w0, nU, H.y0 hq ?_, ?_⟩ <;> rw [hq]
    · exact A0
    · exact B0
  · refine ⟨S.w1, nV, H.y1 hq ?_, ?_⟩ <;> rw [hq]
    · exact A1
    · exact B1
end

theorem d7_0 : DC B7 0 (.iload_n 2) 1 := by decide +kernel
theorem d7_1 : DC B7 1 (.aload_n 0) 1 := by decide +kernel
theorem d7_2 : DC B7 2 (.getfield 39) 3 := by decide +kernel
theorem d7_5 : DC B7 5 (.iload_n 1) 1 := by decide +kernel
theorem d7_6 : DC B7 6 (.iaload) 1 := by decide +kernel
theorem d7_7 : DC B7 7 (.if_icmp .lt 37) 3 := by decide +kernel
theorem d7_44 : DC B7 44 (.iconst 0) 1 := by decide +kernel
theorem d7_45 : DC B7 45 (.ireturn) 1 := by decide +kernel
theorem d7_10 : DC B7 10 (.iload_n 2) 1 := by decide +kernel
theorem d7_11 : DC B7 11 (.aload_n 0) 1 := by decide +kernel
theorem d7_12 : DC B7 12 (.getfield 42) 3 := by decide +kernel
theorem d7_15 : DC B7 15 (.iload_n 1) 1 := by decide +kernel
theorem d7_16 : DC B7 16 (.iaload) 1 := by decide +kernel
theorem d7_17 : DC B7 17 (.if_icmp .gt 27) 3 := by decide +kernel
theorem d7_20 : DC B7 20 (.aload_n 0) 1 := by decide +kernel
theorem d7_21 : DC B7 21 (.getfield 32) 3 := by decide +kernel
theorem d7_24 : DC B7 24 (.iload_n 1) 1 := by decide +kernel
theorem d7_25 : DC B7 25 (.aaload) 1 := by decide +kernel
theorem d7_26 : DC B7 26 (.iload_n 2) 1 := by decide +kernel
theorem d7_27 : DC B7 27 (.bipush 6) 2 := by decide +kernel
theorem d7_29 : DC B7 29 (.iushr) 1 := by decide +kernel
theorem d7_30 : DC B7 30 (.laload) 1 := by decide +kernel
theorem d7_31 : DC B7 31 (.lconst 1) 1 := by decide +kernel
theorem d7_32 : DC B7 32 (.iload_n 2) 1 := by decide +kernel
theorem d7_33 : DC B7 33 (.lshl) 1 := by decide +kernel
theorem d7_34 : DC B7 34 (.land) 1 := by decide +kernel
theorem d7_35 : DC B7 35 (.lconst 0) 1 := by decide +kernel
theorem d7_36 : DC B7 36 (.lcmp) 1 := by decide +kernel
theorem d7_37 : DC B7 37 (.ifCond .eq 7) 3 := by decide +kernel
theorem d7_40 : DC B7 40 (.iconst 1) 1 := by decide +kernel
theorem d7_41 : DC B7 41 (.goto 4) 3 := by decide +kernel
def f7 (o0 : Addr) (p1 : Int32) (p2 : Int32) (lA : Addr) (lF : Nat → Int32) (hA : Addr) (hF : Nat → Int32) (bA : Addr) (bF : Nat → Value) (wA : Addr) (nW : Nat) (wF : Nat → Int64) : Int32 := (if p2 < (lF p1.toNatClampNeg) then (0 : Int32) else (if (hF p1.toNatClampNeg) < p2 then (0 : Int32) else (if ((wF ((p2.toUInt32 >>> ((6 : Int32) &&& 31).toUInt32).toInt32).toNatClampNeg) &&& ((1 : Int64) <<< (p2 &&& 0x3f).toInt64)) = (0 : Int64) then (0 : Int32) else (1 : Int32))))
def Q7 (o0 : Addr) (p1 : Int32) (p2 : Int32) (lA : Addr) (lF : Nat → Int32) (hA : Addr) (hF : Nat → Int32) (bA : Addr) (bF : Nat → Value) (wA : Addr) (nW : Nat) (wF : Nat → Int64) (h0 : Heap) (n0 : Nat) (v : Option Value) (h : Heap) (L : List Loc) : Prop := v = some (.int (f7 o0 p1 p2 lA lF hA hF bA bF wA nW wF)) ∧ Fr n0 L ∧ h = h0
theorem pn_2 : plainName Dn = true := by first | (simp [plainName, overriddenIn]; done) | decide +kernel
theorem ef_7_aaa (m : MethodId) (x0 : Addr) (x1 : Int32) (x2 : Int32) : entryFrame m #[(.ref x0), (.int x1), (.int x2)] 3 = mkF m 0 #[.val (.ref x0), .val (.int x1), .val (.int x2)] [] := by first | (simp [entryFrame, mkF, argsToLocals, Value.category]; done) | rfl
theorem rm7 (l : Launch) (Z : State) (a0 : Array Value) (hw : HW a0 Z) (ws : List Jvm.Cond) (o0 : Addr) (p1 : Int32) (p2 : Int32) (lA : Addr) (lF : Nat → Int32) (hA : Addr) (hF : Nat → Int32) (bA : Addr) (bF : Nat → Value) (wA : Addr) (nW : Nat) (wF : Nat → Int64) (h0 : Heap) (n0 : Nat) (Z0 : n0 ≤ h0.size) (ha0 : Exa Z h0 o0 Dn) (ha1 : Fld Z h0 o0 Dn "low" "[I" (.ref lA)) (ha2 : AV Z h0 lA .int 2 (fun k => .int (lF k))) (ha3 : Fld Z h0 o0 Dn "high" "[I" (.ref hA)) (ha4 : AV Z h0 hA .int 2 (fun k => .int (hF k))) (ha5 : Fld Z h0 o0 Dn "bits" "[[J" (.ref bA)) (ha6 : AV Z h0 bA (.array .long) 2 bF) (ha7 : AV Z h0 wA .long nW (fun k => .long (wF k))) (hxb : ¬ p1 < 0 ∧ p1.toNatClampNeg < 2) (hbx : bF p1.toNatClampNeg = Value.ref wA) (hB : ¬ p2 < (lF p1.toNatClampNeg) → ¬ (hF p1.toNatClampNeg) < p2 → ¬ ((p2.toUInt32 >>> ((6 : Int32) &&& 31).toUInt32).toInt32) < 0 ∧ ((p2.toUInt32 >>> ((6 : Int32) &&& 31).toUInt32).toInt32).toNatClampNeg < nW) :
    MetFree l y7 (head1 (Jvm.Cond.code y7 prog_22_method_5_code 3 (some .boolean) :: ws) RM_0_0_0_0) (fun a U => a = #[(.ref o0), (.int p1), (.int p2)] ∧ Z.Warmed39 U.vm ∧ U.heap = h0) (fun _ _ _ _ _ => True) (fun _ U o U' => ∃ v L, o = .returned v ∧ Q7 o0 p1 p2 lA lF hA hF bA bF wA nW wF h0 n0 v U'.heap L ∧ FrameEnd U o U' L RM_0_0_0_0.cells RM_0_0_0_0.slots) := by
  refine MetFree.of_bodySF (plainFor_of_name pn_2) hisR ?_
  intro p e s m args below meth c s₁ Bd hml0 hP hK
  obtain ⟨rfl, hZ, hh⟩ := hP
  have hx := Bd.exec
  have hby := Bd.bytes
  have hml : c.maxLocals = 3 := hml0
  have hown : s.vm.findClass Dn = some m.cls := findClass_of_methodNamed Bd.named
  have X0 : Stand p l e RM_0_0_0_0 s m _ below meth c s₁ [] 0 0 := Stand.of_body Bd
  have e0 : s₁.heap = h0 := by rw [← hh, Bd.state]; rfl
  have N0 := Fr.nil n0
  refine Go.into (P := fun oo uu => ∃ v L, oo = .returned v ∧ Q7 o0 p1 p2 lA lF hA hF bA bF wA nW wF h0 n0 v uu.heap L ∧ FrameEnd s oo uu L RM_0_0_0_0.cells RM_0_0_0_0.slots) (ef_7_aaa m o0 p1 p2) ?_
  show Go p e below _ (s₁.setTop (mkF m 0 #[sR o0, sI p1, sI p2] []))
  refine Vi (s₁.setTop (mkF m 2 #[sR o0, sI p1, sI p2] [(.ref o0), (.int p2)])) (fun tZ kZ => ?_) ?_
  · refine XS.iloadN X0.here hx rfl (hb hby d7_0) rfl ?_
    refine XS.aloadN X0.here hx rfl (hb hby d7_1) rfl rfl ?_
    exact kZ
  refine GF X0 hx hZ hown (wq hw 37 rfl) e0 ha1 (hb hby d7_2) fun T1 X1 e1 => ?_
  refine Vi (T1.setTop (mkF m 7 #[sR o0, sI p1, sI p2] [(.int (lF p1.toNatClampNeg)), (.int p2)])) (fun tZ kZ => ?_) ?_
  · refine XS.iloadN X1.here hx rfl (hb hby d7_5) rfl ?_
    refine AV.iaload ha2 X1 hx hZ e1 (j := p1) hxb (hb hby d7_6) ?_
    exact kZ
  by_cases hc7 : p2 < (lF p1.toNatClampNeg)
  · refine Vi (T1.setTop (mkF m 44 #[sR o0, sI p1, sI p2] [])) (fun tZ kZ => ?_) ?_
    · show Steps p.tables e below (T1.setTop (mkF m 7 #[sR o0, sI p1, sI p2] [(.int (lF p1.toNatClampNeg)), (.int p2)])) _
      refine XS.icmpYes X1.here hx rfl (pc0 := 7) (pc' := 44) rfl (hb hby d7_7) rfl (tlt hc7).1 (by decide) (by decide) ?_
      exact kZ
    refine Vi (T1.setTop (mkF m 45 #[sR o0, sI p1, sI p2] [(.int 0)])) (fun tZ kZ => ?_) ?_
    · refine XS.iconst X1.here hx rfl (hb hby d7_44) ?_
      exact kZ
    refine Go.retN X1 hx Bd.notSynchronized (t := .boolean) Bd.returns (by simp) (hb hby d7_45) (by decide) (by decide) ?_
    refine ⟨?_, N0, e1⟩
    show some ((Value.int (nar .boolean (0 : Int32))) : Value) = some (.int (f7 o0 p1 p2 lA lF hA hF bA bF wA nW wF))
    unfold f7; rw [if_pos hc7] <;> rfl
  · refine Vi (T1.setTop (mkF m 10 #[sR o0, sI p1, sI p2] [])) (fun tZ kZ => ?_) ?_
    · show Steps p.tables e below (T1.setTop (mkF m 7 #[sR o0, sI p1, sI p2] [(.int (lF p1.toNatClampNeg)), (.int p2)])) _
      refine XS.icmpNo X1.here hx rfl (hb hby d7_7) rfl (flt hc7).1 ?_
      exact kZ
    refine Vi (T1.setTop (mkF m 12 #[sR o0, sI p1, sI p2] [(.ref o0), (.int p2)])) (fun tZ kZ => ?_) ?_
    · refine XS.iloadN X1.here hx rfl (hb hby d7_10) rfl ?_
      refine XS.aloadN X1.here hx rfl (hb hby d7_11) rfl rfl ?_
      exact kZ
    refine GF X1 hx hZ hown (wq hw 39 rfl) e1 ha3 (hb hby d7_12) fun T2 X2 e2 => ?_
    refine Vi (T2.setTop (mkF m 17 #[sR o0, sI p1, sI p2] [(.int (hF p1.toNatClampNeg)), (.int p2)])) (fun tZ kZ => ?_) ?_
    · refine XS.iloadN X2.here hx rfl (hb hby d7_15) rfl ?_
      refine AV.iaload ha4 X2 hx hZ e2 (j := p1) hxb (hb hby d7_16) ?_
      exact kZ
    by_cases hc17 : (hF p1.toNatClampNeg) < p2
    · refine Vi (T2.setTop (mkF m 44 #[sR o0, sI p1, sI p2] [])) (fun tZ kZ => ?_) ?_
      · show Steps p.tables e below (T2.setTop (mkF m 17 #[sR o0, sI p1, sI p2] [(.int (hF p1.toNatClampNeg)), (.int p2)])) _
        refine XS.icmpYes X2.here hx rfl (pc0 := 17) (pc' := 44) rfl (hb hby d7_17) rfl (tlt hc17).2.2.1 (by decide) (by decide) ?_
        exact kZ
      refine Vi (T2.setTop (mkF m 45 #[sR o0, sI p1, sI p2] [(.int 0)])) (fun tZ kZ => ?_) ?_
      · refine XS.iconst X2.here hx rfl (hb hby d7_44) ?_
        exact kZ
      refine Go.retN X2 hx Bd.notSynchronized (t := .boolean) Bd.returns (by simp) (hb hby d7_45) (by decide) (by decide) ?_
      refine ⟨?_, N0, e2⟩
      show some ((Value.int (nar .boolean (0 : Int32))) : Value) = some (.int (f7 o0 p1 p2 lA lF hA hF bA bF wA nW wF))
      unfold f7; rw [if_neg hc7, if_pos hc17] <;> rfl
    · refine Vi (T2.setTop (mkF m 20 #[sR o0, sI p1, sI p2] [])) (fun tZ kZ => ?_) ?_
      · show Steps p.tables e below (T2.setTop (mkF m 17 #[sR o0, sI p1, sI p2] [(.int (hF p1.toNatClampNeg)), (.int p2)])) _
        refine XS.icmpNo X2.here hx rfl (hb hby d7_17) rfl (flt hc17).2.2.1 ?_
        exact kZ
      refine Vi (T2.setTop (mkF m 21 #[sR o0, sI p1, sI p2] [(.ref o0)])) (fun tZ kZ => ?_) ?_
      · refine XS.aloadN X2.here hx rfl (hb hby d7_20) rfl rfl ?_
        exact kZ
      refine GF X2 hx hZ hown (wq hw 33 rfl) e2 ha5 (hb hby d7_21) fun T3 X3 e3 => ?_
      refine Vi (T3.setTop (mkF m 37 #[sR o0, sI p1, sI p2] [(.int (lcmpW ((wF ((p2.toUInt32 >>> ((6 : Int32) &&& 31).toUInt32).toInt32).toNatClampNeg) &&& ((1 : Int64) <<< (p2 &&& 0x3f).toInt64)) (0 : Int64)))])) (fun tZ kZ => ?_) ?_
      · refine XS.iloadN X3.here hx rfl (hb hby d7_24) rfl ?_
        refine AV.aaload ha6 rfl X3 hx hZ e3 (j := p1) hxb (hb hby d7_25) ?_
        rw [hbx]
        refine XS.iloadN X3.here hx rfl (hb hby d7_26) rfl ?_
        refine XS.bipush X3.here hx rfl (hb hby d7_27) ?_
        refine XS.iushr X3.here hx rfl (hb hby d7_29) rfl ?_
        refine AV.laload ha7 X3 hx hZ e3 (j := ((p2.toUInt32 >>> ((6 : Int32) &&& 31).toUInt32).toInt32)) (hB hc7 hc17) (hb hby d7_30) ?_
        refine XS.lconst X3.here hx rfl (hb hby d7_31) ?_
        refine XS.iloadN X3.here hx rfl (hb hby d7_32) rfl ?_
        refine XS.lshl X3.here hx rfl (hb hby d7_33) rfl ?_
        refine XS.land X3.here hx rfl (hb hby d7_34) rfl ?_
        refine XS.lconst X3.here hx rfl (hb hby d7_35) ?_
        refine XS.lcmp X3.here hx rfl (hb hby d7_36) rfl ?_
        exact kZ
      by_cases hc37 : ((wF ((p2.toUInt32 >>> ((6 : Int32) &&& 31).toUInt32).toInt32).toNatClampNeg) &&& ((1 : Int64) <<< (p2 &&& 0x3f).toInt64)) = (0 : Int64)
      · refine Vi (T3.setTop (mkF m 44 #[sR o0, sI p1, sI p2] [])) (fun tZ kZ => ?_) ?_
        · show Steps p.tables e below (T3.setTop (mkF m 37 #[sR o0, sI p1, sI p2] [(.int (lcmpW ((wF ((p2.toUInt32 >>> ((6 : Int32) &&& 31).toUInt32).toInt32).toNatClampNeg) &&& ((1 : Int64) <<< (p2 &&& 0x3f).toInt64)) (0 : Int64)))])) _
          refine XS.ifYes X3.here hx rfl (pc0 := 37) (pc' := 44) rfl (hb hby d7_37) rfl ((if0 _ _).trans (teq ((lw_eq _ _).mpr hc37)).1) (by decide) (by decide) ?_
          exact kZ
        refine Vi (T3.setTop (mkF m 45 #[sR o0, sI p1, sI p2] [(.int 0)])) (fun tZ kZ => ?_) ?_
        · refine XS.iconst X3.here hx rfl (hb hby d7_44) ?_
          exact kZ
        refine Go.retN X3 hx Bd.notSynchronized (t := .boolean) Bd.returns (by simp) (hb hby d7_45) (by decide) (by decide) ?_
        refine ⟨?_, N0, e3⟩
        show some ((Value.int (nar .boolean (0 : Int32))) : Value) = some (.int (f7 o0 p1 p2 lA lF hA hF bA bF wA nW wF))
        unfold f7; rw [if_neg hc7, if_neg hc17, if_pos hc37] <;> rfl
      · refine Vi (T3.setTop (mkF m 40 #[sR o0, sI p1, sI p2] [])) (fun tZ kZ => ?_) ?_
        · show Steps p.tables e below (T3.setTop (mkF m 37 #[sR o0, sI p1, sI p2] [(.int (lcmpW ((wF ((p2.toUInt32 >>> ((6 : Int32) &&& 31).toUInt32).toInt32).toNatClampNeg) &&& ((1 : Int64) <<< (p2 &&& 0x3f).toInt64)) (0 : Int64)))])) _
          refine XS.ifNo X3.here hx rfl (hb hby d7_37) rfl ((if0 _ _).trans (feq (fun q => absurd ((lw_eq _ _).mp q) hc37)).1) ?_
          exact kZ
        refine Vi (T3.setTop (mkF m 45 #[sR o0, sI p1, sI p2] [(.int 1)])) (fun tZ kZ => ?_) ?_
        · refine XS.iconst X3.here hx rfl (hb hby d7_40) ?_
          refine XS.goto X3.here hx rfl (pc0 := 41) (pc' := 45) rfl (hb hby d7_41) (by decide) (by decide) ?_
          exact kZ
        refine Go.retN X3 hx Bd.notSynchronized (t := .boolean) Bd.returns (by simp) (hb hby d7_45) (by decide) (by decide) ?_
        refine ⟨?_, N0, e3⟩
        show some ((Value.int (nar .boolean (1 : Int32))) : Value) = some (.int (f7 o0 p1 p2 lA lF hA hF bA bF wA nW wF))
        unfold f7; rw [if_neg hc7, if_neg hc17, if_neg hc37] <;> rfl
theorem d9_0 : DC B9 0 (.iload_n 2) 1 := by decide +kernel
theorem d9_1 : DC B9 1 (.aload_n 0) 1 := by decide +kernel
theorem d9_2 : DC B9 2 (.getfield 39) 3 := by decide +kernel
theorem d9_5 : DC B9 5 (.iload_n 1) 1 := by decide +kernel
theorem d9_6 : DC B9 6 (.iaload) 1 := by decide +kernel
theorem pd_6 : parseMethodDescriptor "(II)I" = some ⟨[.int, .int], some .int⟩ := by decide +kernel
theorem d9_7 : DC B9 7 (.invokestatic 71) 3 := by decide +kernel
theorem d9_10 : DC B9 10 (.istore_n 3) 1 := by decide +kernel
theorem d9_11 : DC B9 11 (.iload_n 3) 1 := by decide +kernel
theorem d9_12 : DC B9 12 (.aload_n 0) 1 := by decide +kernel
theorem d9_13 : DC B9 13 (.getfield 42) 3 := by decide +kernel
theorem d9_16 : DC B9 16 (.iload_n 1) 1 := by decide +kernel
theorem d9_17 : DC B9 17 (.iaload) 1 := by decide +kernel
theorem d9_18 : DC B9 18 (.if_icmp .le 5) 3 := by decide +kernel
theorem d9_21 : DC B9 21 (.iconst (-1)) 1 := by decide +kernel
theorem d9_22 : DC B9 22 (.ireturn) 1 := by decide +kernel
theorem d9_23 : DC B9 23 (.iload_n 3) 1 := by decide +kernel
theorem d9_24 : DC B9 24 (.bipush 6) 2 := by decide +kernel
theorem d9_26 : DC B9 26 (.iushr) 1 := by decide +kernel
theorem d9_27 : DC B9 27 (.istore 4) 2 := by decide +kernel
theorem d9_29 : DC B9 29 (.aload_n 0) 1 := by decide +kernel
theorem d9_30 : DC B9 30 (.getfield 32) 3 := by decide +kernel
theorem d9_33 : DC B9 33 (.iload_n 1) 1 := by decide +kernel
theorem d9_34 : DC B9 34 (.aaload) 1 := by decide +kernel
theorem d9_35 : DC B9 35 (.iload 4) 2 := by decide +kernel
theorem d9_37 : DC B9 37 (.laload) 1 := by decide +kernel
theorem d9_38 : DC B9 38 (.ldc2_w 52) 3 := by decide +kernel
theorem d9_41 : DC B9 41 (.iload_n 3) 1 := by decide +kernel
theorem d9_42 : DC B9 42 (.lshl) 1 := by decide +kernel
theorem d9_43 : DC B9 43 (.land) 1 := by decide +kernel
theorem d9_44 : DC B9 44 (.lstore 5) 2 := by decide +kernel
theorem d9_46 : DC B9 46 (.lload 5) 2 := by decide +kernel
theorem d9_48 : DC B9 48 (.lconst 0) 1 := by decide +kernel
theorem d9_49 : DC B9 49 (.lcmp) 1 := by decide +kernel
theorem d9_50 : DC B9 50 (.ifCond .ne 20) 3 := by decide +kernel
theorem d9_53 : DC B9 53 (.aload_n 0) 1 := by decide +kernel
theorem d9_54 : DC B9 54 (.getfield 32) 3 := by decide +kernel
theorem d9_57 : DC B9 57 (.iload_n 1) 1 := by decide +kernel
theorem d9_58 : DC B9 58 (.aaload) 1 := by decide +kernel
theorem d9_59 : DC B9 59 (.iinc 4 1) 3 := by decide +kernel
theorem d9_62 : DC B9 62 (.iload 4) 2 := by decide +kernel
theorem d9_64 : DC B9 64 (.laload) 1 := by decide +kernel
theorem d9_65 : DC B9 65 (.lstore 5) 2 := by decide +kernel
theorem d9_67 : DC B9 67 (.goto (-21)) 3 := by decide +kernel
theorem d9_70 : DC B9 70 (.iload 4) 2 := by decide +kernel
theorem d9_72 : DC B9 72 (.bipush 6) 2 := by decide +kernel
theorem d9_74 : DC B9 74 (.ishl) 1 := by decide +kernel
theorem d9_75 : DC B9 75 (.lload 5) 2 := by decide +kernel
theorem pd_11 : parseMethodDescriptor "(J)I" = some ⟨[.long], some .int⟩ := by decide +kernel
theorem d9_77 : DC B9 77 (.invokestatic 77) 3 := by decide +kernel
theorem d9_80 : DC B9 80 (.iadd) 1 := by decide +kernel
theorem d9_81 : DC B9 81 (.ireturn) 1 := by decide +kernel
def f9 (o0 : Addr) (p1 : Int32) (p2 : Int32) (lA : Addr) (lF : Nat → Int32) (hA : Addr) (hF : Nat → Int32) (bA : Addr) (bF : Nat → Value) (wA : Addr) (nW : Nat) (wF : Nat → Int64) : Int32 := (if (hF p1.toNatClampNeg) < (f10 p2 (lF p1.toNatClampNeg)) then (-1 : Int32) else (if ((wF (((f10 p2 (lF p1.toNatClampNeg)).toUInt32 >>> ((6 : Int32) &&& 31).toUInt32).toInt32).toNatClampNeg) &&& ((-1 : Int64) <<< ((f10 p2 (lF p1.toNatClampNeg)) &&& 0x3f).toInt64)) = (0 : Int64) then ((((((f10 p2 (lF p1.toNatClampNeg)).toUInt32 >>> ((6 : Int32) &&& 31).toUInt32).toInt32) + (1 : Int32)) <<< ((6 : Int32) &&& 31)) + (f23 (wF ((((f10 p2 (lF p1.toNatClampNeg)).toUInt32 >>> ((6 : Int32) &&& 31).toUInt32).toInt32) + (1 : Int32)).toNatClampNeg))) else (((((f10 p2 (lF p1.toNatClampNeg)).toUInt32 >>> ((6 : Int32) &&& 31).toUInt32).toInt32) <<< ((6 : Int32) &&& 31)) + (f23 ((wF (((f10 p2 (lF p1.toNatClampNeg)).toUInt32 >>> ((6 : Int32) &&& 31).toUInt32).toInt32).toNatClampNeg) &&& ((-1 : Int64) <<< ((f10 p2 (lF p1.toNatClampNeg)) &&& 0x3f).toInt64))))))
def Q9 (o0 : Addr) (p1 : Int32) (p2 : Int32) (lA : Addr) (lF : Nat → Int32) (hA : Addr) (hF : Nat → Int32) (bA : Addr) (bF : Nat → Value) (wA : Addr) (nW : Nat) (wF : Nat → Int64) (h0 : Heap) (n0 : Nat) (v : Option Value) (h : Heap) (L : List Loc) : Prop := v = some (.int (f9 o0 p1 p2 lA lF hA hF bA bF wA nW wF)) ∧ Fr n0 L ∧ h = h0
abbrev RM_2_0_0_29 : Room := { frames := 2, cells := 0, slots := 0, locals := 29 }
theorem ef_9_aaa (m : MethodId) (x0 : Addr) (x1 : Int32) (x2 : Int32) : entryFrame m #[(.ref x0), (.int x1), (.int x2)] 7 = mkF m 0 #[.val (.ref x0), .val (.int x1), .val (.int x2), .unset, .unset, .unset, .unset] [] := by first | (simp [entryFrame, mkF, argsToLocals, Value.category]; done) | rfl
theorem rm9 (l : Launch) (Z : State) (a0 : Array Value) (hw : HW a0 Z) (ws : List Jvm.Cond) (o0 : Addr) (p1 : Int32) (p2 : Int32) (lA : Addr) (lF : Nat → Int32) (hA : Addr) (hF : Nat → Int32) (bA : Addr) (bF : Nat → Value) (wA : Addr) (nW : Nat) (wF : Nat → Int64) (h0 : Heap) (n0 : Nat) (Z0 : n0 ≤ h0.size) (ha0 : Exa Z h0 o0 Dn) (ha1 : Fld Z h0 o0 Dn "low" "[I" (.ref lA)) (ha2 : AV Z h0 lA .int 2 (fun k => .int (lF k))) (ha3 : Fld Z h0 o0 Dn "high" "[I" (.ref hA)) (ha4 : AV Z h0 hA .int 2 (fun k => .int (hF k))) (ha5 : Fld Z h0 o0 Dn "bits" "[[J" (.ref bA)) (ha6 : AV Z h0 bA (.array .long) 2 bF) (ha7 : AV Z h0 wA .long nW (fun k => .long (wF k))) (hxb : ¬ p1 < 0 ∧ p1.toNatClampNeg < 2) (hbx : bF p1.toNatClampNeg = Value.ref wA) (hB1 : ¬ (hF p1.toNatClampNeg) < (f10 p2 (lF p1.toNatClampNeg)) → ¬ (((f10 p2 (lF p1.toNatClampNeg)).toUInt32 >>> ((6 : Int32) &&& 31).toUInt32).toInt32) < 0 ∧ (((f10 p2 (lF p1.toNatClampNeg)).toUInt32 >>> ((6 : Int32) &&& 31).toUInt32).toInt32).toNatClampNeg < nW) (hB2 : ¬ (hF p1.toNatClampNeg) < (f10 p2 (lF p1.toNatClampNeg)) → ((wF (((f10 p2 (lF p1.toNatClampNeg)).toUInt32 >>> ((6 : Int32) &&& 31).toUInt32).toInt32).toNatClampNeg) &&& ((-1 : Int64) <<< ((f10 p2 (lF p1.toNatClampNeg)) &&& 0x3f).toInt64)) = (0 : Int64) → ¬ ((((f10 p2 (lF p1.toNatClampNeg)).toUInt32 >>> ((6 : Int32) &&& 31).toUInt32).toInt32) + (1 : Int32)) < 0 ∧ ((((f10 p2 (lF p1.toNatClampNeg)).toUInt32 >>> ((6 : Int32) &&& 31).toUInt32).toInt32) + (1 : Int32)).toNatClampNeg < nW) (hT : ¬ (hF p1.toNatClampNeg) < (f10 p2 (lF p1.toNatClampNeg)) → ((wF (((f10 p2 (lF p1.toNatClampNeg)).toUInt32 >>> ((6 : Int32) &&& 31).toUInt32).toInt32).toNatClampNeg) &&& ((-1 : Int64) <<< ((f10 p2 (lF p1.toNatClampNeg)) &&& 0x3f).toInt64)) = (0 : Int64) → ¬ (wF ((((f10 p2 (lF p1.toNatClampNeg)).toUInt32 >>> ((6 : Int32) &&& 31).toUInt32).toInt32) + (1 : Int32)).toNatClampNeg) = (0 : Int64)) :
    MetFree l y9 (head1 (Jvm.Cond.code y9 prog_22_method_6_code 7 (some .int) :: ws) RM_2_0_0_29) (fun a U => a = #[(.ref o0), (.int p1), (.int p2)] ∧ Z.Warmed39 U.vm ∧ U.heap = h0) (fun _ _ _ _ _ => True) (fun _ U o U' => ∃ v L, o = .returned v ∧ Q9 o0 p1 p2 lA lF hA hF bA bF wA nW wF h0 n0 v U'.heap L ∧ FrameEnd U o U' L RM_2_0_0_29.cells RM_2_0_0_29.slots) := by
  refine MetFree.of_bodySF (plainFor_of_name pn_2) hisR ?_
  intro p e s m args below meth c s₁ Bd hml0 hP hK
  obtain ⟨rfl, hZ, hh⟩ := hP
  have hx := Bd.exec
  have hby := Bd.bytes
  have hml : c.maxLocals = 7 := hml0
  have hown : s.vm.findClass Dn = some m.cls := findClass_of_methodNamed Bd.named
  have X0 : Stand p l e RM_2_0_0_29 s m _ below meth c s₁ [] 0 0 := Stand.of_body Bd
  have e0 : s₁.heap = h0 := by rw [← hh, Bd.state]; rfl
  have N0 := Fr.nil n0
  refine Go.into (P := fun oo uu => ∃ v L, oo = .returned v ∧ Q9 o0 p1 p2 lA lF hA hF bA bF wA nW wF h0 n0 v uu.heap L ∧ FrameEnd s oo uu L RM_2_0_0_29.cells RM_2_0_0_29.slots) (ef_9_aaa m o0 p1 p2) ?_
  show Go p e below _ (s₁.setTop (mkF m 0 #[sR o0, sI p1, sI p2, .unset, .unset, .unset, .unset] []))
  refine Vi (s₁.setTop (mkF m 2 #[sR o0, sI p1, sI p2, .unset, .unset, .unset, .unset] [(.ref o0), (.int p2)])) (fun tZ kZ => ?_) ?_
  · refine XS.iloadN X0.here hx rfl (hb hby d9_0) rfl ?_
    refine XS.aloadN X0.here hx rfl (hb hby d9_1) rfl rfl ?_
    exact kZ
  refine GF X0 hx hZ hown (wq hw 37 rfl) e0 ha1 (hb hby d9_2) fun T1 X1 e1 => ?_
  refine Vi (T1.setTop (mkF m 7 #[sR o0, sI p1, sI p2, .unset, .unset, .unset, .unset] [(.int (lF p1.toNatClampNeg)), (.int p2)])) (fun tZ kZ => ?_) ?_
  · refine XS.iloadN X1.here hx rfl (hb hby d9_5) rfl ?_
    refine AV.iaload ha2 X1 hx hZ e1 (j := p1) hxb (hb hby d9_6) ?_
    exact kZ
  obtain ⟨_, _, ⟨T2, L2, k2, n2⟩, -, X2, ⟨Lc2, hQ2, l2, y2, z2⟩, st2⟩ := Jvm.LawKit.callS X1 hx (y := y10) hown (wz hZ hw 88 rfl) (wz hZ hw 89 rfl) (wz hZ hw 90 rfl) (wz hZ hw 91 rfl) (by decide) (backOf (W := 0) (rm10 l Z a0 hw [] p2 (lF p1.toNatClampNeg) h0 n0 Z0 ) hZ (wq hw 91 rfl) (wq hw 90 rfl) (by decide) (by decide)) (g := (mkF m 7 #[sR o0, sI p1, sI p2, .unset, .unset, .unset, .unset] [(.int (lF p1.toNatClampNeg)), (.int p2)])) rfl (by rw [hml]; rfl) (argsL := [(.int p2), (.int (lF p1.toNatClampNeg))]) (rest := []) (lenOf pd_6 rfl) rfl (leW rfl) (hb hby d9_7) (fun _ _ => ⟨rfl, e1, (by decide : 0 + 0 ≤ _), (by decide : 0 + 0 ≤ _)⟩)
  dsimp only [Pt.U, Pt.locs, Pt.cells, Pt.slots] at X2 l2 y2 z2 st2 hQ2
  subst l2 y2 z2
  obtain ⟨rfl, N2q, e2⟩ := hQ2
  have N2 := Fr.app N0 N2q
  refine Go.via st2 ?_
  refine Vi (T2.setTop (mkF m 13 #[sR o0, sI p1, sI p2, sI (f10 p2 (lF p1.toNatClampNeg)), .unset, .unset, .unset] [(.ref o0), (.int (f10 p2 (lF p1.toNatClampNeg)))])) (fun tZ kZ => ?_) ?_
  · refine XS.istoreN X2.here hx rfl (hb hby d9_10) rfl (l' := #[sR o0, sI p1, sI p2, sI (f10 p2 (lF p1.toNatClampNeg)), .unset, .unset, .unset]) rfl ?_
    refine XS.iloadN X2.here hx rfl (hb hby d9_11) rfl ?_
    refine XS.aloadN X2.here hx rfl (hb hby d9_12) rfl rfl ?_
    exact kZ
  refine GF X2 hx hZ hown (wq hw 39 rfl) e2 ha3 (hb hby d9_13) fun T3 X3 e3 => ?_
  refine Vi (T3.setTop (mkF m 18 #[sR o0, sI p1, sI p2, sI (f10 p2 (lF p1.toNatClampNeg)), .unset, .unset, .unset] [(.int (hF p1.toNatClampNeg)), (.int (f10 p2 (lF p1.toNatClampNeg)))])) (fun tZ kZ => ?_) ?_
  · refine XS.iloadN X3.here hx rfl (hb hby d9_16) rfl ?_
    refine AV.iaload ha4 X3 hx hZ e3 (j := p1) hxb (hb hby d9_17) ?_
    exact kZ
  by_cases hc18 : (hF p1.toNatClampNeg) < (f10 p2 (lF p1.toNatClampNeg))
  · refine Vi (T3.setTop (mkF m 21 #[sR o0, sI p1, sI p2, sI (f10 p2 (lF p1.toNatClampNeg)), .unset, .unset, .unset] [])) (fun tZ kZ => ?_) ?_
    · show Steps p.tables e below (T3.setTop (mkF m 18 #[sR o0, sI p1, sI p2, sI (f10 p2 (lF p1.toNatClampNeg)), .unset, .unset, .unset] [(.int (hF p1.toNatClampNeg)), (.int (f10 p2 (lF p1.toNatClampNeg)))])) _
      refine XS.icmpNo X3.here hx rfl (hb hby d9_18) rfl (tlt hc18).2.2.2 ?_
      exact kZ
    refine Vi (T3.setTop (mkF m 22 #[sR o0, sI p1, sI p2, sI (f10 p2 (lF p1.toNatClampNeg)), .unset, .unset, .unset] [(.int (-1))])) (fun tZ kZ => ?_) ?_
    · refine XS.iconst X3.here hx rfl (hb hby d9_21) ?_
      exact kZ
    refine Go.retI X3 hx Bd.notSynchronized Bd.returns (hb hby d9_22) (by decide) (by decide) ?_
    refine ⟨?_, N2, e3⟩
    show some ((.int (-1)) : Value) = some (.int (f9 o0 p1 p2 lA lF hA hF bA bF wA nW wF))
    unfold f9; rw [if_pos hc18] <;> rfl
  · refine Vi (T3.setTop (mkF m 23 #[sR o0, sI p1, sI p2, sI (f10 p2 (lF p1.toNatClampNeg)), .unset, .unset, .unset] [])) (fun tZ kZ => ?_) ?_
    · show Steps p.tables e below (T3.setTop (mkF m 18 #[sR o0, sI p1, sI p2, sI (f10 p2 (lF p1.toNatClampNeg)), .unset, .unset, .unset] [(.int (hF p1.toNatClampNeg)), (.int (f10 p2 (lF p1.toNatClampNeg)))])) _
      refine XS.icmpYes X3.here hx rfl (pc0 := 18) (pc' := 23) rfl (hb hby d9_18) rfl (flt hc18).2.2.2 (by decide) (by decide) ?_
      exact kZ
    refine Vi (T3.setTop (mkF m 30 #[sR o0, sI p1, sI p2, sI (f10 p2 (lF p1.toNatClampNeg)), sI (((f10 p2 (lF p1.toNatClampNeg)).toUInt32 >>> ((6 : Int32) &&& 31).toUInt32).toInt32), .unset, .unset] [(.ref o0)])) (fun tZ kZ => ?_) ?_
    · refine XS.iloadN X3.here hx rfl (hb hby d9_23) rfl ?_
      refine XS.bipush X3.here hx rfl (hb hby d9_24) ?_
      refine XS.iushr X3.here hx rfl (hb hby d9_26) rfl ?_
      refine XS.istore X3.here hx rfl (hb hby d9_27) rfl (l' := #[sR o0, sI p1, sI p2, sI (f10 p2 (lF p1.toNatClampNeg)), sI (((f10 p2 (lF p1.toNatClampNeg)).toUInt32 >>> ((6 : Int32) &&& 31).toUInt32).toInt32), .unset, .unset]) rfl ?_
      refine XS.aloadN X3.here hx rfl (hb hby d9_29) rfl rfl ?_
      exact kZ
    refine GF X3 hx hZ hown (wq hw 33 rfl) e3 ha5 (hb hby d9_30) fun T4 X4 e4 => ?_
    refine Vi (T4.setTop (mkF m 50 #[sR o0, sI p1, sI p2, sI (f10 p2 (lF p1.toNatClampNeg)), sI (((f10 p2 (lF p1.toNatClampNeg)).toUInt32 >>> ((6 : Int32) &&& 31).toUInt32).toInt32), .val (.long ((wF (((f10 p2 (lF p1.toNatClampNeg)).toUInt32 >>> ((6 : Int32) &&& 31).toUInt32).toInt32).toNatClampNeg) &&& ((-1 : Int64) <<< ((f10 p2 (lF p1.toNatClampNeg)) &&& 0x3f).toInt64))), .second] [(.int (lcmpW ((wF (((f10 p2 (lF p1.toNatClampNeg)).toUInt32 >>> ((6 : Int32) &&& 31).toUInt32).toInt32).toNatClampNeg) &&& ((-1 : Int64) <<< ((f10 p2 (lF p1.toNatClampNeg)) &&& 0x3f).toInt64)) (0 : Int64)))])) (fun tZ kZ => ?_) ?_
    · refine XS.iloadN X4.here hx rfl (hb hby d9_33) rfl ?_
      refine AV.aaload ha6 rfl X4 hx hZ e4 (j := p1) hxb (hb hby d9_34) ?_
      rw [hbx]
      refine XS.iload X4.here hx rfl (hb hby d9_35) rfl ?_
      refine AV.laload ha7 X4 hx hZ e4 (j := (((f10 p2 (lF p1.toNatClampNeg)).toUInt32 >>> ((6 : Int32) &&& 31).toUInt32).toInt32)) (hB1 hc18) (hb hby d9_37) ?_
      refine X4.ldc2Long hx hown (wz hZ hw 52 rfl) (g := (mkF m 38 #[sR o0, sI p1, sI p2, sI (f10 p2 (lF p1.toNatClampNeg)), sI (((f10 p2 (lF p1.toNatClampNeg)).toUInt32 >>> ((6 : Int32) &&& 31).toUInt32).toInt32), .unset, .unset] [(.long (wF (((f10 p2 (lF p1.toNatClampNeg)).toUInt32 >>> ((6 : Int32) &&& 31).toUInt32).toInt32).toNatClampNeg))])) rfl (hb hby d9_38) _ ?_
      refine XS.iloadN X4.here hx rfl (hb hby d9_41) rfl ?_
      refine XS.lshl X4.here hx rfl (hb hby d9_42) rfl ?_
      refine XS.land X4.here hx rfl (hb hby d9_43) rfl ?_
      refine XS.lstore X4.here hx rfl (hb hby d9_44) rfl (l' := #[sR o0, sI p1, sI p2, sI (f10 p2 (lF p1.toNatClampNeg)), sI (((f10 p2 (lF p1.toNatClampNeg)).toUInt32 >>> ((6 : Int32) &&& 31).toUInt32).toInt32), .val (.long ((wF (((f10 p2 (lF p1.toNatClampNeg)).toUInt32 >>> ((6 : Int32) &&& 31).toUInt32).toInt32).toNatClampNeg) &&& ((-1 : Int64) <<< ((f10 p2 (lF p1.toNatClampNeg)) &&& 0x3f).toInt64))), .second]) rfl ?_
      refine XS.lload X4.here hx rfl (hb hby d9_46) rfl ?_
      refine XS.lconst X4.here hx rfl (hb hby d9_48) ?_
      refine XS.lcmp X4.here hx rfl (hb hby d9_49) rfl ?_
      exact kZ
    by_cases hc50 : ((wF (((f10 p2 (lF p1.toNatClampNeg)).toUInt32 >>> ((6 : Int32) &&& 31).toUInt32).toInt32).toNatClampNeg) &&& ((-1 : Int64) <<< ((f10 p2 (lF p1.toNatClampNeg)) &&& 0x3f).toInt64)) = (0 : Int64)
    · refine Vi (T4.setTop (mkF m 53 #[sR o0, sI p1, sI p2, sI (f10 p2 (lF p1.toNatClampNeg)), sI (((f10 p2 (lF p1.toNatClampNeg)).toUInt32 >>> ((6 : Int32) &&& 31).toUInt32).toInt32), .val (.long ((wF (((f10 p2 (lF p1.toNatClampNeg)).toUInt32 >>> ((6 : Int32) &&& 31).toUInt32).toInt32).toNatClampNeg) &&& ((-1 : Int64) <<< ((f10 p2 (lF p1.toNatClampNeg)) &&& 0x3f).toInt64))), .second] [])) (fun tZ kZ => ?_) ?_
      · show Steps p.tables e below (T4.setTop (mkF m 50 #[sR o0, sI p1, sI p2, sI (f10 p2 (lF p1.toNatClampNeg)), sI (((f10 p2 (lF p1.toNatClampNeg)).toUInt32 >>> ((6 : Int32) &&& 31).toUInt32).toInt32), .val (.long ((wF (((f10 p2 (lF p1.toNatClampNeg)).toUInt32 >>> ((6 : Int32) &&& 31).toUInt32).toInt32).toNatClampNeg) &&& ((-1 : Int64) <<< ((f10 p2 (lF p1.toNatClampNeg)) &&& 0x3f).toInt64))), .second] [(.int (lcmpW ((wF (((f10 p2 (lF p1.toNatClampNeg)).toUInt32 >>> ((6 : Int32) &&& 31).toUInt32).toInt32).toNatClampNeg) &&& ((-1 : Int64) <<< ((f10 p2 (lF p1.toNatClampNeg)) &&& 0x3f).toInt64)) (0 : Int64)))])) _
        refine XS.ifNo X4.here hx rfl (hb hby d9_50) rfl ((if0 _ _).trans (teq ((lw_eq _ _).mpr hc50)).2) ?_
        exact kZ
      refine Vi (T4.setTop (mkF m 54 #[sR o0, sI p1, sI p2, sI (f10 p2 (lF p1.toNatClampNeg)), sI (((f10 p2 (lF p1.toNatClampNeg)).toUInt32 >>> ((6 : Int32) &&& 31).toUInt32).toInt32), .val (.long ((wF (((f10 p2 (lF p1.toNatClampNeg)).toUInt32 >>> ((6 : Int32) &&& 31).toUInt32).toInt32).toNatClampNeg) &&& ((-1 : Int64) <<< ((f10 p2 (lF p1.toNatClampNeg)) &&& 0x3f).toInt64))), .second] [(.ref o0)])) (fun tZ kZ => ?_) ?_
      · refine XS.aloadN X4.here hx rfl (hb hby d9_53) rfl rfl ?_
        exact kZ
      refine GF X4 hx hZ hown (wq hw 33 rfl) e4 ha5 (hb hby d9_54) fun T5 X5 e5 => ?_
      refine Vi (T5.setTop (mkF m 77 #[sR o0, sI p1, sI p2, sI (f10 p2 (lF p1.toNatClampNeg)), sI ((((f10 p2 (lF p1.toNatClampNeg)).toUInt32 >>> ((6 : Int32) &&& 31).toUInt32).toInt32) + (1 : Int32)), .val (.long (wF ((((f10 p2 (lF p1.toNatClampNeg)).toUInt32 >>> ((6 : Int32) &&& 31).toUInt32).toInt32) + (1 : Int32)).toNatClampNeg)), .second] [(.long (wF ((((f10 p2 (lF p1.toNatClampNeg)).toUInt32 >>> ((6 : Int32) &&& 31).toUInt32).toInt32) + (1 : Int32)).toNatClampNeg)), (.int (((((f10 p2 (lF p1.toNatClampNeg)).toUInt32 >>> ((6 : Int32) &&& 31).toUInt32).toInt32) + (1 : Int32)) <<< ((6 : Int32) &&& 31)))])) (fun tZ kZ => ?_) ?_
      · refine XS.iloadN X5.here hx rfl (hb hby d9_57) rfl ?_
        refine AV.aaload ha6 rfl X5 hx hZ e5 (j := p1) hxb (hb hby d9_58) ?_
        rw [hbx]
        refine XS.iinc X5.here hx rfl (hb hby d9_59) rfl (l' := #[sR o0, sI p1, sI p2, sI (f10 p2 (lF p1.toNatClampNeg)), sI ((((f10 p2 (lF p1.toNatClampNeg)).toUInt32 >>> ((6 : Int32) &&& 31).toUInt32).toInt32) + (1 : Int32)), .val (.long ((wF (((f10 p2 (lF p1.toNatClampNeg)).toUInt32 >>> ((6 : Int32) &&& 31).toUInt32).toInt32).toNatClampNeg) &&& ((-1 : Int64) <<< ((f10 p2 (lF p1.toNatClampNeg)) &&& 0x3f).toInt64))), .second]) rfl ?_
        refine XS.iload X5.here hx rfl (hb hby d9_62) rfl ?_
        refine AV.laload ha7 X5 hx hZ e5 (j := ((((f10 p2 (lF p1.toNatClampNeg)).toUInt32 >>> ((6 : Int32) &&& 31).toUInt32).toInt32) + (1 : Int32))) (hB2 hc18 hc50) (hb hby d9_64) ?_
        refine XS.lstore X5.here hx rfl (hb hby d9_65) rfl (l' := #[sR o0, sI p1, sI p2, sI (f10 p2 (lF p1.toNatClampNeg)), sI ((((f10 p2 (lF p1.toNatClampNeg)).toUInt32 >>> ((6 : Int32) &&& 31).toUInt32).toInt32) + (1 : Int32)), .val (.long (wF ((((f10 p2 (lF p1.toNatClampNeg)).toUInt32 >>> ((6 : Int32) &&& 31).toUInt32).toInt32) + (1 : Int32)).toNatClampNeg)), .second]) rfl ?_
        refine XS.goto X5.here hx rfl (pc0 := 67) (pc' := 46) rfl (hb hby d9_67) (by decide) (by decide) ?_
        refine XS.lload X5.here hx rfl (hb hby d9_46) rfl ?_
        refine XS.lconst X5.here hx rfl (hb hby d9_48) ?_
        refine XS.lcmp X5.here hx rfl (hb hby d9_49) rfl ?_
        refine XS.ifYes X5.here hx rfl (pc0 := 50) (pc' := 70) rfl (hb hby d9_50) rfl ((if0 _ _).trans (feq (fun q => absurd ((lw_eq _ _).mp q) (hT hc18 hc50))).2) (by decide) (by decide) ?_
        refine XS.iload X5.here hx rfl (hb hby d9_70) rfl ?_
        refine XS.bipush X5.here hx rfl (hb hby d9_72) ?_
        refine XS.ishl X5.here hx rfl (hb hby d9_74) rfl ?_
        refine XS.lload X5.here hx rfl (hb hby d9_75) rfl ?_
        exact kZ
      obtain ⟨_, _, ⟨T6, L6, k6, n6⟩, -, X6, ⟨Lc6, hQ6, l6, y6, z6⟩, st6⟩ := Jvm.LawKit.callS X5 hx (y := y23) hown (wz hZ hw 148 rfl) (wz hZ hw 149 rfl) (wz hZ hw 136 rfl) (wz hZ hw 150 rfl) (by decide) (backOf (W := 1) (rm23 l Z a0 hw [] (wF ((((f10 p2 (lF p1.toNatClampNeg)).toUInt32 >>> ((6 : Int32) &&& 31).toUInt32).toInt32) + (1 : Int32)).toNatClampNeg) h0 n0 Z0 ) hZ (wq hw 150 rfl) (wq hw 136 rfl) (by decide) (by decide)) (g := (mkF m 77 #[sR o0, sI p1, sI p2, sI (f10 p2 (lF p1.toNatClampNeg)), sI ((((f10 p2 (lF p1.toNatClampNeg)).toUInt32 >>> ((6 : Int32) &&& 31).toUInt32).toInt32) + (1 : Int32)), .val (.long (wF ((((f10 p2 (lF p1.toNatClampNeg)).toUInt32 >>> ((6 : Int32) &&& 31).toUInt32).toInt32) + (1 : Int32)).toNatClampNeg)), .second] [(.long (wF ((((f10 p2 (lF p1.toNatClampNeg)).toUInt32 >>> ((6 : Int32) &&& 31).toUInt32).toInt32) + (1 : Int32)).toNatClampNeg)), (.int (((((f10 p2 (lF p1.toNatClampNeg)).toUInt32 >>> ((6 : Int32) &&& 31).toUInt32).toInt32) + (1 : Int32)) <<< ((6 : Int32) &&& 31)))])) rfl (by rw [hml]; rfl) (argsL := [(.long (wF ((((f10 p2 (lF p1.toNatClampNeg)).toUInt32 >>> ((6 : Int32) &&& 31).toUInt32).toInt32) + (1 : Int32)).toNatClampNeg))]) (rest := [(.int (((((f10 p2 (lF p1.toNatClampNeg)).toUInt32 >>> ((6 : Int32) &&& 31).toUInt32).toInt32) + (1 : Int32)) <<< ((6 : Int32) &&& 31)))]) (lenOf pd_11 rfl) rfl (leW rfl) (hb hby d9_77) (fun _ _ => ⟨rfl, e5, (by decide : 0 + 0 + 0 ≤ _), (by decide : 0 + 0 + 0 ≤ _)⟩)
      dsimp only [Pt.U, Pt.locs, Pt.cells, Pt.slots] at X6 l6 y6 z6 st6 hQ6
      subst l6 y6 z6
      obtain ⟨rfl, N6q, e6⟩ := hQ6
      have N6 := Fr.app N2 N6q
      refine Go.via st6 ?_
      refine Vi (T6.setTop (mkF m 81 #[sR o0, sI p1, sI p2, sI (f10 p2 (lF p1.toNatClampNeg)), sI ((((f10 p2 (lF p1.toNatClampNeg)).toUInt32 >>> ((6 : Int32) &&& 31).toUInt32).toInt32) + (1 : Int32)), .val (.long (wF ((((f10 p2 (lF p1.toNatClampNeg)).toUInt32 >>> ((6 : Int32) &&& 31).toUInt32).toInt32) + (1 : Int32)).toNatClampNeg)), .second] [(.int ((((((f10 p2 (lF p1.toNatClampNeg)).toUInt32 >>> ((6 : Int32) &&& 31).toUInt32).toInt32) + (1 : Int32)) <<< ((6 : Int32) &&& 31)) + (f23 (wF ((((f10 p2 (lF p1.toNatClampNeg)).toUInt32 >>> ((6 : Int32) &&& 31).toUInt32).toInt32) + (1 : Int32)).toNatClampNeg))))])) (fun tZ kZ => ?_) ?_
      · refine XS.iadd X6.here hx rfl (hb hby d9_80) rfl ?_
        exact kZ
      refine Go.retI X6 hx Bd.notSynchronized Bd.returns (hb hby d9_81) (by decide) (by decide) ?_
      refine ⟨?_, N6, e6⟩
      show some ((.int ((((((f10 p2 (lF p1.toNatClampNeg)).toUInt32 >>> ((6 : Int32) &&& 31).toUInt32).toInt32) + (1 : Int32)) <<< ((6 : Int32) &&& 31)) + (f23 (wF ((((f10 p2 (lF p1.toNatClampNeg)).toUInt32 >>> ((6 : Int32) &&& 31).toUInt32).toInt32) + (1 : Int32)).toNatClampNeg)))) : Value) = some (.int (f9 o0 p1 p2 lA lF hA hF bA bF wA nW wF))
      unfold f9; rw [if_neg hc18, if_pos hc50] <;> rfl
    · refine Vi (T4.setTop (mkF m 70 #[sR o0, sI p1, sI p2, sI (f10 p2 (lF p1.toNatClampNeg)), sI (((f10 p2 (lF p1.toNatClampNeg)).toUInt32 >>> ((6 : Int32) &&& 31).toUInt32).toInt32), .val (.long ((wF (((f10 p2 (lF p1.toNatClampNeg)).toUInt32 >>> ((6 : Int32) &&& 31).toUInt32).toInt32).toNatClampNeg) &&& ((-1 : Int64) <<< ((f10 p2 (lF p1.toNatClampNeg)) &&& 0x3f).toInt64))), .second] [])) (fun tZ kZ => ?_) ?_
      · show Steps p.tables e below (T4.setTop (mkF m 50 #[sR o0, sI p1, sI p2, sI (f10 p2 (lF p1.toNatClampNeg)), sI (((f10 p2 (lF p1.toNatClampNeg)).toUInt32 >>> ((6 : Int32) &&& 31).toUInt32).toInt32), .val (.long ((wF (((f10 p2 (lF p1.toNatClampNeg)).toUInt32 >>> ((6 : Int32) &&& 31).toUInt32).toInt32).toNatClampNeg) &&& ((-1 : Int64) <<< ((f10 p2 (lF p1.toNatClampNeg)) &&& 0x3f).toInt64))), .second] [(.int (lcmpW ((wF (((f10 p2 (lF p1.toNatClampNeg)).toUInt32 >>> ((6 : Int32) &&& 31).toUInt32).toInt32).toNatClampNeg) &&& ((-1 : Int64) <<< ((f10 p2 (lF p1.toNatClampNeg)) &&& 0x3f).toInt64)) (0 : Int64)))])) _
        refine XS.ifYes X4.here hx rfl (pc0 := 50) (pc' := 70) rfl (hb hby d9_50) rfl ((if0 _ _).trans (feq (fun q => absurd ((lw_eq _ _).mp q) hc50)).2) (by decide) (by decide) ?_
        exact kZ
      refine Vi (T4.setTop (mkF m 77 #[sR o0, sI p1, sI p2, sI (f10 p2 (lF p1.toNatClampNeg)), sI (((f10 p2 (lF p1.toNatClampNeg)).toUInt32 >>> ((6 : Int32) &&& 31).toUInt32).toInt32), .val (.long ((wF (((f10 p2 (lF p1.toNatClampNeg)).toUInt32 >>> ((6 : Int32) &&& 31).toUInt32).toInt32).toNatClampNeg) &&& ((-1 : Int64) <<< ((f10 p2 (lF p1.toNatClampNeg)) &&& 0x3f).toInt64))), .second] [(.long ((wF (((f10 p2 (lF p1.toNatClampNeg)).toUInt32 >>> ((6 : Int32) &&& 31).toUInt32).toInt32).toNatClampNeg) &&& ((-1 : Int64) <<< ((f10 p2 (lF p1.toNatClampNeg)) &&& 0x3f).toInt64))), (.int ((((f10 p2 (lF p1.toNatClampNeg)).toUInt32 >>> ((6 : Int32) &&& 31).toUInt32).toInt32) <<< ((6 : Int32) &&& 31)))])) (fun tZ kZ => ?_) ?_
      · refine XS.iload X4.here hx rfl (hb hby d9_70) rfl ?_
        refine XS.bipush X4.here hx rfl (hb hby d9_72) ?_
        refine XS.ishl X4.here hx rfl (hb hby d9_74) rfl ?_
        refine XS.lload X4.here hx rfl (hb hby d9_75) rfl ?_
        exact kZ
      obtain ⟨_, _, ⟨T7, L7, k7, n7⟩, -, X7, ⟨Lc7, hQ7, l7, y7, z7⟩, st7⟩ := Jvm.LawKit.callS X4 hx (y := y23) hown (wz hZ hw 148 rfl) (wz hZ hw 149 rfl) (wz hZ hw 136 rfl) (wz hZ hw 150 rfl) (by decide) (backOf (W := 1) (rm23 l Z a0 hw [] ((wF (((f10 p2 (lF p1.toNatClampNeg)).toUInt32 >>> ((6 : Int32) &&& 31).toUInt32).toInt32).toNatClampNeg) &&& ((-1 : Int64) <<< ((f10 p2 (lF p1.toNatClampNeg)) &&& 0x3f).toInt64)) h0 n0 Z0 ) hZ (wq hw 150 rfl) (wq hw 136 rfl) (by decide) (by decide)) (g := (mkF m 77 #[sR o0, sI p1, sI p2, sI (f10 p2 (lF p1.toNatClampNeg)), sI (((f10 p2 (lF p1.toNatClampNeg)).toUInt32 >>> ((6 : Int32) &&& 31).toUInt32).toInt32), .val (.long ((wF (((f10 p2 (lF p1.toNatClampNeg)).toUInt32 >>> ((6 : Int32) &&& 31).toUInt32).toInt32).toNatClampNeg) &&& ((-1 : Int64) <<< ((f10 p2 (lF p1.toNatClampNeg)) &&& 0x3f).toInt64))), .second] [(.long ((wF (((f10 p2 (lF p1.toNatClampNeg)).toUInt32 >>> ((6 : Int32) &&& 31).toUInt32).toInt32).toNatClampNeg) &&& ((-1 : Int64) <<< ((f10 p2 (lF p1.toNatClampNeg)) &&& 0x3f).toInt64))), (.int ((((f10 p2 (lF p1.toNatClampNeg)).toUInt32 >>> ((6 : Int32) &&& 31).toUInt32).toInt32) <<< ((6 : Int32) &&& 31)))])) rfl (by rw [hml]; rfl) (argsL := [(.long ((wF (((f10 p2 (lF p1.toNatClampNeg)).toUInt32 >>> ((6 : Int32) &&& 31).toUInt32).toInt32).toNatClampNeg) &&& ((-1 : Int64) <<< ((f10 p2 (lF p1.toNatClampNeg)) &&& 0x3f).toInt64)))]) (rest := [(.int ((((f10 p2 (lF p1.toNatClampNeg)).toUInt32 >>> ((6 : Int32) &&& 31).toUInt32).toInt32) <<< ((6 : Int32) &&& 31)))]) (lenOf pd_11 rfl) rfl (leW rfl) (hb hby d9_77) (fun _ _ => ⟨rfl, e4, (by decide : 0 + 0 + 0 ≤ _), (by decide : 0 + 0 + 0 ≤ _)⟩)
      dsimp only [Pt.U, Pt.locs, Pt.cells, Pt.slots] at X7 l7 y7 z7 st7 hQ7
      subst l7 y7 z7
      obtain ⟨rfl, N7q, e7⟩ := hQ7
      have N7 := Fr.app N2 N7q
      refine Go.via st7 ?_
      refine Vi (T7.setTop (mkF m 81 #[sR o0, sI p1, sI p2, sI (f10 p2 (lF p1.toNatClampNeg)), sI (((f10 p2 (lF p1.toNatClampNeg)).toUInt32 >>> ((6 : Int32) &&& 31).toUInt32).toInt32), .val (.long ((wF (((f10 p2 (lF p1.toNatClampNeg)).toUInt32 >>> ((6 : Int32) &&& 31).toUInt32).toInt32).toNatClampNeg) &&& ((-1 : Int64) <<< ((f10 p2 (lF p1.toNatClampNeg)) &&& 0x3f).toInt64))), .second] [(.int (((((f10 p2 (lF p1.toNatClampNeg)).toUInt32 >>> ((6 : Int32) &&& 31).toUInt32).toInt32) <<< ((6 : Int32) &&& 31)) + (f23 ((wF (((f10 p2 (lF p1.toNatClampNeg)).toUInt32 >>> ((6 : Int32) &&& 31).toUInt32).toInt32).toNatClampNeg) &&& ((-1 : Int64) <<< ((f10 p2 (lF p1.toNatClampNeg)) &&& 0x3f).toInt64)))))])) (fun tZ kZ => ?_) ?_
      · refine XS.iadd X7.here hx rfl (hb hby d9_80) rfl ?_
        exact kZ
      refine Go.retI X7 hx Bd.notSynchronized Bd.returns (hb hby d9_81) (by decide) (by decide) ?_
      refine ⟨?_, N7, e7⟩
      show some ((.int (((((f10 p2 (lF p1.toNatClampNeg)).toUInt32 >>> ((6 : Int32) &&& 31).toUInt32).toInt32) <<< ((6 : Int32) &&& 31)) + (f23 ((wF (((f10 p2 (lF p1.toNatClampNeg)).toUInt32 >>> ((6 : Int32) &&& 31).toUInt32).toInt32).toNatClampNeg) &&& ((-1 : Int64) <<< ((f10 p2 (lF p1.toNatClampNeg)) &&& 0x3f).toInt64))))) : Value) = some (.int (f9 o0 p1 p2 lA lF hA hF bA bF wA nW wF))
      unfold f9; rw [if_neg hc18, if_neg hc50] <;> rfl
theorem d18_0 : DC B18 0 (.iload_n 2) 1 := by decide +kernel
theorem d18_1 : DC B18 1 (.aload_n 0) 1 := by decide +kernel
theorem d18_2 : DC B18 2 (.getfield 42) 3 := by decide +kernel
theorem d18_5 : DC B18 5 (.iload_n 1) 1 := by decide +kernel
theorem d18_6 : DC B18 6 (.iaload) 1 := by decide +kernel
theorem d18_7 : DC B18 7 (.invokestatic 83) 3 := by decide +kernel
theorem d18_10 : DC B18 10 (.istore_n 3) 1 := by decide +kernel
theorem d18_11 : DC B18 11 (.iload_n 3) 1 := by decide +kernel
theorem d18_12 : DC B18 12 (.aload_n 0) 1 := by decide +kernel
theorem d18_13 : DC B18 13 (.getfield 39) 3 := by decide +kernel
theorem d18_16 : DC B18 16 (.iload_n 1) 1 := by decide +kernel
theorem d18_17 : DC B18 17 (.iaload) 1 := by decide +kernel
theorem d18_18 : DC B18 18 (.if_icmp .ge 5) 3 := by decide +kernel
theorem d18_21 : DC B18 21 (.iconst (-1)) 1 := by decide +kernel
theorem d18_22 : DC B18 22 (.ireturn) 1 := by decide +kernel
theorem d18_23 : DC B18 23 (.iload_n 3) 1 := by decide +kernel
theorem d18_24 : DC B18 24 (.bipush 6) 2 := by decide +kernel
theorem d18_26 : DC B18 26 (.iushr) 1 := by decide +kernel
theorem d18_27 : DC B18 27 (.istore 4) 2 := by decide +kernel
theorem d18_29 : DC B18 29 (.aload_n 0) 1 := by decide +kernel
theorem d18_30 : DC B18 30 (.getfield 32) 3 := by decide +kernel
theorem d18_33 : DC B18 33 (.iload_n 1) 1 := by decide +kernel
theorem d18_34 : DC B18 34 (.aaload) 1 := by decide +kernel
theorem d18_35 : DC B18 35 (.iload 4) 2 := by decide +kernel
theorem d18_37 : DC B18 37 (.laload) 1 := by decide +kernel
theorem d18_38 : DC B18 38 (.ldc2_w 52) 3 := by decide +kernel
theorem d18_41 : DC B18 41 (.bipush 63) 2 := by decide +kernel
theorem d18_43 : DC B18 43 (.iload_n 3) 1 := by decide +kernel
theorem d18_44 : DC B18 44 (.bipush 63) 2 := by decide +kernel
theorem d18_46 : DC B18 46 (.iand) 1 := by decide +kernel
theorem d18_47 : DC B18 47 (.isub) 1 := by decide +kernel
theorem d18_48 : DC B18 48 (.lushr) 1 := by decide +kernel
theorem d18_49 : DC B18 49 (.land) 1 := by decide +kernel
theorem d18_50 : DC B18 50 (.lstore 5) 2 := by decide +kernel
theorem d18_52 : DC B18 52 (.lload 5) 2 := by decide +kernel
theorem d18_54 : DC B18 54 (.lconst 0) 1 := by decide +kernel
theorem d18_55 : DC B18 55 (.lcmp) 1 := by decide +kernel
theorem d18_56 : DC B18 56 (.ifCond .ne 20) 3 := by decide +kernel
theorem d18_59 : DC B18 59 (.aload_n 0) 1 := by decide +kernel
theorem d18_60 : DC B18 60 (.getfield 32) 3 := by decide +kernel
theorem d18_63 : DC B18 63 (.iload_n 1) 1 := by decide +kernel
theorem d18_64 : DC B18 64 (.aaload) 1 := by decide +kernel
theorem d18_65 : DC B18 65 (.iinc 4 (-1)) 3 := by decide +kernel
theorem d18_68 : DC B18 68 (.iload 4) 2 := by decide +kernel
theorem d18_70 : DC B18 70 (.laload) 1 := by decide +kernel
theorem d18_71 : DC B18 71 (.lstore 5) 2 := by decide +kernel
theorem d18_73 : DC B18 73 (.goto (-21)) 3 := by decide +kernel
theorem d18_76 : DC B18 76 (.iload 4) 2 := by decide +kernel
theorem d18_78 : DC B18 78 (.bipush 6) 2 := by decide +kernel
theorem d18_80 : DC B18 80 (.ishl) 1 := by decide +kernel
theorem d18_81 : DC B18 81 (.bipush 63) 2 := by decide +kernel
theorem d18_83 : DC B18 83 (.iadd) 1 := by decide +kernel
theorem d18_84 : DC B18 84 (.lload 5) 2 := by decide +kernel
theorem d18_86 : DC B18 86 (.invokestatic 86) 3 := by decide +kernel
theorem d18_89 : DC B18 89 (.isub) 1 := by decide +kernel
theorem d18_90 : DC B18 90 (.ireturn) 1 := by decide +kernel
def f18 (o0 : Addr) (p1 : Int32) (p2 : Int32) (lA : Addr) (lF : Nat → Int32) (hA : Addr) (hF : Nat → Int32) (bA : Addr) (bF : Nat → Value) (wA : Addr) (nW : Nat) (wF : Nat → Int64) : Int32 := (if (f19 p2 (hF p1.toNatClampNeg)) < (lF p1.toNatClampNeg) then (-1 : Int32) else (if ((wF (((f19 p2 (hF p1.toNatClampNeg)).toUInt32 >>> ((6 : Int32) &&& 31).toUInt32).toInt32).toNatClampNeg) &&& (((-1 : Int64).toUInt64 >>> (((63 : Int32) - ((f19 p2 (hF p1.toNatClampNeg)) &&& (63 : Int32))) &&& 0x3f).toInt64.toUInt64).toInt64)) = (0 : Int64) then (((((((f19 p2 (hF p1.toNatClampNeg)).toUInt32 >>> ((6 : Int32) &&& 31).toUInt32).toInt32) + (-1 : Int32)) <<< ((6 : Int32) &&& 31)) + (63 : Int32)) - (f20 (wF ((((f19 p2 (hF p1.toNatClampNeg)).toUInt32 >>> ((6 : Int32) &&& 31).toUInt32).toInt32) + (-1 : Int32)).toNatClampNeg))) else ((((((f19 p2 (hF p1.toNatClampNeg)).toUInt32 >>> ((6 : Int32) &&& 31).toUInt32).toInt32) <<< ((6 : Int32) &&& 31)) + (63 : Int32)) - (f20 ((wF (((f19 p2 (hF p1.toNatClampNeg)).toUInt32 >>> ((6 : Int32) &&& 31).toUInt32).toInt32).toNatClampNeg) &&& (((-1 : Int64).toUInt64 >>> (((63 : Int32) - ((f19 p2 (hF p1.toNatClampNeg)) &&& (63 : Int32))) &&& 0x3f).toInt64.toUInt64).toInt64))))))
def Q18 (o0 : Addr) (p1 : Int32) (p2 : Int32) (lA : Addr) (lF : Nat → Int32) (hA : Addr) (hF : Nat → Int32) (bA : Addr) (bF : Nat → Value) (wA : Addr) (nW : Nat) (wF : Nat → Int64) (h0 : Heap) (n0 : Nat) (v : Option Value) (h : Heap) (L : List Loc) : Prop := v = some (.int (f18 o0 p1 p2 lA lF hA hF bA bF wA nW wF)) ∧ Fr n0 L ∧ h = h0
theorem ef_18_aaa (m : MethodId) (x0 : Addr) (x1 : Int32) (x2 : Int32) : entryFrame m #[(.ref x0), (.int x1), (.int x2)] 7 = mkF m 0 #[.val (.ref x0), .val (.int x1), .val (.int x2), .unset, .unset, .unset, .unset] [] := by first | (simp [entryFrame, mkF, argsToLocals, Value.category]; done) | rfl
theorem rm18 (l : Launch) (Z : State) (a0 : Array Value) (hw : HW a0 Z) (ws : List Jvm.Cond) (o0 : Addr) (p1 : Int32) (p2 : Int32) (lA : Addr) (lF : Nat → Int32) (hA : Addr) (hF : Nat → Int32) (bA : Addr) (bF : Nat → Value) (wA : Addr) (nW : Nat) (wF : Nat → Int64) (h0 : Heap) (n0 : Nat) (Z0 : n0 ≤ h0.size) (ha0 : Exa Z h0 o0 Dn) (ha1 : Fld Z h0 o0 Dn "low" "[I" (.ref lA)) (ha2 : AV Z h0 lA .int 2 (fun k => .int (lF k))) (ha3 : Fld Z h0 o0 Dn "high" "[I" (.ref hA)) (ha4 : AV Z h0 hA .int 2 (fun k => .int (hF k))) (ha5 : Fld Z h0 o0 Dn "bits" "[[J" (.ref bA)) (ha6 : AV Z h0 bA (.array .long) 2 bF) (ha7 : AV Z h0 wA .long nW (fun k => .long (wF k))) (hxb : ¬ p1 < 0 ∧ p1.toNatClampNeg < 2) (hbx : bF p1.toNatClampNeg = Value.ref wA) (hB1 : ¬ (f19 p2 (hF p1.toNatClampNeg)) < (lF p1.toNatClampNeg) → ¬ (((f19 p2 (hF p1.toNatClampNeg)).toUInt32 >>> ((6 : Int32) &&& 31).toUInt32).toInt32) < 0 ∧ (((f19 p2 (hF p1.toNatClampNeg)).toUInt32 >>> ((6 : Int32) &&& 31).toUInt32).toInt32).toNatClampNeg < nW) (hB2 : ¬ (f19 p2 (hF p1.toNatClampNeg)) < (lF p1.toNatClampNeg) → ((wF (((f19 p2 (hF p1.toNatClampNeg)).toUInt32 >>> ((6 : Int32) &&& 31).toUInt32).toInt32).toNatClampNeg) &&& (((-1 : Int64).toUInt64 >>> (((63 : Int32) - ((f19 p2 (hF p1.toNatClampNeg)) &&& (63 : Int32))) &&& 0x3f).toInt64.toUInt64).toInt64)) = (0 : Int64) → ¬ ((((f19 p2 (hF p1.toNatClampNeg)).toUInt32 >>> ((6 : Int32) &&& 31).toUInt32).toInt32) + (-1 : Int32)) < 0 ∧ ((((f19 p2 (hF p1.toNatClampNeg)).toUInt32 >>> ((6 : Int32) &&& 31).toUInt32).toInt32) + (-1 : Int32)).toNatClampNeg < nW) (hT : ¬ (f19 p2 (hF p1.toNatClampNeg)) < (lF p1.toNatClampNeg) → ((wF (((f19 p2 (hF p1.toNatClampNeg)).toUInt32 >>> ((6 : Int32) &&& 31).toUInt32).toInt32).toNatClampNeg) &&& (((-1 : Int64).toUInt64 >>> (((63 : Int32) - ((f19 p2 (hF p1.toNatClampNeg)) &&& (63 : Int32))) &&& 0x3f).toInt64.toUInt64).toInt64)) = (0 : Int64) → ¬ (wF ((((f19 p2 (hF p1.toNatClampNeg)).toUInt32 >>> ((6 : Int32) &&& 31).toUInt32).toInt32) + (-1 : Int32)).toNatClampNeg) = (0 : Int64)) :
    MetFree l y18 (head1 (Jvm.Cond.code y18 prog_22_method_8_code 7 (some .int) :: ws) RM_2_0_0_29) (fun a U => a = #[(.ref o0), (.int p1), (.int p2)] ∧ Z.Warmed39 U.vm ∧ U.heap = h0) (fun _ _ _ _ _ => True) (fun _ U o U' => ∃ v L, o = .returned v ∧ Q18 o0 p1 p2 lA lF hA hF bA bF wA nW wF h0 n0 v U'.heap L ∧ FrameEnd U o U' L RM_2_0_0_29.cells RM_2_0_0_29.slots) := by
  refine MetFree.of_bodySF (plainFor_of_name pn_2) hisR ?_
  intro p e s m args below meth c s₁ Bd hml0 hP hK
  obtain ⟨rfl, hZ, hh⟩ := hP
  have hx := Bd.exec
  have hby := Bd.bytes
  have hml : c.maxLocals = 7 := hml0
  have hown : s.vm.findClass Dn = some m.cls := findClass_of_methodNamed Bd.named
  have X0 : Stand p l e RM_2_0_0_29 s m _ below meth c s₁ [] 0 0 := Stand.of_body Bd
  have e0 : s₁.heap = h0 := by rw [← hh, Bd.state]; rfl
  have N0 := Fr.nil n0
  refine Go.into (P := fun oo uu => ∃ v L, oo = .returned v ∧ Q18 o0 p1 p2 lA lF hA hF bA bF wA nW wF h0 n0 v uu.heap L ∧ FrameEnd s oo uu L RM_2_0_0_29.cells RM_2_0_0_29.slots) (ef_18_aaa m o0 p1 p2) ?_
  show Go p e below _ (s₁.setTop (mkF m 0 #[sR o0, sI p1, sI p2, .unset, .unset, .unset, .unset] []))
  refine Vi (s₁.setTop (mkF m 2 #[sR o0, sI p1, sI p2, .unset, .unset, .unset, .unset] [(.ref o0), (.int p2)])) (fun tZ kZ => ?_) ?_
  · refine XS.iloadN X0.here hx rfl (hb hby d18_0) rfl ?_
    refine XS.aloadN X0.here hx rfl (hb hby d18_1) rfl rfl ?_
    exact kZ
  refine GF X0 hx hZ hown (wq hw 39 rfl) e0 ha3 (hb hby d18_2) fun T1 X1 e1 => ?_
  refine Vi (T1.setTop (mkF m 7 #[sR o0, sI p1, sI p2, .unset, .unset, .unset, .unset] [(.int (hF p1.toNatClampNeg)), (.int p2)])) (fun tZ kZ => ?_) ?_
  · refine XS.iloadN X1.here hx rfl (hb hby d18_5) rfl ?_
    refine AV.iaload ha4 X1 hx hZ e1 (j := p1) hxb (hb hby d18_6) ?_
    exact kZ
  obtain ⟨_, _, ⟨T2, L2, k2, n2⟩, -, X2, ⟨Lc2, hQ2, l2, y2, z2⟩, st2⟩ := Jvm.LawKit.callS X1 hx (y := y19) hown (wz hZ hw 131 rfl) (wz hZ hw 132 rfl) (wz hZ hw 90 rfl) (wz hZ hw 133 rfl) (by decide) (backOf (W := 0) (rm19 l Z a0 hw [] p2 (hF p1.toNatClampNeg) h0 n0 Z0 ) hZ (wq hw 133 rfl) (wq hw 90 rfl) (by decide) (by decide)) (g := (mkF m 7 #[sR o0, sI p1, sI p2, .unset, .unset, .unset, .unset] [(.int (hF p1.toNatClampNeg)), (.int p2)])) rfl (by rw [hml]; rfl) (argsL := [(.int p2), (.int (hF p1.toNatClampNeg))]) (rest := []) (lenOf pd_6 rfl) rfl (leW rfl) (hb hby d18_7) (fun _ _ => ⟨rfl, e1, (by decide : 0 + 0 ≤ _), (by decide : 0 + 0 ≤ _)⟩)
  dsimp only [Pt.U, Pt.locs, Pt.cells, Pt.slots] at X2 l2 y2 z2 st2 hQ2
  subst l2 y2 z2
  obtain ⟨rfl, N2q, e2⟩ := hQ2
  have N2 := Fr.app N0 N2q
  refine Go.via st2 ?_
  refine Vi (T2.setTop (mkF m 13 #[sR o0, sI p1, sI p2, sI (f19 p2 (hF p1.toNatClampNeg)), .unset, .unset, .unset] [(.ref o0), (.int (f19 p2 (hF p1.toNatClampNeg)))])) (fun tZ kZ => ?_) ?_
  · refine XS.istoreN X2.here hx rfl (hb hby d18_10) rfl (l' := #[sR o0, sI p1, sI p2, sI (f19 p2 (hF p1.toNatClampNeg)), .unset, .unset, .unset]) rfl ?_
    refine XS.iloadN X2.here hx rfl (hb hby d18_11) rfl ?_
    refine XS.aloadN X2.here hx rfl (hb hby d18_12) rfl rfl ?_
    exact kZ
  refine GF X2 hx hZ hown (wq hw 37 rfl) e2 ha1 (hb hby d18_13) fun T3 X3 e3 => ?_
  refine Vi (T3.setTop (mkF m 18 #[sR o0, sI p1, sI p2, sI (f19 p2 (hF p1.toNatClampNeg)), .unset, .unset, .unset] [(.int (lF p1.toNatClampNeg)), (.int (f19 p2 (hF p1.toNatClampNeg)))])) (fun tZ kZ => ?_) ?_
  · refine XS.iloadN X3.here hx rfl (hb hby d18_16) rfl ?_
    refine AV.iaload ha2 X3 hx hZ e3 (j := p1) hxb (hb hby d18_17) ?_
    exact kZ
  by_cases hc18 : (f19 p2 (hF p1.toNatClampNeg)) < (lF p1.toNatClampNeg)
  · refine Vi (T3.setTop (mkF m 21 #[sR o0, sI p1, sI p2, sI (f19 p2 (hF p1.toNatClampNeg)), .unset, .unset, .unset] [])) (fun tZ kZ => ?_) ?_
    · show Steps p.tables e below (T3.setTop (mkF m 18 #[sR o0, sI p1, sI p2, sI (f19 p2 (hF p1.toNatClampNeg)), .unset, .unset, .unset] [(.int (lF p1.toNatClampNeg)), (.int (f19 p2 (hF p1.toNatClampNeg)))])) _
      refine XS.icmpNo X3.here hx rfl (hb hby d18_18) rfl (tlt hc18).2.1 ?_
      exact kZ
    refine Vi (T3.setTop (mkF m 22 #[sR o0, sI p1, sI p2, sI (f19 p2 (hF p1.toNatClampNeg)), .unset, .unset, .unset] [(.int (-1))])) (fun tZ kZ => ?_) ?_
    · refine XS.iconst X3.here hx rfl (hb hby d18_21) ?_
      exact kZ
    refine Go.retI X3 hx Bd.notSynchronized Bd.returns (hb hby d18_22) (by decide) (by decide) ?_
    refine ⟨?_, N2, e3⟩
    show some ((.int (-1)) : Value) = some (.int (f18 o0 p1 p2 lA lF hA hF bA bF wA nW wF))
    unfold f18; rw [if_pos hc18] <;> rfl
  · refine Vi (T3.setTop (mkF m 23 #[sR o0, sI p1, sI p2, sI (f19 p2 (hF p1.toNatClampNeg)), .unset, .unset, .unset] [])) (fun tZ kZ => ?_) ?_
    · show Steps p.tables e below (T3.setTop (mkF m 18 #[sR o0, sI p1, sI p2, sI (f19 p2 (hF p1.toNatClampNeg)), .unset, .unset, .unset] [(.int (lF p1.toNatClampNeg)), (.int (f19 p2 (hF p1.toNatClampNeg)))])) _
      refine XS.icmpYes X3.here hx rfl (pc0 := 18) (pc' := 23) rfl (hb hby d18_18) rfl (flt hc18).2.1 (by decide) (by decide) ?_
      exact kZ
    refine Vi (T3.setTop (mkF m 30 #[sR o0, sI p1, sI p2, sI (f19 p2 (hF p1.toNatClampNeg)), sI (((f19 p2 (hF p1.toNatClampNeg)).toUInt32 >>> ((6 : Int32) &&& 31).toUInt32).toInt32), .unset, .unset] [(.ref o0)])) (fun tZ kZ => ?_) ?_
    · refine XS.iloadN X3.here hx rfl (hb hby d18_23) rfl ?_
      refine XS.bipush X3.here hx rfl (hb hby d18_24) ?_
      refine XS.iushr X3.here hx rfl (hb hby d18_26) rfl ?_
      refine XS.istore X3.here hx rfl (hb hby d18_27) rfl (l' := #[sR o0, sI p1, sI p2, sI (f19 p2 (hF p1.toNatClampNeg)), sI (((f19 p2 (hF p1.toNatClampNeg)).toUInt32 >>> ((6 : Int32) &&& 31).toUInt32).toInt32), .unset, .unset]) rfl ?_
      refine XS.aloadN X3.here hx rfl (hb hby d18_29) rfl rfl ?_
      exact kZ
    refine GF X3 hx hZ hown (wq hw 33 rfl) e3 ha5 (hb hby d18_30) fun T4 X4 e4 => ?_
    refine Vi (T4.setTop (mkF m 56 #[sR o0, sI p1, sI p2, sI (f19 p2 (hF p1.toNatClampNeg)), sI (((f19 p2 (hF p1.toNatClampNeg)).toUInt32 >>> ((6 : Int32) &&& 31).toUInt32).toInt32), .val (.long ((wF (((f19 p2 (hF p1.toNatClampNeg)).toUInt32 >>> ((6 : Int32) &&& 31).toUInt32).toInt32).toNatClampNeg) &&& (((-1 : Int64).toUInt64 >>> (((63 : Int32) - ((f19 p2 (hF p1.toNatClampNeg)) &&& (63 : Int32))) &&& 0x3f).toInt64.toUInt64).toInt64))), .second] [(.int (lcmpW ((wF (((f19 p2 (hF p1.toNatClampNeg)).toUInt32 >>> ((6 : Int32) &&& 31).toUInt32).toInt32).toNatClampNeg) &&& (((-1 : Int64).toUInt64 >>> (((63 : Int32) - ((f19 p2 (hF p1.toNatClampNeg)) &&& (63 : Int32))) &&& 0x3f).toInt64.toUInt64).toInt64)) (0 : Int64)))])) (fun tZ kZ => ?_) ?_
    · refine XS.iloadN X4.here hx rfl (hb hby d18_33) rfl ?_
      refine AV.aaload ha6 rfl X4 hx hZ e4 (j := p1) hxb (hb hby d18_34) ?_
      rw [hbx]
      refine XS.iload X4.here hx rfl (hb hby d18_35) rfl ?_
      refine AV.laload ha7 X4 hx hZ e4 (j := (((f19 p2 (hF p1.toNatClampNeg)).toUInt32 >>> ((6 : Int32) &&& 31).toUInt32).toInt32)) (hB1 hc18) (hb hby d18_37) ?_
      refine X4.ldc2Long hx hown (wz hZ hw 52 rfl) (g := (mkF m 38 #[sR o0, sI p1, sI p2, sI (f19 p2 (hF p1.toNatClampNeg)), sI (((f19 p2 (hF p1.toNatClampNeg)).toUInt32 >>> ((6 : Int32) &&& 31).toUInt32).toInt32), .unset, .unset] [(.long (wF (((f19 p2 (hF p1.toNatClampNeg)).toUInt32 >>> ((6 : Int32) &&& 31).toUInt32).toInt32).toNatClampNeg))])) rfl (hb hby d18_38) _ ?_
      refine XS.bipush X4.here hx rfl (hb hby d18_41) ?_
      refine XS.iloadN X4.here hx rfl (hb hby d18_43) rfl ?_
      refine XS.bipush X4.here hx rfl (hb hby d18_44) ?_
      refine XS.iand X4.here hx rfl (hb hby d18_46) rfl ?_
      refine XS.isub X4.here hx rfl (hb hby d18_47) rfl ?_
      refine XS.lushr X4.here hx rfl (hb hby d18_48) rfl ?_
      refine XS.land X4.here hx rfl (hb hby d18_49) rfl ?_
      refine XS.lstore X4.here hx rfl (hb hby d18_50) rfl (l' := #[sR o0, sI p1, sI p2, sI (f19 p2 (hF p1.toNatClampNeg)), sI (((f19 p2 (hF p1.toNatClampNeg)).toUInt32 >>> ((6 : Int32) &&& 31).toUInt32).toInt32), .val (.long ((wF (((f19 p2 (hF p1.toNatClampNeg)).toUInt32 >>> ((6 : Int32) &&& 31).toUInt32).toInt32).toNatClampNeg) &&& (((-1 : Int64).toUInt64 >>> (((63 : Int32) - ((f19 p2 (hF p1.toNatClampNeg)) &&& (63 : Int32))) &&& 0x3f).toInt64.toUInt64).toInt64))), .second]) rfl ?_
      refine XS.lload X4.here hx rfl (hb hby d18_52) rfl ?_
      refine XS.lconst X4.here hx rfl (hb hby d18_54) ?_
      refine XS.lcmp X4.here hx rfl (hb hby d18_55) rfl ?_
      exact kZ
    by_cases hc56 : ((wF (((f19 p2 (hF p1.toNatClampNeg)).toUInt32 >>> ((6 : Int32) &&& 31).toUInt32).toInt32).toNatClampNeg) &&& (((-1 : Int64).toUInt64 >>> (((63 : Int32) - ((f19 p2 (hF p1.toNatClampNeg)) &&& (63 : Int32))) &&& 0x3f).toInt64.toUInt64).toInt64)) = (0 : Int64)
    · refine Vi (T4.setTop (mkF m 59 #[sR o0, sI p1, sI p2, sI (f19 p2 (hF p1.toNatClampNeg)), sI (((f19 p2 (hF p1.toNatClampNeg)).toUInt32 >>> ((6 : Int32) &&& 31).toUInt32).toInt32), .val (.long ((wF (((f19 p2 (hF p1.toNatClampNeg)).toUInt32 >>> ((6 : Int32) &&& 31).toUInt32).toInt32).toNatClampNeg) &&& (((-1 : Int64).toUInt64 >>> (((63 : Int32) - ((f19 p2 (hF p1.toNatClampNeg)) &&& (63 : Int32))) &&& 0x3f).toInt64.toUInt64).toInt64))), .second] [])) (fun tZ kZ => ?_) ?_
      · show Steps p.tables e below (T4.setTop (mkF m 56 #[sR o0, sI p1, sI p2, sI (f19 p2 (hF p1.toNatClampNeg)), sI (((f19 p2 (hF p1.toNatClampNeg)).toUInt32 >>> ((6 : Int32) &&& 31).toUInt32).toInt32), .val (.long ((wF (((f19 p2 (hF p1.toNatClampNeg)).toUInt32 >>> ((6 : Int32) &&& 31).toUInt32).toInt32).toNatClampNeg) &&& (((-1 : Int64).toUInt64 >>> (((63 : Int32) - ((f19 p2 (hF p1.toNatClampNeg)) &&& (63 : Int32))) &&& 0x3f).toInt64.toUInt64).toInt64))), .second] [(.int (lcmpW ((wF (((f19 p2 (hF p1.toNatClampNeg)).toUInt32 >>> ((6 : Int32) &&& 31).toUInt32).toInt32).toNatClampNeg) &&& (((-1 : Int64).toUInt64 >>> (((63 : Int32) - ((f19 p2 (hF p1.toNatClampNeg)) &&& (63 : Int32))) &&& 0x3f).toInt64.toUInt64).toInt64)) (0 : Int64)))])) _
        refine XS.ifNo X4.here hx rfl (hb hby d18_56) rfl ((if0 _ _).trans (teq ((lw_eq _ _).mpr hc56)).2) ?_
        exact kZ
      refine Vi (T4.setTop (mkF m 60 #[sR o0, sI p1, sI p2, sI (f19 p2 (hF p1.toNatClampNeg)), sI (((f19 p2 (hF p1.toNatClampNeg)).toUInt32 >>> ((6 : Int32) &&& 31).toUInt32).toInt32), .val (.long ((wF (((f19 p2 (hF p1.toNatClampNeg)).toUInt32 >>> ((6 : Int32) &&& 31).toUInt32).toInt32).toNatClampNeg) &&& (((-1 : Int64).toUInt64 >>> (((63 : Int32) - ((f19 p2 (hF p1.toNatClampNeg)) &&& (63 : Int32))) &&& 0x3f).toInt64.toUInt64).toInt64))), .second] [(.ref o0)])) (fun tZ kZ => ?_) ?_
      · refine XS.aloadN X4.here hx rfl (hb hby d18_59) rfl rfl ?_
        exact kZ
      refine GF X4 hx hZ hown (wq hw 33 rfl) e4 ha5 (hb hby d18_60) fun T5 X5 e5 => ?_
      refine Vi (T5.setTop (mkF m 86 #[sR o0, sI p1, sI p2, sI (f19 p2 (hF p1.toNatClampNeg)), sI ((((f19 p2 (hF p1.toNatClampNeg)).toUInt32 >>> ((6 : Int32) &&& 31).toUInt32).toInt32) + (-1 : Int32)), .val (.long (wF ((((f19 p2 (hF p1.toNatClampNeg)).toUInt32 >>> ((6 : Int32) &&& 31).toUInt32).toInt32) + (-1 : Int32)).toNatClampNeg)), .second] [(.long (wF ((((f19 p2 (hF p1.toNatClampNeg)).toUInt32 >>> ((6 : Int32) &&& 31).toUInt32).toInt32) + (-1 : Int32)).toNatClampNeg)), (.int ((((((f19 p2 (hF p1.toNatClampNeg)).toUInt32 >>> ((6 : Int32) &&& 31).toUInt32).toInt32) + (-1 : Int32)) <<< ((6 : Int32) &&& 31)) + (63 : Int32)))])) (fun tZ kZ => ?_) ?_
      · refine XS.iloadN X5.here hx rfl (hb hby d18_63) rfl ?_
        refine AV.aaload ha6 rfl X5 hx hZ e5 (j := p1) hxb (hb hby d18_64) ?_
        rw [hbx]
        refine XS.iinc X5.here hx rfl (hb hby d18_65) rfl (l' := #[sR o0, sI p1, sI p2, sI (f19 p2 (hF p1.toNatClampNeg)), sI ((((f19 p2 (hF p1.toNatClampNeg)).toUInt32 >>> ((6 : Int32) &&& 31).toUInt32).toInt32) + (-1 : Int32)), .val (.long ((wF (((f19 p2 (hF p1.toNatClampNeg)).toUInt32 >>> ((6 : Int32) &&& 31).toUInt32).toInt32).toNatClampNeg) &&& (((-1 : Int64).toUInt64 >>> (((63 : Int32) - ((f19 p2 (hF p1.toNatClampNeg)) &&& (63 : Int32))) &&& 0x3f).toInt64.toUInt64).toInt64))), .second]) rfl ?_
        refine XS.iload X5.here hx rfl (hb hby d18_68) rfl ?_
        refine AV.laload ha7 X5 hx hZ e5 (j := ((((f19 p2 (hF p1.toNatClampNeg)).toUInt32 >>> ((6 : Int32) &&& 31).toUInt32).toInt32) + (-1 : Int32))) (hB2 hc18 hc56) (hb hby d18_70) ?_
        refine XS.lstore X5.here hx rfl (hb hby d18_71) rfl (l' := #[sR o0, sI p1, sI p2, sI (f19 p2 (hF p1.toNatClampNeg)), sI ((((f19 p2 (hF p1.toNatClampNeg)).toUInt32 >>> ((6 : Int32) &&& 31).toUInt32).toInt32) + (-1 : Int32)), .val (.long (wF ((((f19 p2 (hF p1.toNatClampNeg)).toUInt32 >>> ((6 : Int32) &&& 31).toUInt32).toInt32) + (-1 : Int32)).toNatClampNeg)), .second]) rfl ?_
        refine XS.goto X5.here hx rfl (pc0 := 73) (pc' := 52) rfl (hb hby d18_73) (by decide) (by decide) ?_
        refine XS.lload X5.here hx rfl (hb hby d18_52) rfl ?_
        refine XS.lconst X5.here hx rfl (hb hby d18_54) ?_
        refine XS.lcmp X5.here hx rfl (hb hby d18_55) rfl ?_
        refine XS.ifYes X5.here hx rfl (pc0 := 56) (pc' := 76) rfl (hb hby d18_56) rfl ((if0 _ _).trans (feq (fun q => absurd ((lw_eq _ _).mp q) (hT hc18 hc56))).2) (by decide) (by decide) ?_
        refine XS.iload X5.here hx rfl (hb hby d18_76) rfl ?_
        refine XS.bipush X5.here hx rfl (hb hby d18_78) ?_
        refine XS.ishl X5.here hx rfl (hb hby d18_80) rfl ?_
        refine XS.bipush X5.here hx rfl (hb hby d18_81) ?_
        refine XS.iadd X5.here hx rfl (hb hby d18_83) rfl ?_
        refine XS.lload X5.here hx rfl (hb hby d18_84) rfl ?_
        exact kZ
      obtain ⟨_, _, ⟨T6, L6, k6, n6⟩, -, X6, ⟨Lc6, hQ6, l6, y6, z6⟩, st6⟩ := Jvm.LawKit.callS X5 hx (y := y20) hown (wz hZ hw 134 rfl) (wz hZ hw 135 rfl) (wz hZ hw 136 rfl) (wz hZ hw 137 rfl) (by decide) (backOf (W := 1) (rm20 l Z a0 hw [] (wF ((((f19 p2 (hF p1.toNatClampNeg)).toUInt32 >>> ((6 : Int32) &&& 31).toUInt32).toInt32) + (-1 : Int32)).toNatClampNeg) h0 n0 Z0 ) hZ (wq hw 137 rfl) (wq hw 136 rfl) (by decide) (by decide)) (g := (mkF m 86 #[sR o0, sI p1, sI p2, sI (f19 p2 (hF p1.toNatClampNeg)), sI ((((f19 p2 (hF p1.toNatClampNeg)).toUInt32 >>> ((6 : Int32) &&& 31).toUInt32).toInt32) + (-1 : Int32)), .val (.long (wF ((((f19 p2 (hF p1.toNatClampNeg)).toUInt32 >>> ((6 : Int32) &&& 31).toUInt32).toInt32) + (-1 : Int32)).toNatClampNeg)), .second] [(.long (wF ((((f19 p2 (hF p1.toNatClampNeg)).toUInt32 >>> ((6 : Int32) &&& 31).toUInt32).toInt32) + (-1 : Int32)).toNatClampNeg)), (.int ((((((f19 p2 (hF p1.toNatClampNeg)).toUInt32 >>> ((6 : Int32) &&& 31).toUInt32).toInt32) + (-1 : Int32)) <<< ((6 : Int32) &&& 31)) + (63 : Int32)))])) rfl (by rw [hml]; rfl) (argsL := [(.long (wF ((((f19 p2 (hF p1.toNatClampNeg)).toUInt32 >>> ((6 : Int32) &&& 31).toUInt32).toInt32) + (-1 : Int32)).toNatClampNeg))]) (rest := [(.int ((((((f19 p2 (hF p1.toNatClampNeg)).toUInt32 >>> ((6 : Int32) &&& 31).toUInt32).toInt32) + (-1 : Int32)) <<< ((6 : Int32) &&& 31)) + (63 : Int32)))]) (lenOf pd_11 rfl) rfl (leW rfl) (hb hby d18_86) (fun _ _ => ⟨rfl, e5, (by decide : 0 + 0 + 0 ≤ _), (by decide : 0 + 0 + 0 ≤ _)⟩)
      dsimp only [Pt.U, Pt.locs, Pt.cells, Pt.slots] at X6 l6 y6 z6 st6 hQ6
      subst l6 y6 z6
      obtain ⟨rfl, N6q, e6⟩ := hQ6
      have N6 := Fr.app N2 N6q
      refine Go.via st6 ?_
      refine Vi (T6.setTop (mkF m 90 #[sR o0, sI p1, sI p2, sI (f19 p2 (hF p1.toNatClampNeg)), sI ((((f19 p2 (hF p1.toNatClampNeg)).toUInt32 >>> ((6 : Int32) &&& 31).toUInt32).toInt32) + (-1 : Int32)), .val (.long (wF ((((f19 p2 (hF p1.toNatClampNeg)).toUInt32 >>> ((6 : Int32) &&& 31).toUInt32).toInt32) + (-1 : Int32)).toNatClampNeg)), .second] [(.int (((((((f19 p2 (hF p1.toNatClampNeg)).toUInt32 >>> ((6 : Int32) &&& 31).toUInt32).toInt32) + (-1 : Int32)) <<< ((6 : Int32) &&& 31)) + (63 : Int32)) - (f20 (wF ((((f19 p2 (hF p1.toNatClampNeg)).toUInt32 >>> ((6 : Int32) &&& 31).toUInt32).toInt32) + (-1 : Int32)).toNatClampNeg))))])) (fun tZ kZ => ?_) ?_
      · refine XS.isub X6.here hx rfl (hb hby d18_89) rfl ?_
        exact kZ
      refine Go.retI X6 hx Bd.notSynchronized Bd.returns (hb hby d18_90) (by decide) (by decide) ?_
      refine ⟨?_, N6, e6⟩
      show some ((.int (((((((f19 p2 (hF p1.toNatClampNeg)).toUInt32 >>> ((6 : Int32) &&& 31).toUInt32).toInt32) + (-1 : Int32)) <<< ((6 : Int32) &&& 31)) + (63 : Int32)) - (f20 (wF ((((f19 p2 (hF p1.toNatClampNeg)).toUInt32 >>> ((6 : Int32) &&& 31).toUInt32).toInt32) + (-1 : Int32)).toNatClampNeg)))) : Value) = some (.int (f18 o0 p1 p2 lA lF hA hF bA bF wA nW wF))
      unfold f18; rw [if_neg hc18, if_pos hc56] <;> rfl
    · refine Vi (T4.setTop (mkF m 76 #[sR o0, sI p1, sI p2, sI (f19 p2 (hF p1.toNatClampNeg)), sI (((f19 p2 (hF p1.toNatClampNeg)).toUInt32 >>> ((6 : Int32) &&& 31).toUInt32).toInt32), .val (.long ((wF (((f19 p2 (hF p1.toNatClampNeg)).toUInt32 >>> ((6 : Int32) &&& 31).toUInt32).toInt32).toNatClampNeg) &&& (((-1 : Int64).toUInt64 >>> (((63 : Int32) - ((f19 p2 (hF p1.toNatClampNeg)) &&& (63 : Int32))) &&& 0x3f).toInt64.toUInt64).toInt64))), .second] [])) (fun tZ kZ => ?_) ?_
      · show Steps p.tables e below (T4.setTop (mkF m 56 #[sR o0, sI p1, sI p2, sI (f19 p2 (hF p1.toNatClampNeg)), sI (((f19 p2 (hF p1.toNatClampNeg)).toUInt32 >>> ((6 : Int32) &&& 31).toUInt32).toInt32), .val (.long ((wF (((f19 p2 (hF p1.toNatClampNeg)).toUInt32 >>> ((6 : Int32) &&& 31).toUInt32).toInt32).toNatClampNeg) &&& (((-1 : Int64).toUInt64 >>> (((63 : Int32) - ((f19 p2 (hF p1.toNatClampNeg)) &&& (63 : Int32))) &&& 0x3f).toInt64.toUInt64).toInt64))), .second] [(.int (lcmpW ((wF (((f19 p2 (hF p1.toNatClampNeg)).toUInt32 >>> ((6 : Int32) &&& 31).toUInt32).toInt32).toNatClampNeg) &&& (((-1 : Int64).toUInt64 >>> (((63 : Int32) - ((f19 p2 (hF p1.toNatClampNeg)) &&& (63 : Int32))) &&& 0x3f).toInt64.toUInt64).toInt64)) (0 : Int64)))])) _
        refine XS.ifYes X4.here hx rfl (pc0 := 56) (pc' := 76) rfl (hb hby d18_56) rfl ((if0 _ _).trans (feq (fun q => absurd ((lw_eq _ _).mp q) hc56)).2) (by decide) (by decide) ?_
        exact kZ
      refine Vi (T4.setTop (mkF m 86 #[sR o0, sI p1, sI p2, sI (f19 p2 (hF p1.toNatClampNeg)), sI (((f19 p2 (hF p1.toNatClampNeg)).toUInt32 >>> ((6 : Int32) &&& 31).toUInt32).toInt32), .val (.long ((wF (((f19 p2 (hF p1.toNatClampNeg)).toUInt32 >>> ((6 : Int32) &&& 31).toUInt32).toInt32).toNatClampNeg) &&& (((-1 : Int64).toUInt64 >>> (((63 : Int32) - ((f19 p2 (hF p1.toNatClampNeg)) &&& (63 : Int32))) &&& 0x3f).toInt64.toUInt64).toInt64))), .second] [(.long ((wF (((f19 p2 (hF p1.toNatClampNeg)).toUInt32 >>> ((6 : Int32) &&& 31).toUInt32).toInt32).toNatClampNeg) &&& (((-1 : Int64).toUInt64 >>> (((63 : Int32) - ((f19 p2 (hF p1.toNatClampNeg)) &&& (63 : Int32))) &&& 0x3f).toInt64.toUInt64).toInt64))), (.int (((((f19 p2 (hF p1.toNatClampNeg)).toUInt32 >>> ((6 : Int32) &&& 31).toUInt32).toInt32) <<< ((6 : Int32) &&& 31)) + (63 : Int32)))])) (fun tZ kZ => ?_) ?_
      · refine XS.iload X4.here hx rfl (hb hby d18_76) rfl ?_
        refine XS.bipush X4.here hx rfl (hb hby d18_78) ?_
        refine XS.ishl X4.here hx rfl (hb hby d18_80) rfl ?_
        refine XS.bipush X4.here hx rfl (hb hby d18_81) ?_
        refine XS.iadd X4.here hx rfl (hb hby d18_83) rfl ?_
        refine XS.lload X4.here hx rfl (hb hby d18_84) rfl ?_
        exact kZ
      obtain ⟨_, _, ⟨T7, L7, k7, n7⟩, -, X7, ⟨Lc7, hQ7, l7, y7, z7⟩, st7⟩ := Jvm.LawKit.callS X4 hx (y := y20) hown (wz hZ hw 134 rfl) (wz hZ hw 135 rfl) (wz hZ hw 136 rfl) (wz hZ hw 137 rfl) (by decide) (backOf (W := 1) (rm20 l Z a0 hw [] ((wF (((f19 p2 (hF p1.toNatClampNeg)).toUInt32 >>> ((6 : Int32) &&& 31).toUInt32).toInt32).toNatClampNeg) &&& (((-1 : Int64).toUInt64 >>> (((63 : Int32) - ((f19 p2 (hF p1.toNatClampNeg)) &&& (63 : Int32))) &&& 0x3f).toInt64.toUInt64).toInt64)) h0 n0 Z0 ) hZ (wq hw 137 rfl) (wq hw 136 rfl) (by decide) (by decide)) (g := (mkF m 86 #[sR o0, sI p1, sI p2, sI (f19 p2 (hF p1.toNatClampNeg)), sI (((f19 p2 (hF p1.toNatClampNeg)).toUInt32 >>> ((6 : Int32) &&& 31).toUInt32).toInt32), .val (.long ((wF (((f19 p2 (hF p1.toNatClampNeg)).toUInt32 >>> ((6 : Int32) &&& 31).toUInt32).toInt32).toNatClampNeg) &&& (((-1 : Int64).toUInt64 >>> (((63 : Int32) - ((f19 p2 (hF p1.toNatClampNeg)) &&& (63 : Int32))) &&& 0x3f).toInt64.toUInt64).toInt64))), .second] [(.long ((wF (((f19 p2 (hF p1.toNatClampNeg)).toUInt32 >>> ((6 : Int32) &&& 31).toUInt32).toInt32).toNatClampNeg) &&& (((-1 : Int64).toUInt64 >>> (((63 : Int32) - ((f19 p2 (hF p1.toNatClampNeg)) &&& (63 : Int32))) &&& 0x3f).toInt64.toUInt64).toInt64))), (.int (((((f19 p2 (hF p1.toNatClampNeg)).toUInt32 >>> ((6 : Int32) &&& 31).toUInt32).toInt32) <<< ((6 : Int32) &&& 31)) + (63 : Int32)))])) rfl (by rw [hml]; rfl) (argsL := [(.long ((wF (((f19 p2 (hF p1.toNatClampNeg)).toUInt32 >>> ((6 : Int32) &&& 31).toUInt32).toInt32).toNatClampNeg) &&& (((-1 : Int64).toUInt64 >>> (((63 : Int32) - ((f19 p2 (hF p1.toNatClampNeg)) &&& (63 : Int32))) &&& 0x3f).toInt64.toUInt64).toInt64)))]) (rest := [(.int (((((f19 p2 (hF p1.toNatClampNeg)).toUInt32 >>> ((6 : Int32) &&& 31).toUInt32).toInt32) <<< ((6 : Int32) &&& 31)) + (63 : Int32)))]) (lenOf pd_11 rfl) rfl (leW rfl) (hb hby d18_86) (fun _ _ => ⟨rfl, e4, (by decide : 0 + 0 + 0 ≤ _), (by decide : 0 + 0 + 0 ≤ _)⟩)
      dsimp only [Pt.U, Pt.locs, Pt.cells, Pt.slots] at X7 l7 y7 z7 st7 hQ7
      subst l7 y7 z7
      obtain ⟨rfl, N7q, e7⟩ := hQ7
      have N7 := Fr.app N2 N7q
      refine Go.via st7 ?_
      refine Vi (T7.setTop (mkF m 90 #[sR o0, sI p1, sI p2, sI (f19 p2 (hF p1.toNatClampNeg)), sI (((f19 p2 (hF p1.toNatClampNeg)).toUInt32 >>> ((6 : Int32) &&& 31).toUInt32).toInt32), .val (.long ((wF (((f19 p2 (hF p1.toNatClampNeg)).toUInt32 >>> ((6 : Int32) &&& 31).toUInt32).toInt32).toNatClampNeg) &&& (((-1 : Int64).toUInt64 >>> (((63 : Int32) - ((f19 p2 (hF p1.toNatClampNeg)) &&& (63 : Int32))) &&& 0x3f).toInt64.toUInt64).toInt64))), .second] [(.int ((((((f19 p2 (hF p1.toNatClampNeg)).toUInt32 >>> ((6 : Int32) &&& 31).toUInt32).toInt32) <<< ((6 : Int32) &&& 31)) + (63 : Int32)) - (f20 ((wF (((f19 p2 (hF p1.toNatClampNeg)).toUInt32 >>> ((6 : Int32) &&& 31).toUInt32).toInt32).toNatClampNeg) &&& (((-1 : Int64).toUInt64 >>> (((63 : Int32) - ((f19 p2 (hF p1.toNatClampNeg)) &&& (63 : Int32))) &&& 0x3f).toInt64.toUInt64).toInt64)))))])) (fun tZ kZ => ?_) ?_
      · refine XS.isub X7.here hx rfl (hb hby d18_89) rfl ?_
        exact kZ
      refine Go.retI X7 hx Bd.notSynchronized Bd.returns (hb hby d18_90) (by decide) (by decide) ?_
      refine ⟨?_, N7, e7⟩
      show some ((.int ((((((f19 p2 (hF p1.toNatClampNeg)).toUInt32 >>> ((6 : Int32) &&& 31).toUInt32).toInt32) <<< ((6 : Int32) &&& 31)) + (63 : Int32)) - (f20 ((wF (((f19 p2 (hF p1.toNatClampNeg)).toUInt32 >>> ((6 : Int32) &&& 31).toUInt32).toInt32).toNatClampNeg) &&& (((-1 : Int64).toUInt64 >>> (((63 : Int32) - ((f19 p2 (hF p1.toNatClampNeg)) &&& (63 : Int32))) &&& 0x3f).toInt64.toUInt64).toInt64))))) : Value) = some (.int (f18 o0 p1 p2 lA lF hA hF bA bF wA nW wF))
      unfold f18; rw [if_neg hc18, if_neg hc56] <;> rfl
def Obj (Z : State) (h : Heap) (o a_low a_high a_sizes a_capacities a_changed a_isChanged a_bits a_trailVariable a_trailWord a_trailSaved a_trailSize : Addr) : Prop := Fld Z h o Dn "low" "[I" (.ref a_low) ∧ Fld Z h o Dn "high" "[I" (.ref a_high) ∧ Fld Z h o Dn "sizes" "[I" (.ref a_sizes) ∧ Fld Z h o Dn "capacities" "[I" (.ref a_capacities) ∧ Fld Z h o Dn "changed" "[I" (.ref a_changed) ∧ Fld Z h o Dn "isChanged" "[Z" (.ref a_isChanged) ∧ Fld Z h o Dn "bits" "[[J" (.ref a_bits) ∧ Fld Z h o Dn "trailVariable" "[I" (.ref a_trailVariable) ∧ Fld Z h o Dn "trailWord" "[I" (.ref a_trailWord) ∧ Fld Z h o Dn "trailSaved" "[J" (.ref a_trailSaved) ∧ Fld Z h o Dn "trailSize" "[I" (.ref a_trailSize) ∧ Fld Z h o Dn "listener" "Lcom/example/whittle/whittle/engine/Domains$RemovalListener;" .null
section
variable {Z : State} {h h' : Heap} {o a_low a_high a_sizes a_capacities a_changed a_isChanged a_bits a_trailVariable a_trailWord a_trailSaved a_trailSize : Addr}
theorem obj_low (O : Obj Z h o a_low a_high a_sizes a_capacities a_changed a_isChanged a_bits a_trailVariable a_trailWord a_trailSaved a_trailSize) : Fld Z h o Dn "low" "[I" (.ref a_low) := O.1
theorem obj_high (O : Obj Z h o a_low a_high a_sizes a_capacities a_changed a_isChanged a_bits a_trailVariable a_trailWord a_trailSaved a_trailSize) : Fld Z h o Dn "high" "[I" (.ref a_high) := O.2.1
theorem obj_sizes (O : Obj Z h o a_low a_high a_sizes a_capacities a_changed a_isChanged a_bits a_trailVariable a_trailWord a_trailSaved a_trailSize) : Fld Z h o Dn "sizes" "[I" (.ref a_sizes) := O.2.2.1
theorem obj_capacities (O : Obj Z h o a_low a_high a_sizes a_capacities a_changed a_isChanged a_bits a_trailVariable a_trailWord a_trailSaved a_trailSize) : Fld Z h o Dn "capacities" "[I" (.ref a_capacities) := O.2.2.2.1
theorem obj_changed (O : Obj Z h o a_low a_high a_sizes a_capacities a_changed a_isChanged a_bits a_trailVariable a_trailWord a_trailSaved a_trailSize) : Fld Z h o Dn "changed" "[I" (.ref a_changed) := O.2.2.2.2.1
theorem obj_isChanged (O : Obj Z h o a_low a_high a_sizes a_capacities a_changed a_isChanged a_bits a_trailVariable a_trailWord a_trailSaved a_trailSize) : Fld Z h o Dn "isChanged" "[Z" (.ref a_isChanged) := O.2.2.2.2.2.1
theorem obj_bits (O : Obj Z h o a_low a_high a_sizes a_capacities a_changed a_isChanged a_bits a_trailVariable a_trailWord a_trailSaved a_trailSize) : Fld Z h o Dn "bits" "[[J" (.ref a_bits) := O.2.2.2.2.2.2.1
theorem obj_trailVariable (O : Obj Z h o a_low a_high a_sizes a_capacities a_changed a_isChanged a_bits a_trailVariable a_trailWord a_trailSaved a_trailSize) : Fld Z h o Dn "trailVariable" "[I" (.ref a_trailVariable) := O.2.2.2.2.2.2.2.1
theorem obj_trailWord (O : Obj Z h o a_low a_high a_sizes a_capacities a_changed a_isChanged a_bits a_trailVariable a_trailWord a_trailSaved a_trailSize) : Fld Z h o Dn "trailWord" "[I" (.ref a_trailWord) := O.2.2.2.2.2.2.2.2.1
theorem obj_trailSaved (O : Obj Z h o a_low a_high a_sizes a_capacities a_changed a_isChanged a_bits a_trailVariable a_trailWord a_trailSaved a_trailSize) : Fld Z h o Dn "trailSaved" "[J" (.ref a_trailSaved) := O.2.2.2.2.2.2.2.2.2.1
theorem obj_trailSize (O : Obj Z h o a_low a_high a_sizes a_capacities a_changed a_isChanged a_bits a_trailVariable a_trailWord a_trailSaved a_trailSize) : Fld Z h o Dn "trailSize" "[I" (.ref a_trailSize) := O.2.2.2.2.2.2.2.2.2.2.1
theorem obj_listener (O : Obj Z h o a_low a_high a_sizes a_capacities a_changed a_isChanged a_bits a_trailVariable a_trailWord a_trailSaved a_trailSize) : Fld Z h o Dn "listener" "Lcom/example/whittle/whittle/engine/Domains$RemovalListener;" .null := O.2.2.2.2.2.2.2.2.2.2.2
theorem obj_ext (O : Obj Z h o a_low a_high a_sizes a_capacities a_changed a_isChanged a_bits a_trailVariable a_trailWord a_trailSaved a_trailSize) (E : Ext h h') : Obj Z h' o a_low a_high a_sizes a_capacities a_changed a_isChanged a_bits a_trailVariable a_trailWord a_trailSaved a_trailSize := by
  obtain ⟨f0, f1, f2, f3, f4, f5, f6, f7, f8, f9, f10, f11⟩ := O
  exact ⟨f0.ext E, f1.ext E, f2.ext E, f3.ext E, f4.ext E, f5.ext E, f6.ext E, f7.ext E, f8.ext E, f9.ext E, f10.ext E, f11.ext E⟩
theorem obj_keep {ws : List Addr} (O : Obj Z h o a_low a_high a_sizes a_capacities a_changed a_isChanged a_bits a_trailVariable a_trailWord a_trailSaved a_trailSize) (K : Keep h h' ws) (q : o ∉ ws) : Obj Z h' o a_low a_high a_sizes a_capacities a_changed a_isChanged a_bits a_trailVariable a_trailWord a_trailSaved a_trailSize := by
  obtain ⟨f0, f1, f2, f3, f4, f5, f6, f7, f8, f9, f10, f11⟩ := O
  exact ⟨f0.keep K q, f1.keep K q, f2.keep K q, f3.keep K q, f4.keep K q, f5.keep K q, f6.keep K q, f7.keep K q, f8.keep K q, f9.keep K q, f10.keep K q, f11.keep K q⟩
theorem obj_oth {b : Addr} {sl : Nat} {v : Value} (O : Obj Z h o a_low a_high a_sizes a_capacities a_changed a_isChanged a_bits a_trailVariable a_trailWord a_trailSaved a_trailSize) (W : Wr h h' b sl v) (q : o ≠ b) : Obj Z h' o a_low a_high a_sizes a_capacities a_changed a_isChanged a_bits a_trailVariable a_trailWord a_trailSaved a_trailSize := by
  obtain ⟨f0, f1, f2, f3, f4, f5, f6, f7, f8, f9, f10, f11⟩ := O
  exact ⟨f0.other W (Or.inl q), f1.other W (Or.inl q), f2.other W (Or.inl q), f3.other W (Or.inl q), f4.other W (Or.inl q), f5.other W (Or.inl q), f6.other W (Or.inl q), f7.other W (Or.inl q), f8.other W (Or.inl q), f9.other W (Or.inl q), f10.other W (Or.inl q), f11.other W (Or.inl q)⟩
theorem obj_w_trailLength {a0 : Array Value} (hw : HW a0 Z) {v : Value} (O : Obj Z h o a_low a_high a_sizes a_capacities a_changed a_isChanged a_bits a_trailVariable a_trailWord a_trailSaved a_trailSize) (W : Wr h h' o (Jvm.RoadKit.slotOf Z Dn "trailLength" "I") v) : Obj Z h' o a_low a_high a_sizes a_capacities a_changed a_isChanged a_bits a_trailVariable a_trailWord a_trailSaved a_trailSize := by
  obtain ⟨f0, f1, f2, f3, f4, f5, f6, f7, f8, f9, f10, f11⟩ := O
  exact ⟨f0.other W (sn (Or.inr (wq hw 38 rfl)) (Or.inl (wq hw 58 rfl))), f1.other W (sn (Or.inr (wq hw 40 rfl)) (Or.inl (wq hw 58 rfl))), f2.other W (sn (Or.inr (wq hw 36 rfl)) (Or.inl (wq hw 58 rfl))), f3.other W (sn (Or.inr (wq hw 30 rfl)) (Or.inl (wq hw 58 rfl))), f4.other W (sn (Or.inr (wq hw 43 rfl)) (Or.inl (wq hw 58 rfl))), f5.other W (sn (Or.inr (wq hw 46 rfl)) (Or.inl (wq hw 58 rfl))), f6.other W (sn (Or.inr (wq hw 34 rfl)) (Or.inl (wq hw 58 rfl))), f7.other W (sn (Or.inl (wq hw 12 rfl)) (Or.inl (wq hw 58 rfl))), f8.other W (sn (Or.inl (wq hw 14 rfl)) (Or.inl (wq hw 58 rfl))), f9.other W (sn (Or.inl (wq hw 17 rfl)) (Or.inl (wq hw 58 rfl))), f10.other W (sn (Or.inl (wq hw 19 rfl)) (Or.inl (wq hw 58 rfl))), f11.other W (sn (Or.inl (wq hw 82 rfl)) (Or.inl (wq hw 58 rfl)))⟩
theorem obj_w_changedCount {a0 : Array Value} (hw : HW a0 Z) {v : Value} (O : Obj Z h o a_low a_high a_sizes a_capacities a_changed a_isChanged a_bits a_trailVariable a_trailWord a_trailSaved a_trailSize) (W : Wr h h' o (Jvm.RoadKit.slotOf Z Dn "changedCount" "I") v) : Obj Z h' o a_low a_high a_sizes a_capacities a_changed a_isChanged a_bits a_trailVariable a_trailWord a_trailSaved a_trailSize := by
  obtain ⟨f0, f1, f2, f3, f4, f5, f6, f7, f8, f9, f10, f11⟩ := O
  exact ⟨f0.other W (sn (Or.inr (wq hw 38 rfl)) (Or.inl (wq hw 65 rfl))), f1.other W (sn (Or.inr (wq hw 40 rfl)) (Or.inl (wq hw 65 rfl))), f2.other W (sn (Or.inr (wq hw 36 rfl)) (Or.inl (wq hw 65 rfl))), f3.other W (sn (Or.inr (wq hw 30 rfl)) (Or.inl (wq hw 65 rfl))), f4.other W (sn (Or.inr (wq hw 43 rfl)) (Or.inl (wq hw 65 rfl))), f5.other W (sn (Or.inr (wq hw 46 rfl)) (Or.inl (wq hw 65 rfl))), f6.other W (sn (Or.inr (wq hw 34 rfl)) (Or.inl (wq hw 65 rfl))), f7.other W (sn (Or.inl (wq hw 12 rfl)) (Or.inl (wq hw 65 rfl))), f8.other W (sn (Or.inl (wq hw 14 rfl)) (Or.inl (wq hw 65 rfl))), f9.other W (sn (Or.inl (wq hw 17 rfl)) (Or.inl (wq hw 65 rfl))), f10.other W (sn (Or.inl (wq hw 19 rfl)) (Or.inl (wq hw 65 rfl))), f11.other W (sn (Or.inl (wq hw 82 rfl)) (Or.inl (wq hw 65 rfl)))⟩
end
theorem d12_0 : DC B12 0 (.aload_n 0) 1 := by decide +kernel
theorem d12_1 : DC B12 1 (.getfield 60) 3 := by decide +kernel
theorem d12_4 : DC B12 4 (.aload_n 0) 1 := by decide +kernel
theorem d12_5 : DC B12 5 (.getfield 7) 3 := by decide +kernel
theorem d12_8 : DC B12 8 (.arraylength) 1 := by decide +kernel
theorem d12_9 : DC B12 9 (.if_icmp .ne 63) 3 := by decide +kernel
theorem d12_72 : DC B12 72 (.aload_n 0) 1 := by decide +kernel
theorem d12_73 : DC B12 73 (.getfield 7) 3 := by decide +kernel
theorem d12_76 : DC B12 76 (.aload_n 0) 1 := by decide +kernel
theorem d12_77 : DC B12 77 (.getfield 60) 3 := by decide +kernel
theorem d12_80 : DC B12 80 (.iload_n 1) 1 := by decide +kernel
theorem d12_81 : DC B12 81 (.iastore) 1 := by decide +kernel
theorem d12_82 : DC B12 82 (.aload_n 0) 1 := by decide +kernel
theorem d12_83 : DC B12 83 (.getfield 13) 3 := by decide +kernel
theorem d12_86 : DC B12 86 (.aload_n 0) 1 := by decide +kernel
theorem d12_87 : DC B12 87 (.getfield 60) 3 := by decide +kernel
theorem d12_90 : DC B12 90 (.iload_n 2) 1 := by decide +kernel
theorem d12_91 : DC B12 91 (.iastore) 1 := by decide +kernel
theorem d12_92 : DC B12 92 (.aload_n 0) 1 := by decide +kernel
theorem d12_93 : DC B12 93 (.getfield 16) 3 := by decide +kernel
theorem d12_96 : DC B12 96 (.aload_n 0) 1 := by decide +kernel
theorem d12_97 : DC B12 97 (.getfield 60) 3 := by decide +kernel
theorem d12_100 : DC B12 100 (.lload_n 3) 1 := by decide +kernel
theorem d12_101 : DC B12 101 (.lastore) 1 := by decide +kernel
theorem d12_102 : DC B12 102 (.aload_n 0) 1 := by decide +kernel
theorem d12_103 : DC B12 103 (.getfield 20) 3 := by decide +kernel
theorem d12_106 : DC B12 106 (.aload_n 0) 1 := by decide +kernel
theorem d12_107 : DC B12 107 (.getfield 60) 3 := by decide +kernel
theorem d12_110 : DC B12 110 (.aload_n 0) 1 := by decide +kernel
theorem d12_111 : DC B12 111 (.getfield 36) 3 := by decide +kernel
theorem d12_114 : DC B12 114 (.iload_n 1) 1 := by decide +kernel
theorem d12_115 : DC B12 115 (.iaload) 1 := by decide +kernel
theorem d12_116 : DC B12 116 (.iastore) 1 := by decide +kernel
theorem d12_117 : DC B12 117 (.aload_n 0) 1 := by decide +kernel
theorem d12_118 : DC B12 118 (.dup) 1 := by decide +kernel
theorem d12_119 : DC B12 119 (.getfield 60) 3 := by decide +kernel
theorem d12_122 : DC B12 122 (.iconst 1) 1 := by decide +kernel
theorem d12_123 : DC B12 123 (.iadd) 1 := by decide +kernel
theorem d12_124 : DC B12 124 (.putfield 60) 3 := by decide +kernel
theorem d12_127 : DC B12 127 (.return_) 1 := by decide +kernel
def Q12 (Z : State) (o0 : Addr) (p1 : Int32) (p2 : Int32) (q3 : Int64) (tl : Int32) (cc : Int32) (lA : Addr) (hA : Addr) (sA : Addr) (cA : Addr) (chA : Addr) (icA : Addr) (bA : Addr) (tvA : Addr) (twA : Addr) (tsA : Addr) (tzA : Addr) (sF : Nat → Int32) (tvF : Nat → Int32) (twF : Nat → Int32) (tsF : Nat → Int64) (tzF : Nat → Int32) (h0 : Heap) (n0 : Nat) (v : Option Value) (h : Heap) (L : List Loc) : Prop := v = none ∧ Fr n0 L ∧ Keep h0 h [tvA, twA, tsA, tzA, o0] ∧ Exa Z h o0 Dn ∧ Fld Z h o0 Dn "trailLength" "I" (.int (tl + (1 : Int32))) ∧ Fld Z h o0 Dn "changedCount" "I" (.int cc) ∧ Obj Z h o0 lA hA sA cA chA icA bA tvA twA tsA tzA ∧ AV Z h sA .int 2 (fun k => .int (sF k)) ∧ AV Z h tvA .int 1024 (fun k => .int ((up tvF tl.toNatClampNeg p1) k)) ∧ AV Z h twA .int 1024 (fun k => .int ((up twF tl.toNatClampNeg p2) k)) ∧ AV Z h tsA .long 1024 (fun k => .long ((up tsF tl.toNatClampNeg q3) k)) ∧ AV Z h tzA .int 1024 (fun k => .int ((up tzF tl.toNatClampNeg (sF p1.toNatClampNeg)) k))
theorem ef_12_aaaa (m : MethodId) (x0 : Addr) (x1 : Int32) (x2 : Int32) (x3 : Int64) : entryFrame m #[(.ref x0), (.int x1), (.int x2), (.long x3)] 6 = mkF m 0 #[.val (.ref x0), .val (.int x1), .val (.int x2), .val (.long x3), .second, .unset] [] := by first | (simp [entryFrame, mkF, argsToLocals, Value.category]; done) | rfl
theorem rm12 (l : Launch) (Z : State) (a0 : Array Value) (hw : HW a0 Z) (ws : List Jvm.Cond) (o0 : Addr) (p1 : Int32) (p2 : Int32) (q3 : Int64) (tl : Int32) (cc : Int32) (lA : Addr) (hA : Addr) (sA : Addr) (cA : Addr) (chA : Addr) (icA : Addr) (bA : Addr) (tvA : Addr) (twA : Addr) (tsA : Addr) (tzA : Addr) (sF : Nat → Int32) (tvF : Nat → Int32) (twF : Nat → Int32) (tsF : Nat → Int64) (tzF : Nat → Int32) (h0 : Heap) (n0 : Nat) (Z0 : n0 ≤ h0.size) (ha0 : Exa Z h0 o0 Dn) (ha1 : Fld Z h0 o0 Dn "trailLength" "I" (.int tl)) (ha2 : Fld Z h0 o0 Dn "changedCount" "I" (.int cc)) (ha3 : Obj Z h0 o0 lA hA sA cA chA icA bA tvA twA tsA tzA) (ha4 : AV Z h0 sA .int 2 (fun k => .int (sF k))) (ha5 : AV Z h0 tvA .int 1024 (fun k => .int (tvF k))) (ha6 : AV Z h0 twA .int 1024 (fun k => .int (twF k))) (ha7 : AV Z h0 tsA .long 1024 (fun k => .long (tsF k))) (ha8 : AV Z h0 tzA .int 1024 (fun k => .int (tzF k))) (ha9 : n0 ≤ o0) (ha10 : n0 ≤ tvA) (ha11 : n0 ≤ twA) (ha12 : n0 ≤ tsA) (ha13 : n0 ≤ tzA) (hne_o0_sA : o0 ≠ sA) (hne_o0_tvA : o0 ≠ tvA) (hne_o0_twA : o0 ≠ twA) (hne_o0_tsA : o0 ≠ tsA) (hne_o0_tzA : o0 ≠ tzA) (hne_sA_tvA : sA ≠ tvA) (hne_sA_twA : sA ≠ twA) (hne_sA_tsA : sA ≠ tsA) (hne_sA_tzA : sA ≠ tzA) (hne_tvA_twA : tvA ≠ twA) (hne_tvA_tsA : tvA ≠ tsA) (hne_tvA_tzA : tvA ≠ tzA) (hne_twA_tsA : twA ≠ tsA) (hne_twA_tzA : twA ≠ tzA) (hne_tsA_tzA : tsA ≠ tzA) (hxb : ¬ p1 < 0 ∧ p1.toNatClampNeg < 2) (htl : ¬ tl = (1024 : Int32)) (htb : ¬ tl < 0 ∧ tl.toNatClampNeg < 1024) :
    MetFree l y12 (head1 (Jvm.Cond.code y12 prog_22_method_24_code 6 none :: ws) RM_0_0_0_0) (fun a U => a = #[(.ref o0), (.int p1), (.int p2), (.long q3)] ∧ Z.Warmed39 U.vm ∧ U.heap = h0) (fun _ _ _ _ _ => True) (fun _ U o U' => ∃ v L, o = .returned v ∧ Q12 Z o0 p1 p2 q3 tl cc lA hA sA cA chA icA bA tvA twA tsA tzA sF tvF twF tsF tzF h0 n0 v U'.heap L ∧ FrameEnd U o U' L RM_0_0_0_0.cells RM_0_0_0_0.slots) := by
  refine MetFree.of_bodySF (plainFor_of_name pn_2) hisR ?_
  intro p e s m args below meth c s₁ Bd hml0 hP hK
  obtain ⟨rfl, hZ, hh⟩ := hP
  have hx := Bd.exec
  have hby := Bd.bytes
  have hml : c.maxLocals = 6 := hml0
  have hown : s.vm.findClass Dn = some m.cls := findClass_of_methodNamed Bd.named
  have X0 : Stand p l e RM_0_0_0_0 s m _ below meth c s₁ [] 0 0 := Stand.of_body Bd
  have e0 : s₁.heap = h0 := by rw [← hh, Bd.state]; rfl
  have N0 := Fr.nil n0
  refine Go.into (P := fun oo uu => ∃ v L, oo = .returned v ∧ Q12 Z o0 p1 p2 q3 tl cc lA hA sA cA chA icA bA tvA twA tsA tzA sF tvF twF tsF tzF h0 n0 v uu.heap L ∧ FrameEnd s oo uu L RM_0_0_0_0.cells RM_0_0_0_0.slots) (ef_12_aaaa m o0 p1 p2 q3) ?_
  show Go p e below _ (s₁.setTop (mkF m 0 #[sR o0, sI p1, sI p2, .val (.long q3), .second, .unset] []))
  refine Vi (s₁.setTop (mkF m 1 #[sR o0, sI p1, sI p2, .val (.long q3), .second, .unset] [(.ref o0)])) (fun tZ kZ => ?_) ?_
  · refine XS.aloadN X0.here hx rfl (hb hby d12_0) rfl rfl ?_
    exact kZ
  refine GF X0 hx hZ hown (wq hw 57 rfl) e0 ha1 (hb hby d12_1) fun T1 X1 e1 => ?_
  refine Vi (T1.setTop (mkF m 5 #[sR o0, sI p1, sI p2, .val (.long q3), .second, .unset] [(.ref o0), (.int tl)])) (fun tZ kZ => ?_) ?_
  · refine XS.aloadN X1.here hx rfl (hb hby d12_4) rfl rfl ?_
    exact kZ
  refine GF X1 hx hZ hown (wq hw 11 rfl) e1 (obj_trailVariable ha3) (hb hby d12_5) fun T2 X2 e2 => ?_
  refine Vi (T2.setTop (mkF m 73 #[sR o0, sI p1, sI p2, .val (.long q3), .second, .unset] [(.ref o0)])) (fun tZ kZ => ?_) ?_
  · refine AV.len ha5 X2 hx hZ e2 (hb hby d12_8) ?_
    refine XS.icmpYes X2.here hx rfl (pc0 := 9) (pc' := 72) rfl (hb hby d12_9) rfl (feq htl).2 (by decide) (by decide) ?_
    refine XS.aloadN X2.here hx rfl (hb hby d12_72) rfl rfl ?_
    exact kZ
  refine GF X2 hx hZ hown (wq hw 11 rfl) e2 (obj_trailVariable ha3) (hb hby d12_73) fun T3 X3 e3 => ?_
  refine Vi (T3.setTop (mkF m 77 #[sR o0, sI p1, sI p2, .val (.long q3), .second, .unset] [(.ref o0), (.ref tvA)])) (fun tZ kZ => ?_) ?_
  · refine XS.aloadN X3.here hx rfl (hb hby d12_76) rfl rfl ?_
    exact kZ
  refine GF X3 hx hZ hown (wq hw 57 rfl) e3 ha1 (hb hby d12_77) fun T4 X4 e4 => ?_
  refine Vi (T4.setTop (mkF m 81 #[sR o0, sI p1, sI p2, .val (.long q3), .second, .unset] [(.int p1), (.int tl), (.ref tvA)])) (fun tZ kZ => ?_) ?_
  · refine XS.iloadN X4.here hx rfl (hb hby d12_80) rfl ?_
    exact kZ
  obtain ⟨T5, h5, X5, e5, W5, V5, st5⟩ := AV.iastore ha5 X4 hx hZ e4 (j := tl) htb (Ls := #[sR o0, sI p1, sI p2, .val (.long q3), .second, .unset]) (rest := []) (hb hby d12_81) (x := p1)
  have N5 := Fr.snoc X5 N0 ha10
  have c6_0 := ha0.wr W5
  have c6_1 := ha1.other W5 (Or.inl hne_o0_tvA)
  have c6_2 := ha2.other W5 (Or.inl hne_o0_tvA)
  have c6_3 := obj_oth ha3 W5 hne_o0_tvA
  have c6_4 := ha4.other W5 hne_sA_tvA
  have c6_6 := ha6.other W5 (Ne.symm hne_tvA_twA)
  have c6_7 := ha7.other W5 (Ne.symm hne_tvA_tsA)
  have c6_8 := ha8.other W5 (Ne.symm hne_tvA_tzA)
  have K5 : Keep h0 h5 [tvA, twA, tsA, tzA, o0] := (Keep.refl h0 [tvA, twA, tsA, tzA, o0]).wr W5 (Or.inl (by simp))
  have Z5 := Nat.le_trans Z0 (Keep.of_wr W5).1
  refine Go.via st5 ?_
  refine Vi (T5.setTop (mkF m 83 #[sR o0, sI p1, sI p2, .val (.long q3), .second, .unset] [(.ref o0)])) (fun tZ kZ => ?_) ?_
  · refine XS.aloadN X5.here hx rfl (hb hby d12_82) rfl rfl ?_
    exact kZ
  refine GF X5 hx hZ hown (wq hw 13 rfl) e5 (obj_trailWord c6_3) (hb hby d12_83) fun T7 X7 e7 => ?_
  refine Vi (T7.setTop (mkF m 87 #[sR o0, sI p1, sI p2, .val (.long q3), .second, .unset] [(.ref o0), (.ref twA)])) (fun tZ kZ => ?_) ?_
  · refine XS.aloadN X7.here hx rfl (hb hby d12_86) rfl rfl ?_
    exact kZ
  refine GF X7 hx hZ hown (wq hw 57 rfl) e7 c6_1 (hb hby d12_87) fun T8 X8 e8 => ?_
  refine Vi (T8.setTop (mkF m 91 #[sR o0, sI p1, sI p2, .val (.long q3), .second, .unset] [(.int p2), (.int tl), (.ref twA)])) (fun tZ kZ => ?_) ?_
  · refine XS.iloadN X8.here hx rfl (hb hby d12_90) rfl ?_
    exact kZ
  obtain ⟨T9, h9, X9, e9, W9, V9, st9⟩ := AV.iastore c6_6 X8 hx hZ e8 (j := tl) htb (Ls := #[sR o0, sI p1, sI p2, .val (.long q3), .second, .unset]) (rest := []) (hb hby d12_91) (x := p2)
  have N9 := Fr.snoc X9 N5 ha11
  have c10_0 := c6_0.wr W9
  have c10_1 := c6_1.other W9 (Or.inl hne_o0_twA)
  have c10_2 := c6_2.other W9 (Or.inl hne_o0_twA)
  have c10_3 := obj_oth c6_3 W9 hne_o0_twA
  have c10_4 := c6_4.other W9 hne_sA_twA
  have c10_5 := V5.other W9 hne_tvA_twA
  have c10_7 := c6_7.other W9 (Ne.symm hne_twA_tsA)
  have c10_8 := c6_8.other W9 (Ne.symm hne_twA_tzA)
  have K9 : Keep h0 h9 [tvA, twA, tsA, tzA, o0] := K5.wr W9 (Or.inl (by simp))
  have Z9 := Nat.le_trans Z5 (Keep.of_wr W9).1
  refine Go.via st9 ?_
  refine Vi (T9.setTop (mkF m 93 #[sR o0, sI p1, sI p2, .val (.long q3), .second, .unset] [(.ref o0)])) (fun tZ kZ => ?_) ?_
  · refine XS.aloadN X9.here hx rfl (hb hby d12_92) rfl rfl ?_
    exact kZ
  refine GF X9 hx hZ hown (wq hw 16 rfl) e9 (obj_trailSaved c10_3) (hb hby d12_93) fun T11 X11 e11 => ?_
  refine Vi (T11.setTop (mkF m 97 #[sR o0, sI p1, sI p2, .val (.long q3), .second, .unset] [(.ref o0), (.ref tsA)])) (fun tZ kZ => ?_) ?_
  · refine XS.aloadN X11.here hx rfl (hb hby d12_96) rfl rfl ?_
    exact kZ
  refine GF X11 hx hZ hown (wq hw 57 rfl) e11 c10_1 (hb hby d12_97) fun T12 X12 e12 => ?_
  refine Vi (T12.setTop (mkF m 101 #[sR o0, sI p1, sI p2, .val (.long q3), .second, .unset] [(.long q3), (.int tl), (.ref tsA)])) (fun tZ kZ => ?_) ?_
  · refine XS.lloadN X12.here hx rfl (hb hby d12_100) rfl ?_
    exact kZ
  obtain ⟨T13, h13, X13, e13, W13, V13, st13⟩ := AV.lastore c10_7 X12 hx hZ e12 (j := tl) htb (Ls := #[sR o0, sI p1, sI p2, .val (.long q3), .second, .unset]) (rest := []) (hb hby d12_101) (x := q3)
  have N13 := Fr.snoc X13 N9 ha12
  have c14_0 := c10_0.wr W13
  have c14_1 := c10_1.other W13 (Or.inl hne_o0_tsA)
  have c14_2 := c10_2.other W13 (Or.inl hne_o0_tsA)
  have c14_3 := obj_oth c10_3 W13 hne_o0_tsA
  have c14_4 := c10_4.other W13 hne_sA_tsA
  have c14_5 := c10_5.other W13 hne_tvA_tsA
  have c14_6 := V9.other W13 hne_twA_tsA
  have c14_8 := c10_8.other W13 (Ne.symm hne_tsA_tzA)
  have K13 : Keep h0 h13 [tvA, twA, tsA, tzA, o0] := K9.wr W13 (Or.inl (by simp))
  have Z13 := Nat.le_trans Z9 (Keep.of_wr W13).1
  refine Go.via st13 ?_
  refine Vi (T13.setTop (mkF m 103 #[sR o0, sI p1, sI p2, .val (.long q3), .second, .unset] [(.ref o0)])) (fun tZ kZ => ?_) ?_
  · refine XS.aloadN X13.here hx rfl (hb hby d12_102) rfl rfl ?_
    exact kZ
  refine GF X13 hx hZ hown (wq hw 18 rfl) e13 (obj_trailSize c14_3) (hb hby d12_103) fun T15 X15 e15 => ?_
  refine Vi (T15.setTop (mkF m 107 #[sR o0, sI p1, sI p2, .val (.long q3), .second, .unset] [(.ref o0), (.ref tzA)])) (fun tZ kZ => ?_) ?_
  · refine XS.aloadN X15.here hx rfl (hb hby d12_106) rfl rfl ?_
    exact kZ
  refine GF X15 hx hZ hown (wq hw 57 rfl) e15 c14_1 (hb hby d12_107) fun T16 X16 e16 => ?_
  refine Vi (T16.setTop (mkF m 111 #[sR o0, sI p1, sI p2, .val (.long q3), .second, .unset] [(.ref o0), (.int tl), (.ref tzA)])) (fun tZ kZ => ?_) ?_
  · refine XS.aloadN X16.here hx rfl (hb hby d12_110) rfl rfl ?_
    exact kZ
  refine GF X16 hx hZ hown (wq hw 35 rfl) e16 (obj_sizes c14_3) (hb hby d12_111) fun T17 X17 e17 => ?_
  refine Vi (T17.setTop (mkF m 116 #[sR o0, sI p1, sI p2, .val (.long q3), .second, .unset] [(.int (sF p1.toNatClampNeg)), (.int tl), (.ref tzA)])) (fun tZ kZ => ?_) ?_
  · refine XS.iloadN X17.here hx rfl (hb hby d12_114) rfl ?_
    refine AV.iaload c14_4 X17 hx hZ e17 (j := p1) hxb (hb hby d12_115) ?_
    exact kZ
  obtain ⟨T18, h18, X18, e18, W18, V18, st18⟩ := AV.iastore c14_8 X17 hx hZ e17 (j := tl) htb (Ls := #[sR o0, sI p1, sI p2, .val (.long q3), .second, .unset]) (rest := []) (hb hby d12_116) (x := (sF p1.toNatClampNeg))
  have N18 := Fr.snoc X18 N13 ha13
  have c19_0 := c14_0.wr W18
  have c19_1 := c14_1.other W18 (Or.inl hne_o0_tzA)
  have c19_2 := c14_2.other W18 (Or.inl hne_o0_tzA)
  have c19_3 := obj_oth c14_3 W18 hne_o0_tzA
  have c19_4 := c14_4.other W18 hne_sA_tzA
  have c19_5 := c14_5.other W18 hne_tvA_tzA
  have c19_6 := c14_6.other W18 hne_twA_tzA
  have c19_7 := V13.other W18 hne_tsA_tzA
  have K18 : Keep h0 h18 [tvA, twA, tsA, tzA, o0] := K13.wr W18 (Or.inl (by simp))
  have Z18 := Nat.le_trans Z13 (Keep.of_wr W18).1
  refine Go.via st18 ?_
  refine Vi (T18.setTop (mkF m 119 #[sR o0, sI p1, sI p2, .val (.long q3), .second, .unset] [(.ref o0), (.ref o0)])) (fun tZ kZ => ?_) ?_
  · refine XS.aloadN X18.here hx rfl (hb hby d12_117) rfl rfl ?_
    refine XS.dup X18.here hx rfl (hb hby d12_118) rfl rfl ?_
    exact kZ
  refine GF X18 hx hZ hown (wq hw 57 rfl) e18 c19_1 (hb hby d12_119) fun T20 X20 e20 => ?_
  refine Vi (T20.setTop (mkF m 124 #[sR o0, sI p1, sI p2, .val (.long q3), .second, .unset] [(.int (tl + (1 : Int32))), (.ref o0)])) (fun tZ kZ => ?_) ?_
  · refine XS.iconst X20.here hx rfl (hb hby d12_122) ?_
    refine XS.iadd X20.here hx rfl (hb hby d12_123) rfl ?_
    exact kZ
  obtain ⟨T21, h21, X21, e21, W21, st21⟩ := putF X20 hx hZ hown (host := "") (Or.inl (wq hw 57 rfl)) Via.refl e20 c19_1 c19_0 (Or.inl (wq hw 58 rfl)) (wq hw 2 rfl) (ty := .int) (by decide) rfl rfl (g := (mkF m 124 #[sR o0, sI p1, sI p2, .val (.long q3), .second, .unset] [(.int (tl + (1 : Int32))), (.ref o0)])) rfl rfl (hb hby d12_124)
  have N21 := Fr.snoc X21 N18 ha9
  have c22_0 := c19_0.wr W21
  have c22_2 := c19_2.other W21 (sn (Or.inl (wq hw 65 rfl)) (Or.inl (wq hw 58 rfl)))
  have c22_3 := obj_w_trailLength hw c19_3 W21
  have c22_4 := c19_4.other W21 (Ne.symm hne_o0_sA)
  have c22_5 := c19_5.other W21 (Ne.symm hne_o0_tvA)
  have c22_6 := c19_6.other W21 (Ne.symm hne_o0_twA)
  have c22_7 := c19_7.other W21 (Ne.symm hne_o0_tsA)
  have c22_8 := V18.other W21 (Ne.symm hne_o0_tzA)
  have K21 : Keep h0 h21 [tvA, twA, tsA, tzA, o0] := K18.wr W21 (Or.inl (by simp))
  have Z21 := Nat.le_trans Z18 (Keep.of_wr W21).1
  have Fw21 := c19_1.same W21
  refine Go.via st21 ?_
  refine Go.retV X21 hx Bd.notSynchronized Bd.returns (hb hby d12_127) (by decide) (by decide) ?_
  rw [e21]
  exact ⟨rfl, N21, K21, c22_0, Fw21, c22_2, c22_3, c22_4, c22_5, c22_6, c22_7, c22_8⟩
theorem d11_0 : DC B11 0 (.aload_n 0) 1 := by decide +kernel
theorem d11_1 : DC B11 1 (.iload_n 1) 1 := by decide +kernel
theorem d11_2 : DC B11 2 (.iconst (-1)) 1 := by decide +kernel
theorem d11_3 : DC B11 3 (.aload_n 0) 1 := by decide +kernel
theorem d11_4 : DC B11 4 (.getfield 39) 3 := by decide +kernel
theorem d11_7 : DC B11 7 (.iload_n 1) 1 := by decide +kernel
theorem d11_8 : DC B11 8 (.iaload) 1 := by decide +kernel
theorem d11_9 : DC B11 9 (.i2l) 1 := by decide +kernel
theorem d11_10 : DC B11 10 (.bipush 32) 2 := by decide +kernel
theorem d11_12 : DC B11 12 (.lshl) 1 := by decide +kernel
theorem d11_13 : DC B11 13 (.aload_n 0) 1 := by decide +kernel
theorem d11_14 : DC B11 14 (.getfield 42) 3 := by decide +kernel
theorem d11_17 : DC B11 17 (.iload_n 1) 1 := by decide +kernel
theorem d11_18 : DC B11 18 (.iaload) 1 := by decide +kernel
theorem d11_19 : DC B11 19 (.i2l) 1 := by decide +kernel
theorem d11_20 : DC B11 20 (.ldc2_w 136) 3 := by decide +kernel
theorem d11_23 : DC B11 23 (.land) 1 := by decide +kernel
theorem d11_24 : DC B11 24 (.lor) 1 := by decide +kernel
theorem pd_8 : parseMethodDescriptor "(IIJ)V" = some ⟨[.int, .int, .long], none⟩ := by decide +kernel
theorem d11_25 : DC B11 25 (.invokevirtual 113) 3 := by decide +kernel
theorem d11_28 : DC B11 28 (.aload_n 0) 1 := by decide +kernel
theorem d11_29 : DC B11 29 (.getfield 39) 3 := by decide +kernel
theorem d11_32 : DC B11 32 (.iload_n 1) 1 := by decide +kernel
theorem d11_33 : DC B11 33 (.iload_n 2) 1 := by decide +kernel
theorem d11_34 : DC B11 34 (.iastore) 1 := by decide +kernel
theorem d11_35 : DC B11 35 (.aload_n 0) 1 := by decide +kernel
theorem d11_36 : DC B11 36 (.getfield 42) 3 := by decide +kernel
theorem d11_39 : DC B11 39 (.iload_n 1) 1 := by decide +kernel
theorem d11_40 : DC B11 40 (.iload_n 3) 1 := by decide +kernel
theorem d11_41 : DC B11 41 (.iastore) 1 := by decide +kernel
theorem d11_42 : DC B11 42 (.aload_n 0) 1 := by decide +kernel
theorem d11_43 : DC B11 43 (.getfield 36) 3 := by decide +kernel
theorem d11_46 : DC B11 46 (.iload_n 1) 1 := by decide +kernel
theorem d11_47 : DC B11 47 (.iload 4) 2 := by decide +kernel
theorem d11_49 : DC B11 49 (.iastore) 1 := by decide +kernel
theorem d11_50 : DC B11 50 (.return_) 1 := by decide +kernel
def Q11 (Z : State) (o0 : Addr) (p1 : Int32) (p2 : Int32) (p3 : Int32) (p4 : Int32) (tl : Int32) (cc : Int32) (lA : Addr) (hA : Addr) (sA : Addr) (cA : Addr) (chA : Addr) (icA : Addr) (bA : Addr) (tvA : Addr) (twA : Addr) (tsA : Addr) (tzA : Addr) (sF : Nat → Int32) (lF : Nat → Int32) (hF : Nat → Int32) (tvF : Nat → Int32) (twF : Nat → Int32) (tsF : Nat → Int64) (tzF : Nat → Int32) (h0 : Heap) (n0 : Nat) (v : Option Value) (h : Heap) (L : List Loc) : Prop := v = none ∧ Fr n0 L ∧ Keep h0 h [tvA, twA, tsA, tzA, o0, lA, hA, sA] ∧ Exa Z h o0 Dn ∧ Fld Z h o0 Dn "trailLength" "I" (.int (tl + (1 : Int32))) ∧ Fld Z h o0 Dn "changedCount" "I" (.int cc) ∧ Obj Z h o0 lA hA sA cA chA icA bA tvA twA tsA tzA ∧ AV Z h sA .int 2 (fun k => .int ((up sF p1.toNatClampNeg p4) k)) ∧ AV Z h lA .int 2 (fun k => .int ((up lF p1.toNatClampNeg p2) k)) ∧ AV Z h hA .int 2 (fun k => .int ((up hF p1.toNatClampNeg p3) k)) ∧ AV Z h tvA .int 1024 (fun k => .int ((up tvF tl.toNatClampNeg p1) k)) ∧ AV Z h twA .int 1024 (fun k => .int ((up twF tl.toNatClampNeg (-1 : Int32)) k)) ∧ AV Z h tsA .long 1024 (fun k => .long ((up tsF tl.toNatClampNeg ((((lF p1.toNatClampNeg).toInt64) <<< ((32 : Int32) &&& 0x3f).toInt64) ||| (((hF p1.toNatClampNeg).toInt64) &&& (4294967295 : Int64)))) k)) ∧ AV Z h tzA .int 1024 (fun k => .int ((up tzF tl.toNatClampNeg (sF p1.toNatClampNeg)) k))
abbrev RM_1_0_0_17 : Room := { frames := 1, cells := 0, slots := 0, locals := 17 }
theorem ef_11_aaaaa (m : MethodId) (x0 : Addr) (x1 : Int32) (x2 : Int32) (x3 : Int32) (x4 : Int32) : entryFrame m #[(.ref x0), (.int x1), (.int x2), (.int x3), (.int x4)] 5 = mkF m 0 #[.val (.ref x0), .val (.int x1), .val (.int x2), .val (.int x3), .val (.int x4)] [] := by first | (simp [entryFrame, mkF, argsToLocals, Value.category]; done) | rfl
theorem rm11 (l : Launch) (Z : State) (a0 : Array Value) (hw : HW a0 Z) (ws : List Jvm.Cond) (o0 : Addr) (p1 : Int32) (p2 : Int32) (p3 : Int32) (p4 : Int32) (tl : Int32) (cc : Int32) (lA : Addr) (hA : Addr) (sA : Addr) (cA : Addr) (chA : Addr) (icA : Addr) (bA : Addr) (tvA : Addr) (twA : Addr) (tsA : Addr) (tzA : Addr) (sF : Nat → Int32) (lF : Nat → Int32) (hF : Nat → Int32) (tvF : Nat → Int32) (twF : Nat → Int32) (tsF : Nat → Int64) (tzF : Nat → Int32) (h0 : Heap) (n0 : Nat) (Z0 : n0 ≤ h0.size) (ha0 : Exa Z h0 o0 Dn) (ha1 : Fld Z h0 o0 Dn "trailLength" "I" (.int tl)) (ha2 : Fld Z h0 o0 Dn "changedCount" "I" (.int cc)) (ha3 : Obj Z h0 o0 lA hA sA cA chA icA bA tvA twA tsA tzA) (ha4 : AV Z h0 sA .int 2 (fun k => .int (sF k))) (ha5 : AV Z h0 lA .int 2 (fun k => .int (lF k))) (ha6 : AV Z h0 hA .int 2 (fun k => .int (hF k))) (ha7 : AV Z h0 tvA .int 1024 (fun k => .int (tvF k))) (ha8 : AV Z h0 twA .int 1024 (fun k => .int (twF k))) (ha9 : AV Z h0 tsA .long 1024 (fun k => .long (tsF k))) (ha10 : AV Z h0 tzA .int 1024 (fun k => .int (tzF k))) (ha11 : n0 ≤ o0) (ha12 : n0 ≤ sA) (ha13 : n0 ≤ lA) (ha14 : n0 ≤ hA) (ha15 : n0 ≤ tvA) (ha16 : n0 ≤ twA) (ha17 : n0 ≤ tsA) (ha18 : n0 ≤ tzA) (hne_o0_sA : o0 ≠ sA) (hne_o0_lA : o0 ≠ lA) (hne_o0_hA : o0 ≠ hA) (hne_o0_tvA : o0 ≠ tvA) (hne_o0_twA : o0 ≠ twA) (hne_o0_tsA : o0 ≠ tsA) (hne_o0_tzA : o0 ≠ tzA) (hne_sA_lA : sA ≠ lA) (hne_sA_hA : sA ≠ hA) (hne_sA_tvA : sA ≠ tvA) (hne_sA_twA : sA ≠ twA) (hne_sA_tsA : sA ≠ tsA) (hne_sA_tzA : sA ≠ tzA) (hne_lA_hA : lA ≠ hA) (hne_lA_tvA : lA ≠ tvA) (hne_lA_twA : lA ≠ twA) (hne_lA_tsA : lA ≠ tsA) (hne_lA_tzA : lA ≠ tzA) (hne_hA_tvA : hA ≠ tvA) (hne_hA_twA : hA ≠ twA) (hne_hA_tsA : hA ≠ tsA) (hne_hA_tzA : hA ≠ tzA) (hne_tvA_twA : tvA ≠ twA) (hne_tvA_tsA : tvA ≠ tsA) (hne_tvA_tzA : tvA ≠ tzA) (hne_twA_tsA : twA ≠ tsA) (hne_twA_tzA : twA ≠ tzA) (hne_tsA_tzA : tsA ≠ tzA) (hxb : ¬ p1 < 0 ∧ p1.toNatClampNeg < 2) (htl : ¬ tl = (1024 : Int32)) (htb : ¬ tl < 0 ∧ tl.toNatClampNeg < 1024) :
    MetFree l y11 (head1 (Jvm.Cond.code y11 prog_22_method_23_code 5 none :: ws) RM_1_0_0_17) (fun a U => a = #[(.ref o0), (.int p1), (.int p2), (.int p3), (.int p4)] ∧ Z.Warmed39 U.vm ∧ U.heap = h0) (fun _ _ _ _ _ => True) (fun _ U o U' => ∃ v L, o = .returned v ∧ Q11 Z o0 p1 p2 p3 p4 tl cc lA hA sA cA chA icA bA tvA twA tsA tzA sF lF hF tvF twF tsF tzF h0 n0 v U'.heap L ∧ FrameEnd U o U' L RM_1_0_0_17.cells RM_1_0_0_17.slots) := by
  refine MetFree.of_bodySF (plainFor_of_name pn_2) hisR ?_
  intro p e s m args below meth c s₁ Bd hml0 hP hK
  obtain ⟨rfl, hZ, hh⟩ := hP
  have hx := Bd.exec
  have hby := Bd.bytes
  have hml : c.maxLocals = 5 := hml0
  have hown : s.vm.findClass Dn = some m.cls := findClass_of_methodNamed Bd.named
  have X0 : Stand p l e RM_1_0_0_17 s m _ below meth c s₁ [] 0 0 := Stand.of_body Bd
  have e0 : s₁.heap = h0 := by rw [← hh, Bd.state]; rfl
  have N0 := Fr.nil n0
  refine Go.into (P := fun oo uu => ∃ v L, oo = .returned v ∧ Q11 Z o0 p1 p2 p3 p4 tl cc lA hA sA cA chA icA bA tvA twA tsA tzA sF lF hF tvF twF tsF tzF h0 n0 v uu.heap L ∧ FrameEnd s oo uu L RM_1_0_0_17.cells RM_1_0_0_17.slots) (ef_11_aaaaa m o0 p1 p2 p3 p4) ?_
  show Go p e below _ (s₁.setTop (mkF m 0 #[sR o0, sI p1, sI p2, sI p3, sI p4] []))
  refine Vi (s₁.setTop (mkF m 4 #[sR o0, sI p1, sI p2, sI p3, sI p4] [(.ref o0), (.int (-1)), (.int p1), (.ref o0)])) (fun tZ kZ => ?_) ?_
  · refine XS.aloadN X0.here hx rfl (hb hby d11_0) rfl rfl ?_
    refine XS.iloadN X0.here hx rfl (hb hby d11_1) rfl ?_
    refine XS.iconst X0.here hx rfl (hb hby d11_2) ?_
    refine XS.aloadN X0.here hx rfl (hb hby d11_3) rfl rfl ?_
    exact kZ
  refine GF X0 hx hZ hown (wq hw 37 rfl) e0 (obj_low ha3) (hb hby d11_4) fun T1 X1 e1 => ?_
  refine Vi (T1.setTop (mkF m 14 #[sR o0, sI p1, sI p2, sI p3, sI p4] [(.ref o0), (.long (((lF p1.toNatClampNeg).toInt64) <<< ((32 : Int32) &&& 0x3f).toInt64)), (.int (-1)), (.int p1), (.ref o0)])) (fun tZ kZ => ?_) ?_
  · refine XS.iloadN X1.here hx rfl (hb hby d11_7) rfl ?_
    refine AV.iaload ha5 X1 hx hZ e1 (j := p1) hxb (hb hby d11_8) ?_
    refine XS.i2l X1.here hx rfl (hb hby d11_9) rfl ?_
    refine XS.bipush X1.here hx rfl (hb hby d11_10) ?_
    refine XS.lshl X1.here hx rfl (hb hby d11_12) rfl ?_
    refine XS.aloadN X1.here hx rfl (hb hby d11_13) rfl rfl ?_
    exact kZ
  refine GF X1 hx hZ hown (wq hw 39 rfl) e1 (obj_high ha3) (hb hby d11_14) fun T2 X2 e2 => ?_
  refine Vi (T2.setTop (mkF m 25 #[sR o0, sI p1, sI p2, sI p3, sI p4] [(.long ((((lF p1.toNatClampNeg).toInt64) <<< ((32 : Int32) &&& 0x3f).toInt64) ||| (((hF p1.toNatClampNeg).toInt64) &&& (4294967295 : Int64)))), (.int (-1)), (.int p1), (.ref o0)])) (fun tZ kZ => ?_) ?_
  · refine XS.iloadN X2.here hx rfl (hb hby d11_17) rfl ?_
    refine AV.iaload ha6 X2 hx hZ e2 (j := p1) hxb (hb hby d11_18) ?_
    refine XS.i2l X2.here hx rfl (hb hby d11_19) rfl ?_
    refine X2.ldc2Long hx hown (wz hZ hw 96 rfl) (g := (mkF m 20 #[sR o0, sI p1, sI p2, sI p3, sI p4] [(.long ((hF p1.toNatClampNeg).toInt64)), (.long (((lF p1.toNatClampNeg).toInt64) <<< ((32 : Int32) &&& 0x3f).toInt64)), (.int (-1)), (.int p1), (.ref o0)])) rfl (hb hby d11_20) _ ?_
    refine XS.land X2.here hx rfl (hb hby d11_23) rfl ?_
    refine XS.lor X2.here hx rfl (hb hby d11_24) rfl ?_
    exact kZ
  obtain ⟨cq3, q3, q3'⟩ := ha0.cell
  obtain ⟨_, _, ⟨T3, L3, k3, n3⟩, -, X3, ⟨Lc3, hQ3, l3, y3, z3⟩, st3⟩ := X2.privateBack hx (y := y12) hown (wz hZ hw 97 rfl) (wz hZ hw 98 rfl) (mvT hZ (own_selp (y := y12) (wq hw 98 rfl) (wq hw 99 rfl) (wq hw 2 rfl) (by decide))) (Cond.privateMethod_at (mvP hZ (wq hw 99 rfl) (args := #[]))) (wz hZ hw 100 rfl) (by decide) (backOf (W := 0) (rm12 l Z a0 hw [] o0 p1 (-1 : Int32) ((((lF p1.toNatClampNeg).toInt64) <<< ((32 : Int32) &&& 0x3f).toInt64) ||| (((hF p1.toNatClampNeg).toInt64) &&& (4294967295 : Int64))) tl cc lA hA sA cA chA icA bA tvA twA tsA tzA sF tvF twF tsF tzF h0 n0 Z0 ha0 ha1 ha2 ha3 ha4 ha7 ha8 ha9 ha10 ha11 ha15 ha16 ha17 ha18 hne_o0_sA hne_o0_tvA hne_o0_twA hne_o0_tsA hne_o0_tzA hne_sA_tvA hne_sA_twA hne_sA_tsA hne_sA_tzA hne_tvA_twA hne_tvA_tsA hne_tvA_tzA hne_twA_tsA hne_twA_tzA hne_tsA_tzA hxb htl htb) hZ (wq hw 100 rfl) (wq hw 3 rfl) (by decide) (by decide)) (g := (mkF m 25 #[sR o0, sI p1, sI p2, sI p3, sI p4] [(.long ((((lF p1.toNatClampNeg).toInt64) <<< ((32 : Int32) &&& 0x3f).toInt64) ||| (((hF p1.toNatClampNeg).toInt64) &&& (4294967295 : Int64)))), (.int (-1)), (.int p1), (.ref o0)])) rfl (by rw [hml]; rfl) (Steps.refl _) (a := o0) (by rw [e2]; exact q3) q3' (argsL := [(.int p1), (.int (-1)), (.long ((((lF p1.toNatClampNeg).toInt64) <<< ((32 : Int32) &&& 0x3f).toInt64) ||| (((hF p1.toNatClampNeg).toInt64) &&& (4294967295 : Int64))))]) (rest := []) (lenOf pd_8 rfl) rfl (leW rfl) (hb hby d11_25) (fun _ _ => ⟨rfl, e2, (by decide : 0 + 0 ≤ _), (by decide : 0 + 0 ≤ _)⟩)
  dsimp only [Pt.U, Pt.locs, Pt.cells, Pt.slots] at X3 l3 y3 z3 st3 hQ3
  subst l3 y3 z3
  obtain ⟨rfl, N3q, Kq3, f3_0, f3_1, f3_2, f3_3, f3_4, f3_5, f3_6, f3_7, f3_8⟩ := hQ3
  have c4_5 := ha5.keep Kq3 (ninS hne_lA_tvA (ninS hne_lA_twA (ninS hne_lA_tsA (ninS hne_lA_tzA (ninS (Ne.symm hne_o0_lA) nin0)))))
  have c4_6 := ha6.keep Kq3 (ninS hne_hA_tvA (ninS hne_hA_twA (ninS hne_hA_tsA (ninS hne_hA_tzA (ninS (Ne.symm hne_o0_hA) nin0)))))
  have K3 : Keep h0 T3.heap [tvA, twA, tsA, tzA, o0, lA, hA, sA] := (Keep.refl h0 [tvA, twA, tsA, tzA, o0, lA, hA, sA]).trans Kq3 (allS (Or.inl (by simp)) (allS (Or.inl (by simp)) (allS (Or.inl (by simp)) (allS (Or.inl (by simp)) (allS (Or.inl (by simp)) all0)))))
  have Z3 := Nat.le_trans Z0 Kq3.1
  have N3 := Fr.app N0 N3q
  refine Go.via (fun t k => st3.trans k) ?_
  refine Vi (T3.setTop (mkF m 29 #[sR o0, sI p1, sI p2, sI p3, sI p4] [(.ref o0)])) (fun tZ kZ => ?_) ?_
  · refine XS.aloadN X3.here hx rfl (hb hby d11_28) rfl rfl ?_
    exact kZ
  refine GF X3 hx hZ hown (wq hw 37 rfl) rfl (obj_low f3_3) (hb hby d11_29) fun T5 X5 e5 => ?_
  refine Vi (T5.setTop (mkF m 34 #[sR o0, sI p1, sI p2, sI p3, sI p4] [(.int p2), (.int p1), (.ref lA)])) (fun tZ kZ => ?_) ?_
  · refine XS.iloadN X5.here hx rfl (hb hby d11_32) rfl ?_
    refine XS.iloadN X5.here hx rfl (hb hby d11_33) rfl ?_
    exact kZ
  obtain ⟨T6, h6, X6, e6, W6, V6, st6⟩ := AV.iastore c4_5 X5 hx hZ e5 (j := p1) hxb (Ls := #[sR o0, sI p1, sI p2, sI p3, sI p4]) (rest := []) (hb hby d11_34) (x := p2)
  have N6 := Fr.snoc X6 N3 ha13
  have c7_0 := f3_0.wr W6
  have c7_1 := f3_1.other W6 (Or.inl hne_o0_lA)
  have c7_2 := f3_2.other W6 (Or.inl hne_o0_lA)
  have c7_3 := obj_oth f3_3 W6 hne_o0_lA
  have c7_4 := f3_4.other W6 hne_sA_lA
  have c7_6 := c4_6.other W6 (Ne.symm hne_lA_hA)
  have c7_7 := f3_5.other W6 (Ne.symm hne_lA_tvA)
  have c7_8 := f3_6.other W6 (Ne.symm hne_lA_twA)
  have c7_9 := f3_7.other W6 (Ne.symm hne_lA_tsA)
  have c7_10 := f3_8.other W6 (Ne.symm hne_lA_tzA)
  have K6 : Keep h0 h6 [tvA, twA, tsA, tzA, o0, lA, hA, sA] := K3.wr W6 (Or.inl (by simp))
  have Z6 := Nat.le_trans Z3 (Keep.of_wr W6).1
  refine Go.via st6 ?_
  refine Vi (T6.setTop (mkF m 36 #[sR o0, sI p1, sI p2, sI p3, sI p4] [(.ref o0)])) (fun tZ kZ => ?_) ?_
  · refine XS.aloadN X6.here hx rfl (hb hby d11_35) rfl rfl ?_
    exact kZ
  refine GF X6 hx hZ hown (wq hw 39 rfl) e6 (obj_high c7_3) (hb hby d11_36) fun T8 X8 e8 => ?_
  refine Vi (T8.setTop (mkF m 41 #[sR o0, sI p1, sI p2, sI p3, sI p4] [(.int p3), (.int p1), (.ref hA)])) (fun tZ kZ => ?_) ?_
  · refine XS.iloadN X8.here hx rfl (hb hby d11_39) rfl ?_
    refine XS.iloadN X8.here hx rfl (hb hby d11_40) rfl ?_
    exact kZ
  obtain ⟨T9, h9, X9, e9, W9, V9, st9⟩ := AV.iastore c7_6 X8 hx hZ e8 (j := p1) hxb (Ls := #[sR o0, sI p1, sI p2, sI p3, sI p4]) (rest := []) (hb hby d11_41) (x := p3)
  have N9 := Fr.snoc X9 N6 ha14
  have c10_0 := c7_0.wr W9
  have c10_1 := c7_1.other W9 (Or.inl hne_o0_hA)
  have c10_2 := c7_2.other W9 (Or.inl hne_o0_hA)
  have c10_3 := obj_oth c7_3 W9 hne_o0_hA
  have c10_4 := c7_4.other W9 hne_sA_hA
  have c10_5 := V6.other W9 hne_lA_hA
  have c10_7 := c7_7.other W9 (Ne.symm hne_hA_tvA)
  have c10_8 := c7_8.other W9 (Ne.symm hne_hA_twA)
  have c10_9 := c7_9.other W9 (Ne.symm hne_hA_tsA)
  have c10_10 := c7_10.other W9 (Ne.symm hne_hA_tzA)
  have K9 : Keep h0 h9 [tvA, twA, tsA, tzA, o0, lA, hA, sA] := K6.wr W9 (Or.inl (by simp))
  have Z9 := Nat.le_trans Z6 (Keep.of_wr W9).1
  refine Go.via st9 ?_
  refine Vi (T9.setTop (mkF m 43 #[sR o0, sI p1, sI p2, sI p3, sI p4] [(.ref o0)])) (fun tZ kZ => ?_) ?_
  · refine XS.aloadN X9.here hx rfl (hb hby d11_42) rfl rfl ?_
    exact kZ
  refine GF X9 hx hZ hown (wq hw 35 rfl) e9 (obj_sizes c10_3) (hb hby d11_43) fun T11 X11 e11 => ?_
  refine Vi (T11.setTop (mkF m 49 #[sR o0, sI p1, sI p2, sI p3, sI p4] [(.int p4), (.int p1), (.ref sA)])) (fun tZ kZ => ?_) ?_
  · refine XS.iloadN X11.here hx rfl (hb hby d11_46) rfl ?_
    refine XS.iload X11.here hx rfl (hb hby d11_47) rfl ?_
    exact kZ
  obtain ⟨T12, h12, X12, e12, W12, V12, st12⟩ := AV.iastore c10_4 X11 hx hZ e11 (j := p1) hxb (Ls := #[sR o0, sI p1, sI p2, sI p3, sI p4]) (rest := []) (hb hby d11_49) (x := p4)
  have N12 := Fr.snoc X12 N9 ha12
  have c13_0 := c10_0.wr W12
  have c13_1 := c10_1.other W12 (Or.inl hne_o0_sA)
  have c13_2 := c10_2.other W12 (Or.inl hne_o0_sA)
  have c13_3 := obj_oth c10_3 W12 hne_o0_sA
  have c13_5 := c10_5.other W12 (Ne.symm hne_sA_lA)
  have c13_6 := V9.other W12 (Ne.symm hne_sA_hA)
  have c13_7 := c10_7.other W12 (Ne.symm hne_sA_tvA)
  have c13_8 := c10_8.other W12 (Ne.symm hne_sA_twA)
  have c13_9 := c10_9.other W12 (Ne.symm hne_sA_tsA)
  have c13_10 := c10_10.other W12 (Ne.symm hne_sA_tzA)
  have K12 : Keep h0 h12 [tvA, twA, tsA, tzA, o0, lA, hA, sA] := K9.wr W12 (Or.inl (by simp))
  have Z12 := Nat.le_trans Z9 (Keep.of_wr W12).1
  refine Go.via st12 ?_
  refine Go.retV X12 hx Bd.notSynchronized Bd.returns (hb hby d11_50) (by decide) (by decide) ?_
  rw [e12]
  exact ⟨rfl, N12, K12, c13_0, c13_1, c13_2, c13_3, V12, c13_5, c13_6, c13_7, c13_8, c13_9, c13_10⟩
theorem d13_0 : DC B13 0 (.aload_n 0) 1 := by decide +kernel
theorem d13_1 : DC B13 1 (.getfield 48) 3 := by decide +kernel
theorem d13_4 : DC B13 4 (.iload_n 1) 1 := by decide +kernel
theorem d13_5 : DC B13 5 (.baload) 1 := by decide +kernel
theorem d13_6 : DC B13 6 (.ifCond .ne 27) 3 := by decide +kernel
theorem d13_9 : DC B13 9 (.aload_n 0) 1 := by decide +kernel
theorem d13_10 : DC B13 10 (.getfield 48) 3 := by decide +kernel
theorem d13_13 : DC B13 13 (.iload_n 1) 1 := by decide +kernel
theorem d13_14 : DC B13 14 (.iconst 1) 1 := by decide +kernel
theorem d13_15 : DC B13 15 (.bastore) 1 := by decide +kernel
theorem d13_16 : DC B13 16 (.aload_n 0) 1 := by decide +kernel
theorem d13_17 : DC B13 17 (.getfield 45) 3 := by decide +kernel
theorem d13_20 : DC B13 20 (.aload_n 0) 1 := by decide +kernel
theorem d13_21 : DC B13 21 (.dup) 1 := by decide +kernel
theorem d13_22 : DC B13 22 (.getfield 128) 3 := by decide +kernel
theorem d13_25 : DC B13 25 (.dup_x1) 1 := by decide +kernel
theorem d13_26 : DC B13 26 (.iconst 1) 1 := by decide +kernel
theorem d13_27 : DC B13 27 (.iadd) 1 := by decide +kernel
theorem d13_28 : DC B13 28 (.putfield 128) 3 := by decide +kernel
theorem d13_31 : DC B13 31 (.iload_n 1) 1 := by decide +kernel
theorem d13_32 : DC B13 32 (.iastore) 1 := by decide +kernel
theorem d13_33 : DC B13 33 (.return_) 1 := by decide +kernel
def Q13 (Z : State) (o0 : Addr) (p1 : Int32) (tl : Int32) (cc : Int32) (lA : Addr) (hA : Addr) (sA : Addr) (cA : Addr) (chA : Addr) (icA : Addr) (bA : Addr) (tvA : Addr) (twA : Addr) (tsA : Addr) (tzA : Addr) (chF : Nat → Int32) (icF : Nat → Int32) (h0 : Heap) (n0 : Nat) (v : Option Value) (h : Heap) (L : List Loc) : Prop := ∃ chF' : Nat → Int32, ∃ icF' : Nat → Int32, ∃ cc' : Int32, ∃ r : Unit, v = none ∧ Fr n0 L ∧ Keep h0 h [icA, o0, chA] ∧ Exa Z h o0 Dn ∧ Fld Z h o0 Dn "trailLength" "I" (.int tl) ∧ Fld Z h o0 Dn "changedCount" "I" (.int cc') ∧ Obj Z h o0 lA hA sA cA chA icA bA tvA twA tsA tzA ∧ AV Z h chA .int 2 (fun k => .int (chF' k)) ∧ AV Z h icA .boolean 2 (fun k => .int (icF' k)) ∧ own_NC icF' cc'
theorem ef_13_aa (m : MethodId) (x0 : Addr) (x1 : Int32) : entryFrame m #[(.ref x0), (.int x1)] 2 = mkF m 0 #[.val (.ref x0), .val (.int x1)] [] := by first | (simp [entryFrame, mkF, argsToLocals, Value.category]; done) | rfl
theorem rm13 (l : Launch) (Z : State) (a0 : Array Value) (hw : HW a0 Z) (ws : List Jvm.Cond) (o0 : Addr) (p1 : Int32) (tl : Int32) (cc : Int32) (lA : Addr) (hA : Addr) (sA : Addr) (cA : Addr) (chA : Addr) (icA : Addr) (bA : Addr) (tvA : Addr) (twA : Addr) (tsA : Addr) (tzA : Addr) (chF : Nat → Int32) (icF : Nat → Int32) (h0 : Heap) (n0 : Nat) (Z0 : n0 ≤ h0.size) (ha0 : Exa Z h0 o0 Dn) (ha1 : Fld Z h0 o0 Dn "trailLength" "I" (.int tl)) (ha2 : Fld Z h0 o0 Dn "changedCount" "I" (.int cc)) (ha3 : Obj Z h0 o0 lA hA sA cA chA icA bA tvA twA tsA tzA) (ha4 : AV Z h0 chA .int 2 (fun k => .int (chF k))) (ha5 : AV Z h0 icA .boolean 2 (fun k => .int (icF k))) (ha6 : n0 ≤ o0) (ha7 : n0 ≤ chA) (ha8 : n0 ≤ icA) (hne_o0_chA : o0 ≠ chA) (hne_o0_icA : o0 ≠ icA) (hne_chA_icA : chA ≠ icA) (hx1 : p1 = 0 ∨ p1 = 1) (hNC : own_NC icF cc) :
    MetFree l y13 (head1 (Jvm.Cond.code y13 prog_22_method_19_code 2 none :: ws) RM_0_0_0_0) (fun a U => a = #[(.ref o0), (.int p1)] ∧ Z.Warmed39 U.vm ∧ U.heap = h0) (fun _ _ _ _ _ => True) (fun _ U o U' => ∃ v L, o = .returned v ∧ Q13 Z o0 p1 tl cc lA hA sA cA chA icA bA tvA twA tsA tzA chF icF h0 n0 v U'.heap L ∧ FrameEnd U o U' L RM_0_0_0_0.cells RM_0_0_0_0.slots) := by
  refine MetFree.of_bodySF (plainFor_of_name pn_2) hisR ?_
  intro p e s m args below meth c s₁ Bd hml0 hP hK
  obtain ⟨rfl, hZ, hh⟩ := hP
  have hx := Bd.exec
  have hby := Bd.bytes
  have hml : c.maxLocals = 2 := hml0
  have hown : s.vm.findClass Dn = some m.cls := findClass_of_methodNamed Bd.named
  have X0 : Stand p l e RM_0_0_0_0 s m _ below meth c s₁ [] 0 0 := Stand.of_body Bd
  have e0 : s₁.heap = h0 := by rw [← hh, Bd.state]; rfl
  have N0 := Fr.nil n0
  refine Go.into (P := fun oo uu => ∃ v L, oo = .returned v ∧ Q13 Z o0 p1 tl cc lA hA sA cA chA icA bA tvA twA tsA tzA chF icF h0 n0 v uu.heap L ∧ FrameEnd s oo uu L RM_0_0_0_0.cells RM_0_0_0_0.slots) (ef_13_aa m o0 p1) ?_
  show Go p e below _ (s₁.setTop (mkF m 0 #[sR o0, sI p1] []))
  have hxb := own_xb hx1
  refine Vi (s₁.setTop (mkF m 1 #[sR o0, sI p1] [(.ref o0)])) (fun tZ kZ => ?_) ?_
  · refine XS.aloadN X0.here hx rfl (hb hby d13_0) rfl rfl ?_
    exact kZ
  refine GF X0 hx hZ hown (wq hw 45 rfl) e0 (obj_isChanged ha3) (hb hby d13_1) fun T1 X1 e1 => ?_
  refine Vi (T1.setTop (mkF m 6 #[sR o0, sI p1] [(.int (icF p1.toNatClampNeg))])) (fun tZ kZ => ?_) ?_
  · refine XS.iloadN X1.here hx rfl (hb hby d13_4) rfl ?_
    refine AV.baload ha5 X1 hx hZ e1 (j := p1) hxb (hb hby d13_5) ?_
    exact kZ
  by_cases hc6 : (icF p1.toNatClampNeg) = (0 : Int32)
  · refine Vi (T1.setTop (mkF m 9 #[sR o0, sI p1] [])) (fun tZ kZ => ?_) ?_
    · show Steps p.tables e below (T1.setTop (mkF m 6 #[sR o0, sI p1] [(.int (icF p1.toNatClampNeg))])) _
      refine XS.ifNo X1.here hx rfl (hb hby d13_6) rfl ((if0 _ _).trans (teq hc6).2) ?_
      exact kZ
    refine Vi (T1.setTop (mkF m 10 #[sR o0, sI p1] [(.ref o0)])) (fun tZ kZ => ?_) ?_
    · refine XS.aloadN X1.here hx rfl (hb hby d13_9) rfl rfl ?_
      exact kZ
    refine GF X1 hx hZ hown (wq hw 45 rfl) e1 (obj_isChanged ha3) (hb hby d13_10) fun T2 X2 e2 => ?_
    refine Vi (T2.setTop (mkF m 15 #[sR o0, sI p1] [(.int 1), (.int p1), (.ref icA)])) (fun tZ kZ => ?_) ?_
    · refine XS.iloadN X2.here hx rfl (hb hby d13_13) rfl ?_
      refine XS.iconst X2.here hx rfl (hb hby d13_14) ?_
      exact kZ
    obtain ⟨T3, h3, X3, e3, W3, V3, st3⟩ := AV.bastoreZ ha5 X2 hx hZ e2 (j := p1) hxb (Ls := #[sR o0, sI p1]) (rest := []) (hb hby d13_15) (x := (1 : Int32))
    have N3 := Fr.snoc X3 N0 ha8
    have c4_0 := ha0.wr W3
    have c4_1 := ha1.other W3 (Or.inl hne_o0_icA)
    have c4_2 := ha2.other W3 (Or.inl hne_o0_icA)
    have c4_3 := obj_oth ha3 W3 hne_o0_icA
    have c4_4 := ha4.other W3 hne_chA_icA
    have K3 : Keep h0 h3 [icA, o0, chA] := (Keep.refl h0 [icA, o0, chA]).wr W3 (Or.inl (by simp))
    have Z3 := Nat.le_trans Z0 (Keep.of_wr W3).1
    refine Go.via st3 ?_
    refine Vi (T3.setTop (mkF m 17 #[sR o0, sI p1] [(.ref o0)])) (fun tZ kZ => ?_) ?_
    · refine XS.aloadN X3.here hx rfl (hb hby d13_16) rfl rfl ?_
      exact kZ
    refine GF X3 hx hZ hown (wq hw 42 rfl) e3 (obj_changed c4_3) (hb hby d13_17) fun T5 X5 e5 => ?_
    refine Vi (T5.setTop (mkF m 22 #[sR o0, sI p1] [(.ref o0), (.ref o0), (.ref chA)])) (fun tZ kZ => ?_) ?_
    · refine XS.aloadN X5.here hx rfl (hb hby d13_20) rfl rfl ?_
      refine XS.dup X5.here hx rfl (hb hby d13_21) rfl rfl ?_
      exact kZ
    refine GF X5 hx hZ hown (wq hw 64 rfl) e5 c4_2 (hb hby d13_22) fun T6 X6 e6 => ?_
    refine Vi (T6.setTop (mkF m 28 #[sR o0, sI p1] [(.int (cc + (1 : Int32))), (.ref o0), (.int cc), (.ref chA)])) (fun tZ kZ => ?_) ?_
    · refine XS.dupX1 X6.here hx rfl (hb hby d13_25) rfl rfl rfl ?_
      refine XS.iconst X6.here hx rfl (hb hby d13_26) ?_
      refine XS.iadd X6.here hx rfl (hb hby d13_27) rfl ?_
      exact kZ
    obtain ⟨T7, h7, X7, e7, W7, st7⟩ := putF X6 hx hZ hown (host := "") (Or.inl (wq hw 64 rfl)) Via.refl e6 c4_2 c4_0 (Or.inl (wq hw 65 rfl)) (wq hw 2 rfl) (ty := .int) (by decide) rfl rfl (g := (mkF m 28 #[sR o0, sI p1] [(.int (cc + (1 : Int32))), (.ref o0), (.int cc), (.ref chA)])) rfl rfl (hb hby d13_28)
    have N7 := Fr.snoc X7 N3 ha6
    have c8_0 := c4_0.wr W7
    have c8_1 := c4_1.other W7 (sn (Or.inl (wq hw 58 rfl)) (Or.inl (wq hw 65 rfl)))
    have c8_3 := obj_w_changedCount hw c4_3 W7
    have c8_4 := c4_4.other W7 (Ne.symm hne_o0_chA)
    have c8_5 := V3.other W7 (Ne.symm hne_o0_icA)
    have K7 : Keep h0 h7 [icA, o0, chA] := K3.wr W7 (Or.inl (by simp))
    have Z7 := Nat.le_trans Z3 (Keep.of_wr W7).1
    have Fw7 := c4_2.same W7
    refine Go.via st7 ?_
    refine Vi (T7.setTop (mkF m 32 #[sR o0, sI p1] [(.int p1), (.int cc), (.ref chA)])) (fun tZ kZ => ?_) ?_
    · refine XS.iloadN X7.here hx rfl (hb hby d13_31) rfl ?_
      exact kZ
    obtain ⟨T9, h9, X9, e9, W9, V9, st9⟩ := AV.iastore c8_4 X7 hx hZ e7 (j := cc) (hNC.lt hx1 hc6) (Ls := #[sR o0, sI p1]) (rest := []) (hb hby d13_32) (x := p1)
    have N9 := Fr.snoc X9 N7 ha7
    have c10_0 := c8_0.wr W9
    have c10_1 := c8_1.other W9 (Or.inl hne_o0_chA)
    have c10_2 := Fw7.other W9 (Or.inl hne_o0_chA)
    have c10_3 := obj_oth c8_3 W9 hne_o0_chA
    have c10_5 := c8_5.other W9 (Ne.symm hne_chA_icA)
    have K9 : Keep h0 h9 [icA, o0, chA] := K7.wr W9 (Or.inl (by simp))
    have Z9 := Nat.le_trans Z7 (Keep.of_wr W9).1
    refine Go.via st9 ?_
    refine Go.retV X9 hx Bd.notSynchronized Bd.returns (hb hby d13_33) (by decide) (by decide) ?_
    rw [e9]
    exact ⟨((up chF cc.toNatClampNeg p1)), ((up icF p1.toNatClampNeg (1 : Int32))), ((cc + (1 : Int32))), (), rfl, N9, K9, c10_0, c10_1, c10_2, c10_3, V9, c10_5, (hNC.up hx1 hc6)⟩
  · refine Vi (T1.setTop (mkF m 33 #[sR o0, sI p1] [])) (fun tZ kZ => ?_) ?_
    · show Steps p.tables e below (T1.setTop (mkF m 6 #[sR o0, sI p1] [(.int (icF p1.toNatClampNeg))])) _
      refine XS.ifYes X1.here hx rfl (pc0 := 6) (pc' := 33) rfl (hb hby d13_6) rfl ((if0 _ _).trans (feq hc6).2) (by decide) (by decide) ?_
      exact kZ
    refine Go.retV X1 hx Bd.notSynchronized Bd.returns (hb hby d13_33) (by decide) (by decide) ?_
    rw [e1]
    exact ⟨(chF), (icF), (cc), (), rfl, N0, (Keep.refl h0 [icA, o0, chA]), ha0, ha1, ha2, ha3, ha4, ha5, hNC⟩
theorem d27_0 : DC B27 0 (.aload_n 0) 1 := by decide +kernel
theorem d27_1 : DC B27 1 (.getfield 32) 3 := by decide +kernel
theorem d27_4 : DC B27 4 (.iload_n 1) 1 := by decide +kernel
theorem d27_5 : DC B27 5 (.aaload) 1 := by decide +kernel
theorem d27_6 : DC B27 6 (.iload_n 2) 1 := by decide +kernel
theorem d27_7 : DC B27 7 (.laload) 1 := by decide +kernel
theorem d27_8 : DC B27 8 (.lstore 5) 2 := by decide +kernel
theorem d27_10 : DC B27 10 (.iload_n 2) 1 := by decide +kernel
theorem d27_11 : DC B27 11 (.iload_n 3) 1 := by decide +kernel
theorem d27_12 : DC B27 12 (.bipush 6) 2 := by decide +kernel
theorem d27_14 : DC B27 14 (.iushr) 1 := by decide +kernel
theorem d27_15 : DC B27 15 (.if_icmp .ne 13) 3 := by decide +kernel
theorem d27_18 : DC B27 18 (.lload 5) 2 := by decide +kernel
theorem d27_20 : DC B27 20 (.ldc2_w 52) 3 := by decide +kernel
theorem d27_23 : DC B27 23 (.iload_n 3) 1 := by decide +kernel
theorem d27_24 : DC B27 24 (.lshl) 1 := by decide +kernel
theorem d27_25 : DC B27 25 (.land) 1 := by decide +kernel
theorem d27_26 : DC B27 26 (.lstore 5) 2 := by decide +kernel
theorem d27_28 : DC B27 28 (.iload_n 2) 1 := by decide +kernel
theorem d27_29 : DC B27 29 (.iload 4) 2 := by decide +kernel
theorem d27_31 : DC B27 31 (.bipush 6) 2 := by decide +kernel
theorem d27_33 : DC B27 33 (.iushr) 1 := by decide +kernel
theorem d27_34 : DC B27 34 (.if_icmp .ne 20) 3 := by decide +kernel
theorem d27_37 : DC B27 37 (.lload 5) 2 := by decide +kernel
theorem d27_39 : DC B27 39 (.ldc2_w 52) 3 := by decide +kernel
theorem d27_42 : DC B27 42 (.bipush 63) 2 := by decide +kernel
theorem d27_44 : DC B27 44 (.iload 4) 2 := by decide +kernel
theorem d27_46 : DC B27 46 (.bipush 63) 2 := by decide +kernel
theorem d27_48 : DC B27 48 (.iand) 1 := by decide +kernel
theorem d27_49 : DC B27 49 (.isub) 1 := by decide +kernel
theorem d27_50 : DC B27 50 (.lushr) 1 := by decide +kernel
theorem d27_51 : DC B27 51 (.land) 1 := by decide +kernel
theorem d27_52 : DC B27 52 (.lstore 5) 2 := by decide +kernel
theorem d27_54 : DC B27 54 (.lload 5) 2 := by decide +kernel
theorem d27_56 : DC B27 56 (.lreturn) 1 := by decide +kernel
def f27 (o0 : Addr) (p1 : Int32) (p2 : Int32) (p3 : Int32) (p4 : Int32) (bA : Addr) (bF : Nat → Value) (wA : Addr) (nW : Nat) (wF : Nat → Int64) : Int64 := (if p2 = ((p4.toUInt32 >>> ((6 : Int32) &&& 31).toUInt32).toInt32) then ((if p2 = ((p3.toUInt32 >>> ((6 : Int32) &&& 31).toUInt32).toInt32) then ((wF p2.toNatClampNeg) &&& ((-1 : Int64) <<< (p3 &&& 0x3f).toInt64)) else (wF p2.toNatClampNeg)) &&& (((-1 : Int64).toUInt64 >>> (((63 : Int32) - (p4 &&& (63 : Int32))) &&& 0x3f).toInt64.toUInt64).toInt64)) else (if p2 = ((p3.toUInt32 >>> ((6 : Int32) &&& 31).toUInt32).toInt32) then ((wF p2.toNatClampNeg) &&& ((-1 : Int64) <<< (p3 &&& 0x3f).toInt64)) else (wF p2.toNatClampNeg)))
def Q27 (o0 : Addr) (p1 : Int32) (p2 : Int32) (p3 : Int32) (p4 : Int32) (bA : Addr) (bF : Nat → Value) (wA : Addr) (nW : Nat) (wF : Nat → Int64) (h0 : Heap) (n0 : Nat) (v : Option Value) (h : Heap) (L : List Loc) : Prop := v = some (.long (f27 o0 p1 p2 p3 p4 bA bF wA nW wF)) ∧ Fr n0 L ∧ h = h0
theorem ef_27_aaaaa (m : MethodId) (x0 : Addr) (x1 : Int32) (x2 : Int32) (x3 : Int32) (x4 : Int32) : entryFrame m #[(.ref x0), (.int x1), (.int x2), (.int x3), (.int x4)] 7 = mkF m 0 #[.val (.ref x0), .val (.int x1), .val (.int x2), .val (.int x3), .val (.int x4), .unset, .unset] [] := by first | (simp [entryFrame, mkF, argsToLocals, Value.category]; done) | rfl
theorem rm27 (l : Launch) (Z : State) (a0 : Array Value) (hw : HW a0 Z) (ws : List Jvm.Cond) (o0 : Addr) (p1 : Int32) (p2 : Int32) (p3 : Int32) (p4 : Int32) (bA : Addr) (bF : Nat → Value) (wA : Addr) (nW : Nat) (wF : Nat → Int64) (h0 : Heap) (n0 : Nat) (Z0 : n0 ≤ h0.size) (ha0 : Exa Z h0 o0 Dn) (ha1 : Fld Z h0 o0 Dn "bits" "[[J" (.ref bA)) (ha2 : AV Z h0 bA (.array .long) 2 bF) (ha3 : AV Z h0 wA .long nW (fun k => .long (wF k))) (hxb : ¬ p1 < 0 ∧ p1.toNatClampNeg < 2) (hbx : bF p1.toNatClampNeg = Value.ref wA) (hmb : ¬ p2 < 0 ∧ p2.toNatClampNeg < nW) :
    MetFree l y27 (head1 (Jvm.Cond.code y27 prog_22_method_22_code 7 (some .long) :: ws) RM_0_0_0_0) (fun a U => a = #[(.ref o0), (.int p1), (.int p2), (.int p3), (.int p4)] ∧ Z.Warmed39 U.vm ∧ U.heap = h0) (fun _ _ _ _ _ => True) (fun _ U o U' => ∃ v L, o = .returned v ∧ Q27 o0 p1 p2 p3 p4 bA bF wA nW wF h0 n0 v U'.heap L ∧ FrameEnd U o U' L RM_0_0_0_0.cells RM_0_0_0_0.slots) := by
  refine MetFree.of_bodySF (plainFor_of_name pn_2) hisR ?_
  intro p e s m args below meth c s₁ Bd hml0 hP hK
  obtain ⟨rfl, hZ, hh⟩ := hP
  have hx := Bd.exec
  have hby := Bd.bytes
  have hml : c.maxLocals = 7 := hml0
  have hown : s.vm.findClass Dn = some m.cls := findClass_of_methodNamed Bd.named
  have X0 : Stand p l e RM_0_0_0_0 s m _ below meth c s₁ [] 0 0 := Stand.of_body Bd
  have e0 : s₁.heap = h0 := by rw [← hh, Bd.state]; rfl
  have N0 := Fr.nil n0
  refine Go.into (P := fun oo uu => ∃ v L, oo = .returned v ∧ Q27 o0 p1 p2 p3 p4 bA bF wA nW wF h0 n0 v uu.heap L ∧ FrameEnd s oo uu L RM_0_0_0_0.cells RM_0_0_0_0.slots) (ef_27_aaaaa m o0 p1 p2 p3 p4) ?_
  show Go p e below _ (s₁.setTop (mkF m 0 #[sR o0, sI p1, sI p2, sI p3, sI p4, .unset, .unset] []))
  refine Vi (s₁.setTop (mkF m 1 #[sR o0, sI p1, sI p2, sI p3, sI p4, .unset, .unset] [(.ref o0)])) (fun tZ kZ => ?_) ?_
  · refine XS.aloadN X0.here hx rfl (hb hby d27_0) rfl rfl ?_
    exact kZ
  refine GF X0 hx hZ hown (wq hw 33 rfl) e0 ha1 (hb hby d27_1) fun T1 X1 e1 => ?_
  refine Vi (T1.setTop (mkF m 56 #[sR o0, sI p1, sI p2, sI p3, sI p4, .val (.long (if p2 = ((p4.toUInt32 >>> ((6 : Int32) &&& 31).toUInt32).toInt32) then ((if p2 = ((p3.toUInt32 >>> ((6 : Int32) &&& 31).toUInt32).toInt32) then ((wF p2.toNatClampNeg) &&& ((-1 : Int64) <<< (p3 &&& 0x3f).toInt64)) else (wF p2.toNatClampNeg)) &&& (((-1 : Int64).toUInt64 >>> (((63 : Int32) - (p4 &&& (63 : Int32))) &&& 0x3f).toInt64.toUInt64).toInt64)) else (if p2 = ((p3.toUInt32 >>> ((6 : Int32) &&& 31).toUInt32).toInt32) then ((wF p2.toNatClampNeg) &&& ((-1 : Int64) <<< (p3 &&& 0x3f).toInt64)) else (wF p2.toNatClampNeg)))), .second] [(.long (if p2 = ((p4.toUInt32 >>> ((6 : Int32) &&& 31).toUInt32).toInt32) then ((if p2 = ((p3.toUInt32 >>> ((6 : Int32) &&& 31).toUInt32).toInt32) then ((wF p2.toNatClampNeg) &&& ((-1 : Int64) <<< (p3 &&& 0x3f).toInt64)) else (wF p2.toNatClampNeg)) &&& (((-1 : Int64).toUInt64 >>> (((63 : Int32) - (p4 &&& (63 : Int32))) &&& 0x3f).toInt64.toUInt64).toInt64)) else (if p2 = ((p3.toUInt32 >>> ((6 : Int32) &&& 31).toUInt32).toInt32) then ((wF p2.toNatClampNeg) &&& ((-1 : Int64) <<< (p3 &&& 0x3f).toInt64)) else (wF p2.toNatClampNeg))))])) (fun tZ kZ => ?_) ?_
  · refine XS.iloadN X1.here hx rfl (hb hby d27_4) rfl ?_
    refine AV.aaload ha2 rfl X1 hx hZ e1 (j := p1) hxb (hb hby d27_5) ?_
    rw [hbx]
    refine XS.iloadN X1.here hx rfl (hb hby d27_6) rfl ?_
    refine AV.laload ha3 X1 hx hZ e1 (j := p2) hmb (hb hby d27_7) ?_
    refine XS.lstore X1.here hx rfl (hb hby d27_8) rfl (l' := #[sR o0, sI p1, sI p2, sI p3, sI p4, .val (.long (wF p2.toNatClampNeg)), .second]) rfl ?_
    refine XS.iloadN X1.here hx rfl (hb hby d27_10) rfl ?_
    refine XS.iloadN X1.here hx rfl (hb hby d27_11) rfl ?_
    refine XS.bipush X1.here hx rfl (hb hby d27_12) ?_
    refine XS.iushr X1.here hx rfl (hb hby d27_14) rfl ?_
    have sg15 : Steps p.tables e below (T1.setTop (mkF m 28 #[sR o0, sI p1, sI p2, sI p3, sI p4, .val (.long (if p2 = ((p3.toUInt32 >>> ((6 : Int32) &&& 31).toUInt32).toInt32) then ((wF p2.toNatClampNeg) &&& ((-1 : Int64) <<< (p3 &&& 0x3f).toInt64)) else (wF p2.toNatClampNeg))), .second] [])) tZ → Steps p.tables e below (T1.setTop (mkF m 15 #[sR o0, sI p1, sI p2, sI p3, sI p4, .val (.long (wF p2.toNatClampNeg)), .second] [(.int ((p3.toUInt32 >>> ((6 : Int32) &&& 31).toUInt32).toInt32)), (.int p2)])) tZ := by
      intro kj
      by_cases hc15 : p2 = ((p3.toUInt32 >>> ((6 : Int32) &&& 31).toUInt32).toInt32)
      · try simp only [if_pos hc15] at kj
        refine XS.icmpNo X1.here hx rfl (hb hby d27_15) rfl (teq hc15).2 ?_
        refine XS.lload X1.here hx rfl (hb hby d27_18) rfl ?_
        refine X1.ldc2Long hx hown (wz hZ hw 52 rfl) (g := (mkF m 20 #[sR o0, sI p1, sI p2, sI p3, sI p4, .val (.long (wF p2.toNatClampNeg)), .second] [(.long (wF p2.toNatClampNeg))])) rfl (hb hby d27_20) _ ?_
        refine XS.iloadN X1.here hx rfl (hb hby d27_23) rfl ?_
        refine XS.lshl X1.here hx rfl (hb hby d27_24) rfl ?_
        refine XS.land X1.here hx rfl (hb hby d27_25) rfl ?_
        refine XS.lstore X1.here hx rfl (hb hby d27_26) rfl (l' := #[sR o0, sI p1, sI p2, sI p3, sI p4, .val (.long ((wF p2.toNatClampNeg) &&& ((-1 : Int64) <<< (p3 &&& 0x3f).toInt64))), .second]) rfl ?_
        exact kj
      · try simp only [if_neg hc15] at kj
        refine XS.icmpYes X1.here hx rfl (pc0 := 15) (pc' := 28) rfl (hb hby d27_15) rfl (feq hc15).2 (by decide) (by decide) ?_
        exact kj
    refine sg15 ?_
    show Steps p.tables e below (T1.setTop (mkF m 28 #[sR o0, sI p1, sI p2, sI p3, sI p4, .val (.long (if p2 = ((p3.toUInt32 >>> ((6 : Int32) &&& 31).toUInt32).toInt32) then ((wF p2.toNatClampNeg) &&& ((-1 : Int64) <<< (p3 &&& 0x3f).toInt64)) else (wF p2.toNatClampNeg))), .second] [])) _
    refine XS.iloadN X1.here hx rfl (hb hby d27_28) rfl ?_
    refine XS.iload X1.here hx rfl (hb hby d27_29) rfl ?_
    refine XS.bipush X1.here hx rfl (hb hby d27_31) ?_
    refine XS.iushr X1.here hx rfl (hb hby d27_33) rfl ?_
    have sg34 : Steps p.tables e below (T1.setTop (mkF m 54 #[sR o0, sI p1, sI p2, sI p3, sI p4, .val (.long (if p2 = ((p4.toUInt32 >>> ((6 : Int32) &&& 31).toUInt32).toInt32) then ((if p2 = ((p3.toUInt32 >>> ((6 : Int32) &&& 31).toUInt32).toInt32) then ((wF p2.toNatClampNeg) &&& ((-1 : Int64) <<< (p3 &&& 0x3f).toInt64)) else (wF p2.toNatClampNeg)) &&& (((-1 : Int64).toUInt64 >>> (((63 : Int32) - (p4 &&& (63 : Int32))) &&& 0x3f).toInt64.toUInt64).toInt64)) else (if p2 = ((p3.toUInt32 >>> ((6 : Int32) &&& 31).toUInt32).toInt32) then ((wF p2.toNatClampNeg) &&& ((-1 : Int64) <<< (p3 &&& 0x3f).toInt64)) else (wF p2.toNatClampNeg)))), .second] [])) tZ → Steps p.tables e below (T1.setTop (mkF m 34 #[sR o0, sI p1, sI p2, sI p3, sI p4, .val (.long (if p2 = ((p3.toUInt32 >>> ((6 : Int32) &&& 31).toUInt32).toInt32) then ((wF p2.toNatClampNeg) &&& ((-1 : Int64) <<< (p3 &&& 0x3f).toInt64)) else (wF p2.toNatClampNeg))), .second] [(.int ((p4.toUInt32 >>> ((6 : Int32) &&& 31).toUInt32).toInt32)), (.int p2)])) tZ := by
      intro kj
      by_cases hc34 : p2 = ((p4.toUInt32 >>> ((6 : Int32) &&& 31).toUInt32).toInt32)
      · try simp only [if_pos hc34] at kj
        refine XS.icmpNo X1.here hx rfl (hb hby d27_34) rfl (teq hc34).2 ?_
        refine XS.lload X1.here hx rfl (hb hby d27_37) rfl ?_
        refine X1.ldc2Long hx hown (wz hZ hw 52 rfl) (g := (mkF m 39 #[sR o0, sI p1, sI p2, sI p3, sI p4, .val (.long (if p2 = ((p3.toUInt32 >>> ((6 : Int32) &&& 31).toUInt32).toInt32) then ((wF p2.toNatClampNeg) &&& ((-1 : Int64) <<< (p3 &&& 0x3f).toInt64)) else (wF p2.toNatClampNeg))), .second] [(.long (if p2 = ((p3.toUInt32 >>> ((6 : Int32) &&& 31).toUInt32).toInt32) then ((wF p2.toNatClampNeg) &&& ((-1 : Int64) <<< (p3 &&& 0x3f).toInt64)) else (wF p2.toNatClampNeg)))])) rfl (hb hby d27_39) _ ?_
        refine XS.bipush X1.here hx rfl (hb hby d27_42) ?_
        refine XS.iload X1.here hx rfl (hb hby d27_44) rfl ?_
        refine XS.bipush X1.here hx rfl (hb hby d27_46) ?_
        refine XS.iand X1.here hx rfl (hb hby d27_48) rfl ?_
        refine XS.isub X1.here hx rfl (hb hby d27_49) rfl ?_
        refine XS.lushr X1.here hx rfl (hb hby d27_50) rfl ?_
        refine XS.land X1.here hx rfl (hb hby d27_51) rfl ?_
        refine XS.lstore X1.here hx rfl (hb hby d27_52) rfl (l' := #[sR o0, sI p1, sI p2, sI p3, sI p4, .val (.long ((if p2 = ((p3.toUInt32 >>> ((6 : Int32) &&& 31).toUInt32).toInt32) then ((wF p2.toNatClampNeg) &&& ((-1 : Int64) <<< (p3 &&& 0x3f).toInt64)) else (wF p2.toNatClampNeg)) &&& (((-1 : Int64).toUInt64 >>> (((63 : Int32) - (p4 &&& (63 : Int32))) &&& 0x3f).toInt64.toUInt64).toInt64))), .second]) rfl ?_
        exact kj
      · try simp only [if_neg hc34] at kj
        refine XS.icmpYes X1.here hx rfl (pc0 := 34) (pc' := 54) rfl (hb hby d27_34) rfl (feq hc34).2 (by decide) (by decide) ?_
        exact kj
    refine sg34 ?_
    show Steps p.tables e below (T1.setTop (mkF m 54 #[sR o0, sI p1, sI p2, sI p3, sI p4, .val (.long (if p2 = ((p4.toUInt32 >>> ((6 : Int32) &&& 31).toUInt32).toInt32) then ((if p2 = ((p3.toUInt32 >>> ((6 : Int32) &&& 31).toUInt32).toInt32) then ((wF p2.toNatClampNeg) &&& ((-1 : Int64) <<< (p3 &&& 0x3f).toInt64)) else (wF p2.toNatClampNeg)) &&& (((-1 : Int64).toUInt64 >>> (((63 : Int32) - (p4 &&& (63 : Int32))) &&& 0x3f).toInt64.toUInt64).toInt64)) else (if p2 = ((p3.toUInt32 >>> ((6 : Int32) &&& 31).toUInt32).toInt32) then ((wF p2.toNatClampNeg) &&& ((-1 : Int64) <<< (p3 &&& 0x3f).toInt64)) else (wF p2.toNatClampNeg)))), .second] [])) _
    refine XS.lload X1.here hx rfl (hb hby d27_54) rfl ?_
    exact kZ
  refine Go.retJ X1 hx Bd.notSynchronized Bd.returns (hb hby d27_56) (by decide) (by decide) ?_
  refine ⟨?_, N0, e1⟩
  show some ((.long (if p2 = ((p4.toUInt32 >>> ((6 : Int32) &&& 31).toUInt32).toInt32) then ((if p2 = ((p3.toUInt32 >>> ((6 : Int32) &&& 31).toUInt32).toInt32) then ((wF p2.toNatClampNeg) &&& ((-1 : Int64) <<< (p3 &&& 0x3f).toInt64)) else (wF p2.toNatClampNeg)) &&& (((-1 : Int64).toUInt64 >>> (((63 : Int32) - (p4 &&& (63 : Int32))) &&& 0x3f).toInt64.toUInt64).toInt64)) else (if p2 = ((p3.toUInt32 >>> ((6 : Int32) &&& 31).toUInt32).toInt32) then ((wF p2.toNatClampNeg) &&& ((-1 : Int64) <<< (p3 &&& 0x3f).toInt64)) else (wF p2.toNatClampNeg)))) : Value) = some (.long (f27 o0 p1 p2 p3 p4 bA bF wA nW wF))
  rfl
theorem d28_0 : DC B28 0 (.lload_n 0) 1 := by decide +kernel
theorem d28_1 : DC B28 1 (.lload_n 0) 1 := by decide +kernel
theorem d28_2 : DC B28 2 (.iconst 1) 1 := by decide +kernel
theorem d28_3 : DC B28 3 (.lushr) 1 := by decide +kernel
theorem d28_4 : DC B28 4 (.ldc2_w 314) 3 := by decide +kernel
theorem d28_7 : DC B28 7 (.land) 1 := by decide +kernel
theorem d28_8 : DC B28 8 (.lsub) 1 := by decide +kernel
def w28_0 (q0 : Int64) : Int64 := (q0 - (((q0.toUInt64 >>> ((1 : Int32) &&& 0x3f).toInt64.toUInt64).toInt64) &&& (6148914691236517205 : Int64)))
theorem d28_9 : DC B28 9 (.lstore_n 0) 1 := by decide +kernel
theorem d28_10 : DC B28 10 (.lload_n 0) 1 := by decide +kernel
theorem d28_11 : DC B28 11 (.ldc2_w 316) 3 := by decide +kernel
theorem d28_14 : DC B28 14 (.land) 1 := by decide +kernel
theorem d28_15 : DC B28 15 (.lload_n 0) 1 := by decide +kernel
theorem d28_16 : DC B28 16 (.iconst 2) 1 := by decide +kernel
theorem d28_17 : DC B28 17 (.lushr) 1 := by decide +kernel
theorem d28_18 : DC B28 18 (.ldc2_w 316) 3 := by decide +kernel
theorem d28_21 : DC B28 21 (.land) 1 := by decide +kernel
theorem d28_22 : DC B28 22 (.ladd) 1 := by decide +kernel
def w28_1 (q0 : Int64) : Int64 := (((w28_0 q0) &&& (3689348814741910323 : Int64)) + ((((w28_0 q0).toUInt64 >>> ((2 : Int32) &&& 0x3f).toInt64.toUInt64).toInt64) &&& (3689348814741910323 : Int64)))
theorem d28_23 : DC B28 23 (.lstore_n 0) 1 := by decide +kernel
theorem d28_24 : DC B28 24 (.lload_n 0) 1 := by decide +kernel
theorem d28_25 : DC B28 25 (.lload_n 0) 1 := by decide +kernel
theorem d28_26 : DC B28 26 (.iconst 4) 1 := by decide +kernel
theorem d28_27 : DC B28 27 (.lushr) 1 := by decide +kernel
theorem d28_28 : DC B28 28 (.ladd) 1 := by decide +kernel
theorem d28_29 : DC B28 29 (.ldc2_w 318) 3 := by decide +kernel
theorem d28_32 : DC B28 32 (.land) 1 := by decide +kernel
def w28_2 (q0 : Int64) : Int64 := (((w28_1 q0) + (((w28_1 q0).toUInt64 >>> ((4 : Int32) &&& 0x3f).toInt64.toUInt64).toInt64)) &&& (1085102592571150095 : Int64))
theorem d28_33 : DC B28 33 (.lstore_n 0) 1 := by decide +kernel
theorem d28_34 : DC B28 34 (.lload_n 0) 1 := by decide +kernel
theorem d28_35 : DC B28 35 (.lload_n 0) 1 := by decide +kernel
theorem d28_36 : DC B28 36 (.bipush 8) 2 := by decide +kernel
theorem d28_38 : DC B28 38 (.lushr) 1 := by decide +kernel
theorem d28_39 : DC B28 39 (.ladd) 1 := by decide +kernel
def w28_3 (q0 : Int64) : Int64 := ((w28_2 q0) + (((w28_2 q0).toUInt64 >>> ((8 : Int32) &&& 0x3f).toInt64.toUInt64).toInt64))
theorem d28_40 : DC B28 40 (.lstore_n 0) 1 := by decide +kernel
theorem d28_41 : DC B28 41 (.lload_n 0) 1 := by decide +kernel
theorem d28_42 : DC B28 42 (.lload_n 0) 1 := by decide +kernel
theorem d28_43 : DC B28 43 (.bipush 16) 2 := by decide +kernel
theorem d28_45 : DC B28 45 (.lushr) 1 := by decide +kernel
theorem d28_46 : DC B28 46 (.ladd) 1 := by decide +kernel
def w28_4 (q0 : Int64) : Int64 := ((w28_3 q0) + (((w28_3 q0).toUInt64 >>> ((16 : Int32) &&& 0x3f).toInt64.toUInt64).toInt64))
theorem d28_47 : DC B28 47 (.lstore_n 0) 1 := by decide +kernel
theorem d28_48 : DC B28 48 (.lload_n 0) 1 := by decide +kernel
theorem d28_49 : DC B28 49 (.lload_n 0) 1 := by decide +kernel
theorem d28_50 : DC B28 50 (.bipush 32) 2 := by decide +kernel
theorem d28_52 : DC B28 52 (.lushr) 1 := by decide +kernel
theorem d28_53 : DC B28 53 (.ladd) 1 := by decide +kernel
def w28_5 (q0 : Int64) : Int64 := ((w28_4 q0) + (((w28_4 q0).toUInt64 >>> ((32 : Int32) &&& 0x3f).toInt64.toUInt64).toInt64))
theorem d28_54 : DC B28 54 (.lstore_n 0) 1 := by decide +kernel
theorem d28_55 : DC B28 55 (.lload_n 0) 1 := by decide +kernel
theorem d28_56 : DC B28 56 (.l2i) 1 := by decide +kernel
theorem d28_57 : DC B28 57 (.bipush 127) 2 := by decide +kernel
theorem d28_59 : DC B28 59 (.iand) 1 := by decide +kernel
theorem d28_60 : DC B28 60 (.ireturn) 1 := by decide +kernel
def f28 (q0 : Int64) : Int32 := (((w28_5 q0).toInt32) &&& (127 : Int32))
def Q28 (q0 : Int64) (h0 : Heap) (n0 : Nat) (v : Option Value) (h : Heap) (L : List Loc) : Prop := v = some (.int (f28 q0)) ∧ Fr n0 L ∧ h = h0
theorem ef_28_a (m : MethodId) (x0 : Int64) : entryFrame m #[(.long x0)] 2 = mkF m 0 #[.val (.long x0), .second] [] := by first | (simp [entryFrame, mkF, argsToLocals, Value.category]; done) | rfl
theorem rm28 (l : Launch) (Z : State) (a0 : Array Value) (hw : HW a0 Z) (ws : List Jvm.Cond) (q0 : Int64) (h0 : Heap) (n0 : Nat) (Z0 : n0 ≤ h0.size) :
    MetFree l y28 (head1 (Jvm.Cond.code y28 jdk_35_method_50_code 2 (some .int) :: ws) RM_0_0_0_0) (fun a U => a = #[(.long q0)] ∧ Z.Warmed39 U.vm ∧ U.heap = h0) (fun _ _ _ _ _ => True) (fun _ U o U' => ∃ v L, o = .returned v ∧ Q28 q0 h0 n0 v U'.heap L ∧ FrameEnd U o U' L RM_0_0_0_0.cells RM_0_0_0_0.slots) := by
  refine MetFree.of_bodySF (plainFor_of_name pn_1) hisR ?_
  intro p e s m args below meth c s₁ Bd hml0 hP hK
  obtain ⟨rfl, hZ, hh⟩ := hP
  have hx := Bd.exec
  have hby := Bd.bytes
  have hml : c.maxLocals = 2 := hml0
  have hown : s.vm.findClass "java/lang/Long" = some m.cls := findClass_of_methodNamed Bd.named
  have X0 : Stand p l e RM_0_0_0_0 s m _ below meth c s₁ [] 0 0 := Stand.of_body Bd
  have e0 : s₁.heap = h0 := by rw [← hh, Bd.state]; rfl
  have N0 := Fr.nil n0
  refine Go.into (P := fun oo uu => ∃ v L, oo = .returned v ∧ Q28 q0 h0 n0 v uu.heap L ∧ FrameEnd s oo uu L RM_0_0_0_0.cells RM_0_0_0_0.slots) (ef_28_a m q0) ?_
  show Go p e below _ (s₁.setTop (mkF m 0 #[.val (.long q0), .second] []))
  refine Vi (s₁.setTop (mkF m 60 #[.val (.long (w28_5 q0)), .second] [(.int (((w28_5 q0).toInt32) &&& (127 : Int32)))])) (fun tZ kZ => ?_) ?_
  · refine XS.lloadN X0.here hx rfl (hb hby d28_0) rfl ?_
    refine XS.lloadN X0.here hx rfl (hb hby d28_1) rfl ?_
    refine XS.iconst X0.here hx rfl (hb hby d28_2) ?_
    refine XS.lushr X0.here hx rfl (hb hby d28_3) rfl ?_
    refine X0.ldc2Long hx hown (wz hZ hw 169 rfl) (g := (mkF m 4 #[.val (.long q0), .second] [(.long ((q0.toUInt64 >>> ((1 : Int32) &&& 0x3f).toInt64.toUInt64).toInt64)), (.long q0)])) rfl (hb hby d28_4) _ ?_
    refine XS.land X0.here hx rfl (hb hby d28_7) rfl ?_
    refine XS.lsub X0.here hx rfl (hb hby d28_8) rfl ?_
    refine XS.lstoreN X0.here hx rfl (hb hby d28_9) rfl (l' := #[.val (.long (w28_0 q0)), .second]) rfl ?_
    refine XS.lloadN X0.here hx rfl (hb hby d28_10) rfl ?_
    refine X0.ldc2Long hx hown (wz hZ hw 170 rfl) (g := (mkF m 11 #[.val (.long (w28_0 q0)), .second] [(.long (w28_0 q0))])) rfl (hb hby d28_11) _ ?_
    refine XS.land X0.here hx rfl (hb hby d28_14) rfl ?_
    refine XS.lloadN X0.here hx rfl (hb hby d28_15) rfl ?_
    refine XS.iconst X0.here hx rfl (hb hby d28_16) ?_
    refine XS.lushr X0.here hx rfl (hb hby d28_17) rfl ?_
    refine X0.ldc2Long hx hown (wz hZ hw 170 rfl) (g := (mkF m 18 #[.val (.long (w28_0 q0)), .second] [(.long (((w28_0 q0).toUInt64 >>> ((2 : Int32) &&& 0x3f).toInt64.toUInt64).toInt64)), (.long ((w28_0 q0) &&& (3689348814741910323 : Int64)))])) rfl (hb hby d28_18) _ ?_
    refine XS.land X0.here hx rfl (hb hby d28_21) rfl ?_
    refine XS.ladd X0.here hx rfl (hb hby d28_22) rfl ?_
    refine XS.lstoreN X0.here hx rfl (hb hby d28_23) rfl (l' := #[.val (.long (w28_1 q0)), .second]) rfl ?_
    refine XS.lloadN X0.here hx rfl (hb hby d28_24) rfl ?_
    refine XS.lloadN X0.here hx rfl (hb hby d28_25) rfl ?_
    refine XS.iconst X0.here hx rfl (hb hby d28_26) ?_
    refine XS.lushr X0.here hx rfl (hb hby d28_27) rfl ?_
    refine XS.ladd X0.here hx rfl (hb hby d28_28) rfl ?_
    refine X0.ldc2Long hx hown (wz hZ hw 171 rfl) (g := (mkF m 29 #[.val (.long (w28_1 q0)), .second] [(.long ((w28_1 q0) + (((w28_1 q0).toUInt64 >>> ((4 : Int32) &&& 0x3f).toInt64.toUInt64).toInt64)))])) rfl (hb hby d28_29) _ ?_
    refine XS.land X0.here hx rfl (hb hby d28_32) rfl ?_
    refine XS.lstoreN X0.here hx rfl (hb hby d28_33) rfl (l' := #[.val (.long (w28_2 q0)), .second]) rfl ?_
    refine XS.lloadN X0.here hx rfl (hb hby d28_34) rfl ?_
    refine XS.lloadN X0.here hx rfl (hb hby d28_35) rfl ?_
    refine XS.bipush X0.here hx rfl (hb hby d28_36) ?_
    refine XS.lushr X0.here hx rfl (hb hby d28_38) rfl ?_
    refine XS.ladd X0.here hx rfl (hb hby d28_39) rfl ?_
    refine XS.lstoreN X0.here hx rfl (hb hby d28_40) rfl (l' := #[.val (.long (w28_3 q0)), .second]) rfl ?_
    refine XS.lloadN X0.here hx rfl (hb hby d28_41) rfl ?_
    refine XS.lloadN X0.here hx rfl (hb hby d28_42) rfl ?_
    refine XS.bipush X0.here hx rfl (hb hby d28_43) ?_
    refine XS.lushr X0.here hx rfl (hb hby d28_45) rfl ?_
    refine XS.ladd X0.here hx rfl (hb hby d28_46) rfl ?_
    refine XS.lstoreN X0.here hx rfl (hb hby d28_47) rfl (l' := #[.val (.long (w28_4 q0)), .second]) rfl ?_
    refine XS.lloadN X0.here hx rfl (hb hby d28_48) rfl ?_
    refine XS.lloadN X0.here hx rfl (hb hby d28_49) rfl ?_
    refine XS.bipush X0.here hx rfl (hb hby d28_50) ?_
    refine XS.lushr X0.here hx rfl (hb hby d28_52) rfl ?_
    refine XS.ladd X0.here hx rfl (hb hby d28_53) rfl ?_
    refine XS.lstoreN X0.here hx rfl (hb hby d28_54) rfl (l' := #[.val (.long (w28_5 q0)), .second]) rfl ?_
    refine XS.lloadN X0.here hx rfl (hb hby d28_55) rfl ?_
    refine XS.l2i X0.here hx rfl (hb hby d28_56) rfl ?_
    refine XS.bipush X0.here hx rfl (hb hby d28_57) ?_
    refine XS.iand X0.here hx rfl (hb hby d28_59) rfl ?_
    exact kZ
  refine Go.retI X0 hx Bd.notSynchronized Bd.returns (hb hby d28_60) (by decide) (by decide) ?_
  refine ⟨?_, N0, e0⟩
  show some ((.int (((w28_5 q0).toInt32) &&& (127 : Int32))) : Value) = some (.int (f28 q0))
  rfl
theorem d26_0 : DC B26 0 (.iload_n 2) 1 := by decide +kernel
theorem d26_1 : DC B26 1 (.iload_n 3) 1 := by decide +kernel
theorem d26_2 : DC B26 2 (.if_icmp .le 5) 3 := by decide +kernel
theorem d26_5 : DC B26 5 (.iconst 0) 1 := by decide +kernel
theorem d26_6 : DC B26 6 (.ireturn) 1 := by decide +kernel
theorem d26_7 : DC B26 7 (.iconst 0) 1 := by decide +kernel
theorem d26_8 : DC B26 8 (.istore 4) 2 := by decide +kernel
theorem d26_10 : DC B26 10 (.iload_n 2) 1 := by decide +kernel
theorem d26_11 : DC B26 11 (.bipush 6) 2 := by decide +kernel
theorem d26_13 : DC B26 13 (.iushr) 1 := by decide +kernel
theorem d26_14 : DC B26 14 (.istore 5) 2 := by decide +kernel
theorem d26_16 : DC B26 16 (.iload 5) 2 := by decide +kernel
theorem d26_18 : DC B26 18 (.iload_n 3) 1 := by decide +kernel
theorem d26_19 : DC B26 19 (.bipush 6) 2 := by decide +kernel
theorem d26_21 : DC B26 21 (.iushr) 1 := by decide +kernel
theorem d26_22 : DC B26 22 (.if_icmp .gt 26) 3 := by decide +kernel
theorem d26_25 : DC B26 25 (.iload 4) 2 := by decide +kernel
theorem d26_27 : DC B26 27 (.aload_n 0) 1 := by decide +kernel
theorem d26_28 : DC B26 28 (.iload_n 1) 1 := by decide +kernel
theorem d26_29 : DC B26 29 (.iload 5) 2 := by decide +kernel
theorem d26_31 : DC B26 31 (.iload_n 2) 1 := by decide +kernel
theorem d26_32 : DC B26 32 (.iload_n 3) 1 := by decide +kernel
theorem pd_14 : parseMethodDescriptor "(IIII)J" = some ⟨[.int, .int, .int, .int], some .long⟩ := by decide +kernel
theorem d26_33 : DC B26 33 (.invokevirtual 89) 3 := by decide +kernel
theorem d26_36 : DC B26 36 (.invokestatic 134) 3 := by decide +kernel
theorem d26_39 : DC B26 39 (.iadd) 1 := by decide +kernel
theorem d26_40 : DC B26 40 (.istore 4) 2 := by decide +kernel
theorem d26_42 : DC B26 42 (.iinc 5 1) 3 := by decide +kernel
theorem d26_45 : DC B26 45 (.goto (-29)) 3 := by decide +kernel
theorem d26_48 : DC B26 48 (.iload 4) 2 := by decide +kernel
theorem d26_50 : DC B26 50 (.ireturn) 1 := by decide +kernel
def f26 (o0 : Addr) (p1 : Int32) (p2 : Int32) (p3 : Int32) (bA : Addr) (bF : Nat → Value) (wA : Addr) (nW : Nat) (wF : Nat → Int64) : Int32 := (if p3 < p2 then (0 : Int32) else (if ((p3.toUInt32 >>> ((6 : Int32) &&& 31).toUInt32).toInt32) < (((p2.toUInt32 >>> ((6 : Int32) &&& 31).toUInt32).toInt32) + (1 : Int32)) then ((0 : Int32) + (f28 (f27 o0 p1 ((p2.toUInt32 >>> ((6 : Int32) &&& 31).toUInt32).toInt32) p2 p3 bA bF wA nW wF))) else (((0 : Int32) + (f28 (f27 o0 p1 ((p2.toUInt32 >>> ((6 : Int32) &&& 31).toUInt32).toInt32) p2 p3 bA bF wA nW wF))) + (f28 (f27 o0 p1 (((p2.toUInt32 >>> ((6 : Int32) &&& 31).toUInt32).toInt32) + (1 : Int32)) p2 p3 bA bF wA nW wF)))))
def Q26 (o0 : Addr) (p1 : Int32) (p2 : Int32) (p3 : Int32) (bA : Addr) (bF : Nat → Value) (wA : Addr) (nW : Nat) (wF : Nat → Int64) (h0 : Heap) (n0 : Nat) (v : Option Value) (h : Heap) (L : List Loc) : Prop := v = some (.int (f26 o0 p1 p2 p3 bA bF wA nW wF)) ∧ Fr n0 L ∧ h = h0
abbrev RM_1_0_0_19 : Room := { frames := 1, cells := 0, slots := 0, locals := 19 }
theorem ef_26_aaaa (m : MethodId) (x0 : Addr) (x1 : Int32) (x2 : Int32) (x3 : Int32) : entryFrame m #[(.ref x0), (.int x1), (.int x2), (.int x3)] 6 = mkF m 0 #[.val (.ref x0), .val (.int x1), .val (.int x2), .val (.int x3), .unset, .unset] [] := by first | (simp [entryFrame, mkF, argsToLocals, Value.category]; done) | rfl
theorem rm26 (l : Launch) (Z : State) (a0 : Array Value) (hw : HW a0 Z) (ws : List Jvm.Cond) (o0 : Addr) (p1 : Int32) (p2 : Int32) (p3 : Int32) (bA : Addr) (bF : Nat → Value) (wA : Addr) (nW : Nat) (wF : Nat → Int64) (h0 : Heap) (n0 : Nat) (Z0 : n0 ≤ h0.size) (ha0 : Exa Z h0 o0 Dn) (ha1 : Fld Z h0 o0 Dn "bits" "[[J" (.ref bA)) (ha2 : AV Z h0 bA (.array .long) 2 bF) (ha3 : AV Z h0 wA .long nW (fun k => .long (wF k))) (hxb : ¬ p1 < 0 ∧ p1.toNatClampNeg < 2) (hbx : bF p1.toNatClampNeg = Value.ref wA) (hrg : own_rg2 p2 p3 nW) :
    MetFree l y26 (head1 (Jvm.Cond.code y26 prog_22_method_21_code 6 (some .int) :: ws) RM_1_0_0_19) (fun a U => a = #[(.ref o0), (.int p1), (.int p2), (.int p3)] ∧ Z.Warmed39 U.vm ∧ U.heap = h0) (fun _ _ _ _ _ => True) (fun _ U o U' => ∃ v L, o = .returned v ∧ Q26 o0 p1 p2 p3 bA bF wA nW wF h0 n0 v U'.heap L ∧ FrameEnd U o U' L RM_1_0_0_19.cells RM_1_0_0_19.slots) := by
  refine MetFree.of_bodySF (plainFor_of_name pn_2) hisR ?_
  intro p e s m args below meth c s₁ Bd hml0 hP hK
  obtain ⟨rfl, hZ, hh⟩ := hP
  have hx := Bd.exec
  have hby := Bd.bytes
  have hml : c.maxLocals = 6 := hml0
  have hown : s.vm.findClass Dn = some m.cls := findClass_of_methodNamed Bd.named
  have X0 : Stand p l e RM_1_0_0_19 s m _ below meth c s₁ [] 0 0 := Stand.of_body Bd
  have e0 : s₁.heap = h0 := by rw [← hh, Bd.state]; rfl
  have N0 := Fr.nil n0
  refine Go.into (P := fun oo uu => ∃ v L, oo = .returned v ∧ Q26 o0 p1 p2 p3 bA bF wA nW wF h0 n0 v uu.heap L ∧ FrameEnd s oo uu L RM_1_0_0_19.cells RM_1_0_0_19.slots) (ef_26_aaaa m o0 p1 p2 p3) ?_
  show Go p e below _ (s₁.setTop (mkF m 0 #[sR o0, sI p1, sI p2, sI p3, .unset, .unset] []))
  refine Vi (s₁.setTop (mkF m 2 #[sR o0, sI p1, sI p2, sI p3, .unset, .unset] [(.int p3), (.int p2)])) (fun tZ kZ => ?_) ?_
  · refine XS.iloadN X0.here hx rfl (hb hby d26_0) rfl ?_
    refine XS.iloadN X0.here hx rfl (hb hby d26_1) rfl ?_
    exact kZ
  by_cases hc2 : p3 < p2
  · refine Vi (s₁.setTop (mkF m 5 #[sR o0, sI p1, sI p2, sI p3, .unset, .unset] [])) (fun tZ kZ => ?_) ?_
    · show Steps p.tables e below (s₁.setTop (mkF m 2 #[sR o0, sI p1, sI p2, sI p3, .unset, .unset] [(.int p3), (.int p2)])) _
      refine XS.icmpNo X0.here hx rfl (hb hby d26_2) rfl (tlt hc2).2.2.2 ?_
      exact kZ
    refine Vi (s₁.setTop (mkF m 6 #[sR o0, sI p1, sI p2, sI p3, .unset, .unset] [(.int 0)])) (fun tZ kZ => ?_) ?_
    · refine XS.iconst X0.here hx rfl (hb hby d26_5) ?_
      exact kZ
    refine Go.retI X0 hx Bd.notSynchronized Bd.returns (hb hby d26_6) (by decide) (by decide) ?_
    refine ⟨?_, N0, e0⟩
    show some ((.int 0) : Value) = some (.int (f26 o0 p1 p2 p3 bA bF wA nW wF))
    unfold f26; rw [if_pos hc2] <;> rfl
  · refine Vi (s₁.setTop (mkF m 7 #[sR o0, sI p1, sI p2, sI p3, .unset, .unset] [])) (fun tZ kZ => ?_) ?_
    · show Steps p.tables e below (s₁.setTop (mkF m 2 #[sR o0, sI p1, sI p2, sI p3, .unset, .unset] [(.int p3), (.int p2)])) _
      refine XS.icmpYes X0.here hx rfl (pc0 := 2) (pc' := 7) rfl (hb hby d26_2) rfl (flt hc2).2.2.2 (by decide) (by decide) ?_
      exact kZ
    refine Vi (s₁.setTop (mkF m 22 #[sR o0, sI p1, sI p2, sI p3, sI 0, sI ((p2.toUInt32 >>> ((6 : Int32) &&& 31).toUInt32).toInt32)] [(.int ((p3.toUInt32 >>> ((6 : Int32) &&& 31).toUInt32).toInt32)), (.int ((p2.toUInt32 >>> ((6 : Int32) &&& 31).toUInt32).toInt32))])) (fun tZ kZ => ?_) ?_
    · refine XS.iconst X0.here hx rfl (hb hby d26_7) ?_
      refine XS.istore X0.here hx rfl (hb hby d26_8) rfl (l' := #[sR o0, sI p1, sI p2, sI p3, sI 0, .unset]) rfl ?_
      refine XS.iloadN X0.here hx rfl (hb hby d26_10) rfl ?_
      refine XS.bipush X0.here hx rfl (hb hby d26_11) ?_
      refine XS.iushr X0.here hx rfl (hb hby d26_13) rfl ?_
      refine XS.istore X0.here hx rfl (hb hby d26_14) rfl (l' := #[sR o0, sI p1, sI p2, sI p3, sI 0, sI ((p2.toUInt32 >>> ((6 : Int32) &&& 31).toUInt32).toInt32)]) rfl ?_
      refine XS.iload X0.here hx rfl (hb hby d26_16) rfl ?_
      refine XS.iloadN X0.here hx rfl (hb hby d26_18) rfl ?_
      refine XS.bipush X0.here hx rfl (hb hby d26_19) ?_
      refine XS.iushr X0.here hx rfl (hb hby d26_21) rfl ?_
      exact kZ
    refine Vi (s₁.setTop (mkF m 33 #[sR o0, sI p1, sI p2, sI p3, sI 0, sI ((p2.toUInt32 >>> ((6 : Int32) &&& 31).toUInt32).toInt32)] [(.int p3), (.int p2), (.int ((p2.toUInt32 >>> ((6 : Int32) &&& 31).toUInt32).toInt32)), (.int p1), (.ref o0), (.int 0)])) (fun tZ kZ => ?_) ?_
    · refine XS.icmpNo X0.here hx rfl (hb hby d26_22) rfl (flt (own_bc hrg hc2).2.2.2).2.2.1 ?_
      refine XS.iload X0.here hx rfl (hb hby d26_25) rfl ?_
      refine XS.aloadN X0.here hx rfl (hb hby d26_27) rfl rfl ?_
      refine XS.iloadN X0.here hx rfl (hb hby d26_28) rfl ?_
      refine XS.iload X0.here hx rfl (hb hby d26_29) rfl ?_
      refine XS.iloadN X0.here hx rfl (hb hby d26_31) rfl ?_
      refine XS.iloadN X0.here hx rfl (hb hby d26_32) rfl ?_
      exact kZ
    obtain ⟨cq1, q1, q1'⟩ := ha0.cell
    obtain ⟨_, _, ⟨T1, L1, k1, n1⟩, -, X1, ⟨Lc1, hQ1, l1, y1, z1⟩, st1⟩ := X0.privateBack hx (y := y27) hown (wz hZ hw 162 rfl) (wz hZ hw 163 rfl) (mvT hZ (own_selp (y := y27) (wq hw 163 rfl) (wq hw 164 rfl) (wq hw 2 rfl) (by decide))) (Cond.privateMethod_at (mvP hZ (wq hw 164 rfl) (args := #[]))) (wz hZ hw 165 rfl) (by decide) (backOf (W := 1) (rm27 l Z a0 hw [] o0 p1 ((p2.toUInt32 >>> ((6 : Int32) &&& 31).toUInt32).toInt32) p2 p3 bA bF wA nW wF h0 n0 Z0 ha0 ha1 ha2 ha3 hxb hbx (own_bc hrg hc2).1) hZ (wq hw 165 rfl) (wq hw 3 rfl) (by decide) (by decide)) (g := (mkF m 33 #[sR o0, sI p1, sI p2, sI p3, sI 0, sI ((p2.toUInt32 >>> ((6 : Int32) &&& 31).toUInt32).toInt32)] [(.int p3), (.int p2), (.int ((p2.toUInt32 >>> ((6 : Int32) &&& 31).toUInt32).toInt32)), (.int p1), (.ref o0), (.int 0)])) rfl (by rw [hml]; rfl) (Steps.refl _) (a := o0) (by rw [e0]; exact q1) q1' (argsL := [(.int p1), (.int ((p2.toUInt32 >>> ((6 : Int32) &&& 31).toUInt32).toInt32)), (.int p2), (.int p3)]) (rest := [(.int 0)]) (lenOf pd_14 rfl) rfl (leW rfl) (hb hby d26_33) (fun _ _ => ⟨rfl, e0, (by decide : 0 + 0 ≤ _), (by decide : 0 + 0 ≤ _)⟩)
    dsimp only [Pt.U, Pt.locs, Pt.cells, Pt.slots] at X1 l1 y1 z1 st1 hQ1
    subst l1 y1 z1
    obtain ⟨rfl, N1q, e1⟩ := hQ1
    have N1 := Fr.app N0 N1q
    refine Go.via (fun t k => st1.trans k) ?_
    obtain ⟨_, _, ⟨T2, L2, k2, n2⟩, -, X2, ⟨Lc2, hQ2, l2, y2, z2⟩, st2⟩ := Jvm.LawKit.callS X1 hx (y := y28) hown (wz hZ hw 166 rfl) (wz hZ hw 167 rfl) (wz hZ hw 136 rfl) (wz hZ hw 168 rfl) (by decide) (backOf (W := 1) (rm28 l Z a0 hw [] (f27 o0 p1 ((p2.toUInt32 >>> ((6 : Int32) &&& 31).toUInt32).toInt32) p2 p3 bA bF wA nW wF) h0 n0 Z0 ) hZ (wq hw 168 rfl) (wq hw 136 rfl) (by decide) (by decide)) (g := (mkF m 36 #[sR o0, sI p1, sI p2, sI p3, sI 0, sI ((p2.toUInt32 >>> ((6 : Int32) &&& 31).toUInt32).toInt32)] [(.long (f27 o0 p1 ((p2.toUInt32 >>> ((6 : Int32) &&& 31).toUInt32).toInt32) p2 p3 bA bF wA nW wF)), (.int 0)])) rfl (by rw [hml]; rfl) (argsL := [(.long (f27 o0 p1 ((p2.toUInt32 >>> ((6 : Int32) &&& 31).toUInt32).toInt32) p2 p3 bA bF wA nW wF))]) (rest := [(.int 0)]) (lenOf pd_11 rfl) rfl (leW rfl) (hb hby d26_36) (fun _ _ => ⟨rfl, e1, (by decide : 0 + 0 + 0 ≤ _), (by decide : 0 + 0 + 0 ≤ _)⟩)
    dsimp only [Pt.U, Pt.locs, Pt.cells, Pt.slots] at X2 l2 y2 z2 st2 hQ2
    subst l2 y2 z2
    obtain ⟨rfl, N2q, e2⟩ := hQ2
    have N2 := Fr.app N1 N2q
    refine Go.via st2 ?_
    refine Vi (T2.setTop (mkF m 22 #[sR o0, sI p1, sI p2, sI p3, sI ((0 : Int32) + (f28 (f27 o0 p1 ((p2.toUInt32 >>> ((6 : Int32) &&& 31).toUInt32).toInt32) p2 p3 bA bF wA nW wF))), sI (((p2.toUInt32 >>> ((6 : Int32) &&& 31).toUInt32).toInt32) + (1 : Int32))] [(.int ((p3.toUInt32 >>> ((6 : Int32) &&& 31).toUInt32).toInt32)), (.int (((p2.toUInt32 >>> ((6 : Int32) &&& 31).toUInt32).toInt32) + (1 : Int32)))])) (fun tZ kZ => ?_) ?_
    · refine XS.iadd X2.here hx rfl (hb hby d26_39) rfl ?_
      refine XS.istore X2.here hx rfl (hb hby d26_40) rfl (l' := #[sR o0, sI p1, sI p2, sI p3, sI ((0 : Int32) + (f28 (f27 o0 p1 ((p2.toUInt32 >>> ((6 : Int32) &&& 31).toUInt32).toInt32) p2 p3 bA bF wA nW wF))), sI ((p2.toUInt32 >>> ((6 : Int32) &&& 31).toUInt32).toInt32)]) rfl ?_
      refine XS.iinc X2.here hx rfl (hb hby d26_42) rfl (l' := #[sR o0, sI p1, sI p2, sI p3, sI ((0 : Int32) + (f28 (f27 o0 p1 ((p2.toUInt32 >>> ((6 : Int32) &&& 31).toUInt32).toInt32) p2 p3 bA bF wA nW wF))), sI (((p2.toUInt32 >>> ((6 : Int32) &&& 31).toUInt32).toInt32) + (1 : Int32))]) rfl ?_
      refine XS.goto X2.here hx rfl (pc0 := 45) (pc' := 16) rfl (hb hby d26_45) (by decide) (by decide) ?_
      refine XS.iload X2.here hx rfl (hb hby d26_16) rfl ?_
      refine XS.iloadN X2.here hx rfl (hb hby d26_18) rfl ?_
      refine XS.bipush X2.here hx rfl (hb hby d26_19) ?_
      refine XS.iushr X2.here hx rfl (hb hby d26_21) rfl ?_
      exact kZ
    by_cases hc22 : ((p3.toUInt32 >>> ((6 : Int32) &&& 31).toUInt32).toInt32) < (((p2.toUInt32 >>> ((6 : Int32) &&& 31).toUInt32).toInt32) + (1 : Int32))
    · refine Vi (T2.setTop (mkF m 48 #[sR o0, sI p1, sI p2, sI p3, sI ((0 : Int32) + (f28 (f27 o0 p1 ((p2.toUInt32 >>> ((6 : Int32) &&& 31).toUInt32).toInt32) p2 p3 bA bF wA nW wF))), sI (((p2.toUInt32 >>> ((6 : Int32) &&& 31).toUInt32).toInt32) + (1 : Int32))] [])) (fun tZ kZ => ?_) ?_
      · show Steps p.tables e below (T2.setTop (mkF m 22 #[sR o0, sI p1, sI p2, sI p3, sI ((0 : Int32) + (f28 (f27 o0 p1 ((p2.toUInt32 >>> ((6 : Int32) &&& 31).toUInt32).toInt32) p2 p3 bA bF wA nW wF))), sI (((p2.toUInt32 >>> ((6 : Int32) &&& 31).toUInt32).toInt32) + (1 : Int32))] [(.int ((p3.toUInt32 >>> ((6 : Int32) &&& 31).toUInt32).toInt32)), (.int (((p2.toUInt32 >>> ((6 : Int32) &&& 31).toUInt32).toInt32) + (1 : Int32)))])) _
        refine XS.icmpYes X2.here hx rfl (pc0 := 22) (pc' := 48) rfl (hb hby d26_22) rfl (tlt hc22).2.2.1 (by decide) (by decide) ?_
        exact kZ
      refine Vi (T2.setTop (mkF m 50 #[sR o0, sI p1, sI p2, sI p3, sI ((0 : Int32) + (f28 (f27 o0 p1 ((p2.toUInt32 >>> ((6 : Int32) &&& 31).toUInt32).toInt32) p2 p3 bA bF wA nW wF))), sI (((p2.toUInt32 >>> ((6 : Int32) &&& 31).toUInt32).toInt32) + (1 : Int32))] [(.int ((0 : Int32) + (f28 (f27 o0 p1 ((p2.toUInt32 >>> ((6 : Int32) &&& 31).toUInt32).toInt32) p2 p3 bA bF wA nW wF))))])) (fun tZ kZ => ?_) ?_
      · refine XS.iload X2.here hx rfl (hb hby d26_48) rfl ?_
        exact kZ
      refine Go.retI X2 hx Bd.notSynchronized Bd.returns (hb hby d26_50) (by decide) (by decide) ?_
      refine ⟨?_, N2, e2⟩
      show some ((.int ((0 : Int32) + (f28 (f27 o0 p1 ((p2.toUInt32 >>> ((6 : Int32) &&& 31).toUInt32).toInt32) p2 p3 bA bF wA nW wF)))) : Value) = some (.int (f26 o0 p1 p2 p3 bA bF wA nW wF))
      unfold f26; rw [if_neg hc2, if_pos hc22] <;> rfl
    · refine Vi (T2.setTop (mkF m 25 #[sR o0, sI p1, sI p2, sI p3, sI ((0 : Int32) + (f28 (f27 o0 p1 ((p2.toUInt32 >>> ((6 : Int32) &&& 31).toUInt32).toInt32) p2 p3 bA bF wA nW wF))), sI (((p2.toUInt32 >>> ((6 : Int32) &&& 31).toUInt32).toInt32) + (1 : Int32))] [])) (fun tZ kZ => ?_) ?_
      · show Steps p.tables e below (T2.setTop (mkF m 22 #[sR o0, sI p1, sI p2, sI p3, sI ((0 : Int32) + (f28 (f27 o0 p1 ((p2.toUInt32 >>> ((6 : Int32) &&& 31).toUInt32).toInt32) p2 p3 bA bF wA nW wF))), sI (((p2.toUInt32 >>> ((6 : Int32) &&& 31).toUInt32).toInt32) + (1 : Int32))] [(.int ((p3.toUInt32 >>> ((6 : Int32) &&& 31).toUInt32).toInt32)), (.int (((p2.toUInt32 >>> ((6 : Int32) &&& 31).toUInt32).toInt32) + (1 : Int32)))])) _
        refine XS.icmpNo X2.here hx rfl (hb hby d26_22) rfl (flt hc22).2.2.1 ?_
        exact kZ
      refine Vi (T2.setTop (mkF m 33 #[sR o0, sI p1, sI p2, sI p3, sI ((0 : Int32) + (f28 (f27 o0 p1 ((p2.toUInt32 >>> ((6 : Int32) &&& 31).toUInt32).toInt32) p2 p3 bA bF wA nW wF))), sI (((p2.toUInt32 >>> ((6 : Int32) &&& 31).toUInt32).toInt32) + (1 : Int32))] [(.int p3), (.int p2), (.int (((p2.toUInt32 >>> ((6 : Int32) &&& 31).toUInt32).toInt32) + (1 : Int32))), (.int p1), (.ref o0), (.int ((0 : Int32) + (f28 (f27 o0 p1 ((p2.toUInt32 >>> ((6 : Int32) &&& 31).toUInt32).toInt32) p2 p3 bA bF wA nW wF))))])) (fun tZ kZ => ?_) ?_
      · refine XS.iload X2.here hx rfl (hb hby d26_25) rfl ?_
        refine XS.aloadN X2.here hx rfl (hb hby d26_27) rfl rfl ?_
        refine XS.iloadN X2.here hx rfl (hb hby d26_28) rfl ?_
        refine XS.iload X2.here hx rfl (hb hby d26_29) rfl ?_
        refine XS.iloadN X2.here hx rfl (hb hby d26_31) rfl ?_
        refine XS.iloadN X2.here hx rfl (hb hby d26_32) rfl ?_
        exact kZ
      obtain ⟨cq3, q3, q3'⟩ := ha0.cell
      obtain ⟨_, _, ⟨T3, L3, k3, n3⟩, -, X3, ⟨Lc3, hQ3, l3, y3, z3⟩, st3⟩ := X2.privateBack hx (y := y27) hown (wz hZ hw 162 rfl) (wz hZ hw 163 rfl) (mvT hZ (own_selp (y := y27) (wq hw 163 rfl) (wq hw 164 rfl) (wq hw 2 rfl) (by decide))) (Cond.privateMethod_at (mvP hZ (wq hw 164 rfl) (args := #[]))) (wz hZ hw 165 rfl) (by decide) (backOf (W := 1) (rm27 l Z a0 hw [] o0 p1 (((p2.toUInt32 >>> ((6 : Int32) &&& 31).toUInt32).toInt32) + (1 : Int32)) p2 p3 bA bF wA nW wF h0 n0 Z0 ha0 ha1 ha2 ha3 hxb hbx ((own_bc hrg hc2).2.1 hc22)) hZ (wq hw 165 rfl) (wq hw 3 rfl) (by decide) (by decide)) (g := (mkF m 33 #[sR o0, sI p1, sI p2, sI p3, sI ((0 : Int32) + (f28 (f27 o0 p1 ((p2.toUInt32 >>> ((6 : Int32) &&& 31).toUInt32).toInt32) p2 p3 bA bF wA nW wF))), sI (((p2.toUInt32 >>> ((6 : Int32) &&& 31).toUInt32).toInt32) + (1 : Int32))] [(.int p3), (.int p2), (.int (((p2.toUInt32 >>> ((6 : Int32) &&& 31).toUInt32).toInt32) + (1 : Int32))), (.int p1), (.ref o0), (.int ((0 : Int32) + (f28 (f27 o0 p1 ((p2.toUInt32 >>> ((6 : Int32) &&& 31).toUInt32).toInt32) p2 p3 bA bF wA nW wF))))])) rfl (by rw [hml]; rfl) (Steps.refl _) (a := o0) (by rw [e2]; exact q3) q3' (argsL := [(.int p1), (.int (((p2.toUInt32 >>> ((6 : Int32) &&& 31).toUInt32).toInt32) + (1 : Int32))), (.int p2), (.int p3)]) (rest := [(.int ((0 : Int32) + (f28 (f27 o0 p1 ((p2.toUInt32 >>> ((6 : Int32) &&& 31).toUInt32).toInt32) p2 p3 bA bF wA nW wF))))]) (lenOf pd_14 rfl) rfl (leW rfl) (hb hby d26_33) (fun _ _ => ⟨rfl, e2, (by decide : 0 + 0 + 0 + 0 ≤ _), (by decide : 0 + 0 + 0 + 0 ≤ _)⟩)
      dsimp only [Pt.U, Pt.locs, Pt.cells, Pt.slots] at X3 l3 y3 z3 st3 hQ3
      subst l3 y3 z3
      obtain ⟨rfl, N3q, e3⟩ := hQ3
      have N3 := Fr.app N2 N3q
      refine Go.via (fun t k => st3.trans k) ?_
      obtain ⟨_, _, ⟨T4, L4, k4, n4⟩, -, X4, ⟨Lc4, hQ4, l4, y4, z4⟩, st4⟩ := Jvm.LawKit.callS X3 hx (y := y28) hown (wz hZ hw 166 rfl) (wz hZ hw 167 rfl) (wz hZ hw 136 rfl) (wz hZ hw 168 rfl) (by decide) (backOf (W := 1) (rm28 l Z a0 hw [] (f27 o0 p1 (((p2.toUInt32 >>> ((6 : Int32) &&& 31).toUInt32).toInt32) + (1 : Int32)) p2 p3 bA bF wA nW wF) h0 n0 Z0 ) hZ (wq hw 168 rfl) (wq hw 136 rfl) (by decide) (by decide)) (g := (mkF m 36 #[sR o0, sI p1, sI p2, sI p3, sI ((0 : Int32) + (f28 (f27 o0 p1 ((p2.toUInt32 >>> ((6 : Int32) &&& 31).toUInt32).toInt32) p2 p3 bA bF wA nW wF))), sI (((p2.toUInt32 >>> ((6 : Int32) &&& 31).toUInt32).toInt32) + (1 : Int32))] [(.long (f27 o0 p1 (((p2.toUInt32 >>> ((6 : Int32) &&& 31).toUInt32).toInt32) + (1 : Int32)) p2 p3 bA bF wA nW wF)), (.int ((0 : Int32) + (f28 (f27 o0 p1 ((p2.toUInt32 >>> ((6 : Int32) &&& 31).toUInt32).toInt32) p2 p3 bA bF wA nW wF))))])) rfl (by rw [hml]; rfl) (argsL := [(.long (f27 o0 p1 (((p2.toUInt32 >>> ((6 : Int32) &&& 31).toUInt32).toInt32) + (1 : Int32)) p2 p3 bA bF wA nW wF))]) (rest := [(.int ((0 : Int32) + (f28 (f27 o0 p1 ((p2.toUInt32 >>> ((6 : Int32) &&& 31).toUInt32).toInt32) p2 p3 bA bF wA nW wF))))]) (lenOf pd_11 rfl) rfl (leW rfl) (hb hby d26_36) (fun _ _ => ⟨rfl, e3, (by decide : 0 + 0 + 0 + 0 + 0 ≤ _), (by decide : 0 + 0 + 0 + 0 + 0 ≤ _)⟩)
      dsimp only [Pt.U, Pt.locs, Pt.cells, Pt.slots] at X4 l4 y4 z4 st4 hQ4
      subst l4 y4 z4
      obtain ⟨rfl, N4q, e4⟩ := hQ4
      have N4 := Fr.app N3 N4q
      refine Go.via st4 ?_
      refine Vi (T4.setTop (mkF m 22 #[sR o0, sI p1, sI p2, sI p3, sI (((0 : Int32) + (f28 (f27 o0 p1 ((p2.toUInt32 >>> ((6 : Int32) &&& 31).toUInt32).toInt32) p2 p3 bA bF wA nW wF))) + (f28 (f27 o0 p1 (((p2.toUInt32 >>> ((6 : Int32) &&& 31).toUInt32).toInt32) + (1 : Int32)) p2 p3 bA bF wA nW wF))), sI ((((p2.toUInt32 >>> ((6 : Int32) &&& 31).toUInt32).toInt32) + (1 : Int32)) + (1 : Int32))] [(.int ((p3.toUInt32 >>> ((6 : Int32) &&& 31).toUInt32).toInt32)), (.int ((((p2.toUInt32 >>> ((6 : Int32) &&& 31).toUInt32).toInt32) + (1 : Int32)) + (1 : Int32)))])) (fun tZ kZ => ?_) ?_
      · refine XS.iadd X4.here hx rfl (hb hby d26_39) rfl ?_
        refine XS.istore X4.here hx rfl (hb hby d26_40) rfl (l' := #[sR o0, sI p1, sI p2, sI p3, sI (((0 : Int32) + (f28 (f27 o0 p1 ((p2.toUInt32 >>> ((6 : Int32) &&& 31).toUInt32).toInt32) p2 p3 bA bF wA nW wF))) + (f28 (f27 o0 p1 (((p2.toUInt32 >>> ((6 : Int32) &&& 31).toUInt32).toInt32) + (1 : Int32)) p2 p3 bA bF wA nW wF))), sI (((p2.toUInt32 >>> ((6 : Int32) &&& 31).toUInt32).toInt32) + (1 : Int32))]) rfl ?_
        refine XS.iinc X4.here hx rfl (hb hby d26_42) rfl (l' := #[sR o0, sI p1, sI p2, sI p3, sI (((0 : Int32) + (f28 (f27 o0 p1 ((p2.toUInt32 >>> ((6 : Int32) &&& 31).toUInt32).toInt32) p2 p3 bA bF wA nW wF))) + (f28 (f27 o0 p1 (((p2.toUInt32 >>> ((6 : Int32) &&& 31).toUInt32).toInt32) + (1 : Int32)) p2 p3 bA bF wA nW wF))), sI ((((p2.toUInt32 >>> ((6 : Int32) &&& 31).toUInt32).toInt32) + (1 : Int32)) + (1 : Int32))]) rfl ?_
        refine XS.goto X4.here hx rfl (pc0 := 45) (pc' := 16) rfl (hb hby d26_45) (by decide) (by decide) ?_
        refine XS.iload X4.here hx rfl (hb hby d26_16) rfl ?_
        refine XS.iloadN X4.here hx rfl (hb hby d26_18) rfl ?_
        refine XS.bipush X4.here hx rfl (hb hby d26_19) ?_
        refine XS.iushr X4.here hx rfl (hb hby d26_21) rfl ?_
        exact kZ
      refine Vi (T4.setTop (mkF m 50 #[sR o0, sI p1, sI p2, sI p3, sI (((0 : Int32) + (f28 (f27 o0 p1 ((p2.toUInt32 >>> ((6 : Int32) &&& 31).toUInt32).toInt32) p2 p3 bA bF wA nW wF))) + (f28 (f27 o0 p1 (((p2.toUInt32 >>> ((6 : Int32) &&& 31).toUInt32).toInt32) + (1 : Int32)) p2 p3 bA bF wA nW wF))), sI ((((p2.toUInt32 >>> ((6 : Int32) &&& 31).toUInt32).toInt32) + (1 : Int32)) + (1 : Int32))] [(.int (((0 : Int32) + (f28 (f27 o0 p1 ((p2.toUInt32 >>> ((6 : Int32) &&& 31).toUInt32).toInt32) p2 p3 bA bF wA nW wF))) + (f28 (f27 o0 p1 (((p2.toUInt32 >>> ((6 : Int32) &&& 31).toUInt32).toInt32) + (1 : Int32)) p2 p3 bA bF wA nW wF))))])) (fun tZ kZ => ?_) ?_
      · refine XS.icmpYes X4.here hx rfl (pc0 := 22) (pc' := 48) rfl (hb hby d26_22) rfl (tlt ((own_bc hrg hc2).2.2.1 hc22)).2.2.1 (by decide) (by decide) ?_
        refine XS.iload X4.here hx rfl (hb hby d26_48) rfl ?_
        exact kZ
      refine Go.retI X4 hx Bd.notSynchronized Bd.returns (hb hby d26_50) (by decide) (by decide) ?_
      refine ⟨?_, N4, e4⟩
      show some ((.int (((0 : Int32) + (f28 (f27 o0 p1 ((p2.toUInt32 >>> ((6 : Int32) &&& 31).toUInt32).toInt32) p2 p3 bA bF wA nW wF))) + (f28 (f27 o0 p1 (((p2.toUInt32 >>> ((6 : Int32) &&& 31).toUInt32).toInt32) + (1 : Int32)) p2 p3 bA bF wA nW wF)))) : Value) = some (.int (f26 o0 p1 p2 p3 bA bF wA nW wF))
      unfold f26; rw [if_neg hc2, if_neg hc22] <;> rfl
theorem d25_0 : DC B25 0 (.iload_n 3) 1 := by decide +kernel
theorem d25_1 : DC B25 1 (.bipush 6) 2 := by decide +kernel
theorem d25_3 : DC B25 3 (.iushr) 1 := by decide +kernel
theorem d25_4 : DC B25 4 (.iload_n 2) 1 := by decide +kernel
theorem d25_5 : DC B25 5 (.bipush 6) 2 := by decide +kernel
theorem d25_7 : DC B25 7 (.iushr) 1 := by decide +kernel
theorem d25_8 : DC B25 8 (.isub) 1 := by decide +kernel
theorem d25_9 : DC B25 9 (.iconst 1) 1 := by decide +kernel
theorem d25_10 : DC B25 10 (.iadd) 1 := by decide +kernel
theorem d25_11 : DC B25 11 (.istore 5) 2 := by decide +kernel
theorem d25_13 : DC B25 13 (.aload_n 0) 1 := by decide +kernel
theorem d25_14 : DC B25 14 (.getfield 42) 3 := by decide +kernel
theorem d25_17 : DC B25 17 (.iload_n 1) 1 := by decide +kernel
theorem d25_18 : DC B25 18 (.iaload) 1 := by decide +kernel
theorem d25_19 : DC B25 19 (.bipush 6) 2 := by decide +kernel
theorem d25_21 : DC B25 21 (.iushr) 1 := by decide +kernel
theorem d25_22 : DC B25 22 (.aload_n 0) 1 := by decide +kernel
theorem d25_23 : DC B25 23 (.getfield 39) 3 := by decide +kernel
theorem d25_26 : DC B25 26 (.iload_n 1) 1 := by decide +kernel
theorem d25_27 : DC B25 27 (.iaload) 1 := by decide +kernel
theorem d25_28 : DC B25 28 (.bipush 6) 2 := by decide +kernel
theorem d25_30 : DC B25 30 (.iushr) 1 := by decide +kernel
theorem d25_31 : DC B25 31 (.isub) 1 := by decide +kernel
theorem d25_32 : DC B25 32 (.iconst 1) 1 := by decide +kernel
theorem d25_33 : DC B25 33 (.iadd) 1 := by decide +kernel
theorem d25_34 : DC B25 34 (.istore 6) 2 := by decide +kernel
theorem d25_36 : DC B25 36 (.aload_n 0) 1 := by decide +kernel
theorem d25_37 : DC B25 37 (.getfield 36) 3 := by decide +kernel
theorem d25_40 : DC B25 40 (.iload_n 1) 1 := by decide +kernel
theorem d25_41 : DC B25 41 (.iaload) 1 := by decide +kernel
theorem d25_42 : DC B25 42 (.aload_n 0) 1 := by decide +kernel
theorem d25_43 : DC B25 43 (.getfield 42) 3 := by decide +kernel
theorem d25_46 : DC B25 46 (.iload_n 1) 1 := by decide +kernel
theorem d25_47 : DC B25 47 (.iaload) 1 := by decide +kernel
theorem d25_48 : DC B25 48 (.aload_n 0) 1 := by decide +kernel
theorem d25_49 : DC B25 49 (.getfield 39) 3 := by decide +kernel
theorem d25_52 : DC B25 52 (.iload_n 1) 1 := by decide +kernel
theorem d25_53 : DC B25 53 (.iaload) 1 := by decide +kernel
theorem d25_54 : DC B25 54 (.isub) 1 := by decide +kernel
theorem d25_55 : DC B25 55 (.iconst 1) 1 := by decide +kernel
theorem d25_56 : DC B25 56 (.iadd) 1 := by decide +kernel
theorem d25_57 : DC B25 57 (.if_icmp .ne 13) 3 := by decide +kernel
theorem d25_60 : DC B25 60 (.iload_n 3) 1 := by decide +kernel
theorem d25_61 : DC B25 61 (.iload_n 2) 1 := by decide +kernel
theorem d25_62 : DC B25 62 (.isub) 1 := by decide +kernel
theorem d25_63 : DC B25 63 (.iconst 1) 1 := by decide +kernel
theorem d25_64 : DC B25 64 (.iadd) 1 := by decide +kernel
theorem d25_65 : DC B25 65 (.istore 4) 2 := by decide +kernel
theorem d25_67 : DC B25 67 (.goto 62) 3 := by decide +kernel
theorem d25_129 : DC B25 129 (.iload 4) 2 := by decide +kernel
theorem d25_131 : DC B25 131 (.ireturn) 1 := by decide +kernel
theorem d25_70 : DC B25 70 (.iconst 2) 1 := by decide +kernel
theorem d25_71 : DC B25 71 (.iload 5) 2 := by decide +kernel
theorem d25_73 : DC B25 73 (.imul) 1 := by decide +kernel
theorem d25_74 : DC B25 74 (.iload 6) 2 := by decide +kernel
theorem d25_76 : DC B25 76 (.if_icmp .gt 15) 3 := by decide +kernel
theorem d25_91 : DC B25 91 (.aload_n 0) 1 := by decide +kernel
theorem d25_92 : DC B25 92 (.getfield 36) 3 := by decide +kernel
theorem d25_95 : DC B25 95 (.iload_n 1) 1 := by decide +kernel
theorem d25_96 : DC B25 96 (.iaload) 1 := by decide +kernel
theorem d25_97 : DC B25 97 (.aload_n 0) 1 := by decide +kernel
theorem d25_98 : DC B25 98 (.iload_n 1) 1 := by decide +kernel
theorem d25_99 : DC B25 99 (.aload_n 0) 1 := by decide +kernel
theorem d25_100 : DC B25 100 (.getfield 39) 3 := by decide +kernel
theorem d25_103 : DC B25 103 (.iload_n 1) 1 := by decide +kernel
theorem d25_104 : DC B25 104 (.iaload) 1 := by decide +kernel
theorem d25_105 : DC B25 105 (.iload_n 2) 1 := by decide +kernel
theorem d25_106 : DC B25 106 (.iconst 1) 1 := by decide +kernel
theorem d25_107 : DC B25 107 (.isub) 1 := by decide +kernel
theorem pd_13 : parseMethodDescriptor "(III)I" = some ⟨[.int, .int, .int], some .int⟩ := by decide +kernel
theorem d25_108 : DC B25 108 (.invokevirtual 131) 3 := by decide +kernel
theorem d25_111 : DC B25 111 (.isub) 1 := by decide +kernel
theorem d25_112 : DC B25 112 (.aload_n 0) 1 := by decide +kernel
theorem d25_113 : DC B25 113 (.iload_n 1) 1 := by decide +kernel
theorem d25_114 : DC B25 114 (.iload_n 3) 1 := by decide +kernel
theorem d25_115 : DC B25 115 (.iconst 1) 1 := by decide +kernel
theorem d25_116 : DC B25 116 (.iadd) 1 := by decide +kernel
theorem d25_117 : DC B25 117 (.aload_n 0) 1 := by decide +kernel
theorem d25_118 : DC B25 118 (.getfield 42) 3 := by decide +kernel
theorem d25_121 : DC B25 121 (.iload_n 1) 1 := by decide +kernel
theorem d25_122 : DC B25 122 (.iaload) 1 := by decide +kernel
theorem d25_123 : DC B25 123 (.invokevirtual 131) 3 := by decide +kernel
theorem d25_126 : DC B25 126 (.isub) 1 := by decide +kernel
theorem d25_127 : DC B25 127 (.istore 4) 2 := by decide +kernel
theorem d25_79 : DC B25 79 (.aload_n 0) 1 := by decide +kernel
theorem d25_80 : DC B25 80 (.iload_n 1) 1 := by decide +kernel
theorem d25_81 : DC B25 81 (.iload_n 2) 1 := by decide +kernel
theorem d25_82 : DC B25 82 (.iload_n 3) 1 := by decide +kernel
theorem d25_83 : DC B25 83 (.invokevirtual 131) 3 := by decide +kernel
theorem d25_86 : DC B25 86 (.istore 4) 2 := by decide +kernel
theorem d25_88 : DC B25 88 (.goto 41) 3 := by decide +kernel
def f25 (o0 : Addr) (p1 : Int32) (p2 : Int32) (p3 : Int32) (lA : Addr) (lF : Nat → Int32) (hA : Addr) (hF : Nat → Int32) (sA : Addr) (sF : Nat → Int32) (bA : Addr) (bF : Nat → Value) (wA : Addr) (nW : Nat) (wF : Nat → Int64) : Int32 := (if (sF p1.toNatClampNeg) = (((hF p1.toNatClampNeg) - (lF p1.toNatClampNeg)) + (1 : Int32)) then ((p3 - p2) + (1 : Int32)) else (if (((((hF p1.toNatClampNeg).toUInt32 >>> ((6 : Int32) &&& 31).toUInt32).toInt32) - (((lF p1.toNatClampNeg).toUInt32 >>> ((6 : Int32) &&& 31).toUInt32).toInt32)) + (1 : Int32)) < ((2 : Int32) * ((((p3.toUInt32 >>> ((6 : Int32) &&& 31).toUInt32).toInt32) - ((p2.toUInt32 >>> ((6 : Int32) &&& 31).toUInt32).toInt32)) + (1 : Int32))) then (((sF p1.toNatClampNeg) - (f26 o0 p1 (lF p1.toNatClampNeg) (p2 - (1 : Int32)) bA bF wA nW wF)) - (f26 o0 p1 (p3 + (1 : Int32)) (hF p1.toNatClampNeg) bA bF wA nW wF)) else (f26 o0 p1 p2 p3 bA bF wA nW wF)))
def Q25 (o0 : Addr) (p1 : Int32) (p2 : Int32) (p3 : Int32) (lA : Addr) (lF : Nat → Int32) (hA : Addr) (hF : Nat → Int32) (sA : Addr) (sF : Nat → Int32) (bA : Addr) (bF : Nat → Value) (wA : Addr) (nW : Nat) (wF : Nat → Int64) (h0 : Heap) (n0 : Nat) (v : Option Value) (h : Heap) (L : List Loc) : Prop := v = some (.int (f25 o0 p1 p2 p3 lA lF hA hF sA sF bA bF wA nW wF)) ∧ Fr n0 L ∧ h = h0
abbrev RM_2_0_0_37 : Room := { frames := 2, cells := 0, slots := 0, locals := 37 }
theorem ef_25_aaaa (m : MethodId) (x0 : Addr) (x1 : Int32) (x2 : Int32) (x3 : Int32) : entryFrame m #[(.ref x0), (.int x1), (.int x2), (.int x3)] 7 = mkF m 0 #[.val (.ref x0), .val (.int x1), .val (.int x2), .val (.int x3), .unset, .unset, .unset] [] := by first | (simp [entryFrame, mkF, argsToLocals, Value.category]; done) | rfl
theorem rm25 (l : Launch) (Z : State) (a0 : Array Value) (hw : HW a0 Z) (ws : List Jvm.Cond) (o0 : Addr) (p1 : Int32) (p2 : Int32) (p3 : Int32) (lA : Addr) (lF : Nat → Int32) (hA : Addr) (hF : Nat → Int32) (sA : Addr) (sF : Nat → Int32) (bA : Addr) (bF : Nat → Value) (wA : Addr) (nW : Nat) (wF : Nat → Int64) (h0 : Heap) (n0 : Nat) (Z0 : n0 ≤ h0.size) (ha0 : Exa Z h0 o0 Dn) (ha1 : Fld Z h0 o0 Dn "low" "[I" (.ref lA)) (ha2 : AV Z h0 lA .int 2 (fun k => .int (lF k))) (ha3 : Fld Z h0 o0 Dn "high" "[I" (.ref hA)) (ha4 : AV Z h0 hA .int 2 (fun k => .int (hF k))) (ha5 : Fld Z h0 o0 Dn "sizes" "[I" (.ref sA)) (ha6 : AV Z h0 sA .int 2 (fun k => .int (sF k))) (ha7 : Fld Z h0 o0 Dn "bits" "[[J" (.ref bA)) (ha8 : AV Z h0 bA (.array .long) 2 bF) (ha9 : AV Z h0 wA .long nW (fun k => .long (wF k))) (hxb : ¬ p1 < 0 ∧ p1.toNatClampNeg < 2) (hbx : bF p1.toNatClampNeg = Value.ref wA) (hcw : own_rg2 p2 p3 nW ∧ own_rg2 (lF p1.toNatClampNeg) (p2 - (1 : Int32)) nW ∧ own_rg2 (p3 + (1 : Int32)) (hF p1.toNatClampNeg) nW) :
    MetFree l y25 (head1 (Jvm.Cond.code y25 prog_22_method_20_code 7 (some .int) :: ws) RM_2_0_0_37) (fun a U => a = #[(.ref o0), (.int p1), (.int p2), (.int p3)] ∧ Z.Warmed39 U.vm ∧ U.heap = h0) (fun _ _ _ _ _ => True) (fun _ U o U' => ∃ v L, o = .returned v ∧ Q25 o0 p1 p2 p3 lA lF hA hF sA sF bA bF wA nW wF h0 n0 v U'.heap L ∧ FrameEnd U o U' L RM_2_0_0_37.cells RM_2_0_0_37.slots) := by
  refine MetFree.of_bodySF (plainFor_of_name pn_2) hisR ?_
  intro p e s m args below meth c s₁ Bd hml0 hP hK
  obtain ⟨rfl, hZ, hh⟩ := hP
  have hx := Bd.exec
  have hby := Bd.bytes
  have hml : c.maxLocals = 7 := hml0
  have hown : s.vm.findClass Dn = some m.cls := findClass_of_methodNamed Bd.named
  have X0 : Stand p l e RM_2_0_0_37 s m _ below meth c s₁ [] 0 0 := Stand.of_body Bd
  have e0 : s₁.heap = h0 := by rw [← hh, Bd.state]; rfl
  have N0 := Fr.nil n0
  refine Go.into (P := fun oo uu => ∃ v L, oo = .returned v ∧ Q25 o0 p1 p2 p3 lA lF hA hF sA sF bA bF wA nW wF h0 n0 v uu.heap L ∧ FrameEnd s oo uu L RM_2_0_0_37.cells RM_2_0_0_37.slots) (ef_25_aaaa m o0 p1 p2 p3) ?_
  show Go p e below _ (s₁.setTop (mkF m 0 #[sR o0, sI p1, sI p2, sI p3, .unset, .unset, .unset] []))
  refine Vi (s₁.setTop (mkF m 14 #[sR o0, sI p1, sI p2, sI p3, .unset, sI ((((p3.toUInt32 >>> ((6 : Int32) &&& 31).toUInt32).toInt32) - ((p2.toUInt32 >>> ((6 : Int32) &&& 31).toUInt32).toInt32)) + (1 : Int32)), .unset] [(.ref o0)])) (fun tZ kZ => ?_) ?_
  · refine XS.iloadN X0.here hx rfl (hb hby d25_0) rfl ?_
    refine XS.bipush X0.here hx rfl (hb hby d25_1) ?_
    refine XS.iushr X0.here hx rfl (hb hby d25_3) rfl ?_
    refine XS.iloadN X0.here hx rfl (hb hby d25_4) rfl ?_
    refine XS.bipush X0.here hx rfl (hb hby d25_5) ?_
    refine XS.iushr X0.here hx rfl (hb hby d25_7) rfl ?_
    refine XS.isub X0.here hx rfl (hb hby d25_8) rfl ?_
    refine XS.iconst X0.here hx rfl (hb hby d25_9) ?_
    refine XS.iadd X0.here hx rfl (hb hby d25_10) rfl ?_
    refine XS.istore X0.here hx rfl (hb hby d25_11) rfl (l' := #[sR o0, sI p1, sI p2, sI p3, .unset, sI ((((p3.toUInt32 >>> ((6 : Int32) &&& 31).toUInt32).toInt32) - ((p2.toUInt32 >>> ((6 : Int32) &&& 31).toUInt32).toInt32)) + (1 : Int32)), .unset]) rfl ?_
    refine XS.aloadN X0.here hx rfl (hb hby d25_13) rfl rfl ?_
    exact kZ
  refine GF X0 hx hZ hown (wq hw 39 rfl) e0 ha3 (hb hby d25_14) fun T1 X1 e1 => ?_
  refine Vi (T1.setTop (mkF m 23 #[sR o0, sI p1, sI p2, sI p3, .unset, sI ((((p3.toUInt32 >>> ((6 : Int32) &&& 31).toUInt32).toInt32) - ((p2.toUInt32 >>> ((6 : Int32) &&& 31).toUInt32).toInt32)) + (1 : Int32)), .unset] [(.ref o0), (.int (((hF p1.toNatClampNeg).toUInt32 >>> ((6 : Int32) &&& 31).toUInt32).toInt32))])) (fun tZ kZ => ?_) ?_
  · refine XS.iloadN X1.here hx rfl (hb hby d25_17) rfl ?_
    refine AV.iaload ha4 X1 hx hZ e1 (j := p1) hxb (hb hby d25_18) ?_
    refine XS.bipush X1.here hx rfl (hb hby d25_19) ?_
    refine XS.iushr X1.here hx rfl (hb hby d25_21) rfl ?_
    refine XS.aloadN X1.here hx rfl (hb hby d25_22) rfl rfl ?_
    exact kZ
  refine GF X1 hx hZ hown (wq hw 37 rfl) e1 ha1 (hb hby d25_23) fun T2 X2 e2 => ?_
  refine Vi (T2.setTop (mkF m 37 #[sR o0, sI p1, sI p2, sI p3, .unset, sI ((((p3.toUInt32 >>> ((6 : Int32) &&& 31).toUInt32).toInt32) - ((p2.toUInt32 >>> ((6 : Int32) &&& 31).toUInt32).toInt32)) + (1 : Int32)), sI (((((hF p1.toNatClampNeg).toUInt32 >>> ((6 : Int32) &&& 31).toUInt32).toInt32) - (((lF p1.toNatClampNeg).toUInt32 >>> ((6 : Int32) &&& 31).toUInt32).toInt32)) + (1 : Int32))] [(.ref o0)])) (fun tZ kZ => ?_) ?_
  · refine XS.iloadN X2.here hx rfl (hb hby d25_26) rfl ?_
    refine AV.iaload ha2 X2 hx hZ e2 (j := p1) hxb (hb hby d25_27) ?_
    refine XS.bipush X2.here hx rfl (hb hby d25_28) ?_
    refine XS.iushr X2.here hx rfl (hb hby d25_30) rfl ?_
    refine XS.isub X2.here hx rfl (hb hby d25_31) rfl ?_
    refine XS.iconst X2.here hx rfl (hb hby d25_32) ?_
    refine XS.iadd X2.here hx rfl (hb hby d25_33) rfl ?_
    refine XS.istore X2.here hx rfl (hb hby d25_34) rfl (l' := #[sR o0, sI p1, sI p2, sI p3, .unset, sI ((((p3.toUInt32 >>> ((6 : Int32) &&& 31).toUInt32).toInt32) - ((p2.toUInt32 >>> ((6 : Int32) &&& 31).toUInt32).toInt32)) + (1 : Int32)), sI (((((hF p1.toNatClampNeg).toUInt32 >>> ((6 : Int32) &&& 31).toUInt32).toInt32) - (((lF p1.toNatClampNeg).toUInt32 >>> ((6 : Int32) &&& 31).toUInt32).toInt32)) + (1 : Int32))]) rfl ?_
    refine XS.aloadN X2.here hx rfl (hb hby d25_36) rfl rfl ?_
    exact kZ
  refine GF X2 hx hZ hown (wq hw 35 rfl) e2 ha5 (hb hby d25_37) fun T3 X3 e3 => ?_
  refine Vi (T3.setTop (mkF m 43 #[sR o0, sI p1, sI p2, sI p3, .unset, sI ((((p3.toUInt32 >>> ((6 : Int32) &&& 31).toUInt32).toInt32) - ((p2.toUInt32 >>> ((6 : Int32) &&& 31).toUInt32).toInt32)) + (1 : Int32)), sI (((((hF p1.toNatClampNeg).toUInt32 >>> ((6 : Int32) &&& 31).toUInt32).toInt32) - (((lF p1.toNatClampNeg).toUInt32 >>> ((6 : Int32) &&& 31).toUInt32).toInt32)) + (1 : Int32))] [(.ref o0), (.int (sF p1.toNatClampNeg))])) (fun tZ kZ => ?_) ?_
  · refine XS.iloadN X3.here hx rfl (hb hby d25_40) rfl ?_
    refine AV.iaload ha6 X3 hx hZ e3 (j := p1) hxb (hb hby d25_41) ?_
    refine XS.aloadN X3.here hx rfl (hb hby d25_42) rfl rfl ?_
    exact kZ
  refine GF X3 hx hZ hown (wq hw 39 rfl) e3 ha3 (hb hby d25_43) fun T4 X4 e4 => ?_
  refine Vi (T4.setTop (mkF m 49 #[sR o0, sI p1, sI p2, sI p3, .unset, sI ((((p3.toUInt32 >>> ((6 : Int32) &&& 31).toUInt32).toInt32) - ((p2.toUInt32 >>> ((6 : Int32) &&& 31).toUInt32).toInt32)) + (1 : Int32)), sI (((((hF p1.toNatClampNeg).toUInt32 >>> ((6 : Int32) &&& 31).toUInt32).toInt32) - (((lF p1.toNatClampNeg).toUInt32 >>> ((6 : Int32) &&& 31).toUInt32).toInt32)) + (1 : Int32))] [(.ref o0), (.int (hF p1.toNatClampNeg)), (.int (sF p1.toNatClampNeg))])) (fun tZ kZ => ?_) ?_
  · refine XS.iloadN X4.here hx rfl (hb hby d25_46) rfl ?_
    refine AV.iaload ha4 X4 hx hZ e4 (j := p1) hxb (hb hby d25_47) ?_
    refine XS.aloadN X4.here hx rfl (hb hby d25_48) rfl rfl ?_
    exact kZ
  refine GF X4 hx hZ hown (wq hw 37 rfl) e4 ha1 (hb hby d25_49) fun T5 X5 e5 => ?_
  refine Vi (T5.setTop (mkF m 57 #[sR o0, sI p1, sI p2, sI p3, .unset, sI ((((p3.toUInt32 >>> ((6 : Int32) &&& 31).toUInt32).toInt32) - ((p2.toUInt32 >>> ((6 : Int32) &&& 31).toUInt32).toInt32)) + (1 : Int32)), sI (((((hF p1.toNatClampNeg).toUInt32 >>> ((6 : Int32) &&& 31).toUInt32).toInt32) - (((lF p1.toNatClampNeg).toUInt32 >>> ((6 : Int32) &&& 31).toUInt32).toInt32)) + (1 : Int32))] [(.int (((hF p1.toNatClampNeg) - (lF p1.toNatClampNeg)) + (1 : Int32))), (.int (sF p1.toNatClampNeg))])) (fun tZ kZ => ?_) ?_
  · refine XS.iloadN X5.here hx rfl (hb hby d25_52) rfl ?_
    refine AV.iaload ha2 X5 hx hZ e5 (j := p1) hxb (hb hby d25_53) ?_
    refine XS.isub X5.here hx rfl (hb hby d25_54) rfl ?_
    refine XS.iconst X5.here hx rfl (hb hby d25_55) ?_
    refine XS.iadd X5.here hx rfl (hb hby d25_56) rfl ?_
    exact kZ
  by_cases hc57 : (sF p1.toNatClampNeg) = (((hF p1.toNatClampNeg) - (lF p1.toNatClampNeg)) + (1 : Int32))
  · refine Vi (T5.setTop (mkF m 60 #[sR o0, sI p1, sI p2, sI p3, .unset, sI ((((p3.toUInt32 >>> ((6 : Int32) &&& 31).toUInt32).toInt32) - ((p2.toUInt32 >>> ((6 : Int32) &&& 31).toUInt32).toInt32)) + (1 : Int32)), sI (((((hF p1.toNatClampNeg).toUInt32 >>> ((6 : Int32) &&& 31).toUInt32).toInt32) - (((lF p1.toNatClampNeg).toUInt32 >>> ((6 : Int32) &&& 31).toUInt32).toInt32)) + (1 : Int32))] [])) (fun tZ kZ => ?_) ?_
    · show Steps p.tables e below (T5.setTop (mkF m 57 #[sR o0, sI p1, sI p2, sI p3, .unset, sI ((((p3.toUInt32 >>> ((6 : Int32) &&& 31).toUInt32).toInt32) - ((p2.toUInt32 >>> ((6 : Int32) &&& 31).toUInt32).toInt32)) + (1 : Int32)), sI (((((hF p1.toNatClampNeg).toUInt32 >>> ((6 : Int32) &&& 31).toUInt32).toInt32) - (((lF p1.toNatClampNeg).toUInt32 >>> ((6 : Int32) &&& 31).toUInt32).toInt32)) + (1 : Int32))] [(.int (((hF p1.toNatClampNeg) - (lF p1.toNatClampNeg)) + (1 : Int32))), (.int (sF p1.toNatClampNeg))])) _
      refine XS.icmpNo X5.here hx rfl (hb hby d25_57) rfl (teq hc57).2 ?_
      exact kZ
    refine Vi (T5.setTop (mkF m 131 #[sR o0, sI p1, sI p2, sI p3, sI ((p3 - p2) + (1 : Int32)), sI ((((p3.toUInt32 >>> ((6 : Int32) &&& 31).toUInt32).toInt32) - ((p2.toUInt32 >>> ((6 : Int32) &&& 31).toUInt32).toInt32)) + (1 : Int32)), sI (((((hF p1.toNatClampNeg).toUInt32 >>> ((6 : Int32) &&& 31).toUInt32).toInt32) - (((lF p1.toNatClampNeg).toUInt32 >>> ((6 : Int32) &&& 31).toUInt32).toInt32)) + (1 : Int32))] [(.int ((p3 - p2) + (1 : Int32)))])) (fun tZ kZ => ?_) ?_
    · refine XS.iloadN X5.here hx rfl (hb hby d25_60) rfl ?_
      refine XS.iloadN X5.here hx rfl (hb hby d25_61) rfl ?_
      refine XS.isub X5.here hx rfl (hb hby d25_62) rfl ?_
      refine XS.iconst X5.here hx rfl (hb hby d25_63) ?_
      refine XS.iadd X5.here hx rfl (hb hby d25_64) rfl ?_
      refine XS.istore X5.here hx rfl (hb hby d25_65) rfl (l' := #[sR o0, sI p1, sI p2, sI p3, sI ((p3 - p2) + (1 : Int32)), sI ((((p3.toUInt32 >>> ((6 : Int32) &&& 31).toUInt32).toInt32) - ((p2.toUInt32 >>> ((6 : Int32) &&& 31).toUInt32).toInt32)) + (1 : Int32)), sI (((((hF p1.toNatClampNeg).toUInt32 >>> ((6 : Int32) &&& 31).toUInt32).toInt32) - (((lF p1.toNatClampNeg).toUInt32 >>> ((6 : Int32) &&& 31).toUInt32).toInt32)) + (1 : Int32))]) rfl ?_
      refine XS.goto X5.here hx rfl (pc0 := 67) (pc' := 129) rfl (hb hby d25_67) (by decide) (by decide) ?_
      refine XS.iload X5.here hx rfl (hb hby d25_129) rfl ?_
      exact kZ
    refine Go.retI X5 hx Bd.notSynchronized Bd.returns (hb hby d25_131) (by decide) (by decide) ?_
    refine ⟨?_, N0, e5⟩
    show some ((.int ((p3 - p2) + (1 : Int32))) : Value) = some (.int (f25 o0 p1 p2 p3 lA lF hA hF sA sF bA bF wA nW wF))
    unfold f25; rw [if_pos hc57] <;> rfl
  · refine Vi (T5.setTop (mkF m 70 #[sR o0, sI p1, sI p2, sI p3, .unset, sI ((((p3.toUInt32 >>> ((6 : Int32) &&& 31).toUInt32).toInt32) - ((p2.toUInt32 >>> ((6 : Int32) &&& 31).toUInt32).toInt32)) + (1 : Int32)), sI (((((hF p1.toNatClampNeg).toUInt32 >>> ((6 : Int32) &&& 31).toUInt32).toInt32) - (((lF p1.toNatClampNeg).toUInt32 >>> ((6 : Int32) &&& 31).toUInt32).toInt32)) + (1 : Int32))] [])) (fun tZ kZ => ?_) ?_
    · show Steps p.tables e below (T5.setTop (mkF m 57 #[sR o0, sI p1, sI p2, sI p3, .unset, sI ((((p3.toUInt32 >>> ((6 : Int32) &&& 31).toUInt32).toInt32) - ((p2.toUInt32 >>> ((6 : Int32) &&& 31).toUInt32).toInt32)) + (1 : Int32)), sI (((((hF p1.toNatClampNeg).toUInt32 >>> ((6 : Int32) &&& 31).toUInt32).toInt32) - (((lF p1.toNatClampNeg).toUInt32 >>> ((6 : Int32) &&& 31).toUInt32).toInt32)) + (1 : Int32))] [(.int (((hF p1.toNatClampNeg) - (lF p1.toNatClampNeg)) + (1 : Int32))), (.int (sF p1.toNatClampNeg))])) _
      refine XS.icmpYes X5.here hx rfl (pc0 := 57) (pc' := 70) rfl (hb hby d25_57) rfl (feq hc57).2 (by decide) (by decide) ?_
      exact kZ
    refine Vi (T5.setTop (mkF m 76 #[sR o0, sI p1, sI p2, sI p3, .unset, sI ((((p3.toUInt32 >>> ((6 : Int32) &&& 31).toUInt32).toInt32) - ((p2.toUInt32 >>> ((6 : Int32) &&& 31).toUInt32).toInt32)) + (1 : Int32)), sI (((((hF p1.toNatClampNeg).toUInt32 >>> ((6 : Int32) &&& 31).toUInt32).toInt32) - (((lF p1.toNatClampNeg).toUInt32 >>> ((6 : Int32) &&& 31).toUInt32).toInt32)) + (1 : Int32))] [(.int (((((hF p1.toNatClampNeg).toUInt32 >>> ((6 : Int32) &&& 31).toUInt32).toInt32) - (((lF p1.toNatClampNeg).toUInt32 >>> ((6 : Int32) &&& 31).toUInt32).toInt32)) + (1 : Int32))), (.int ((2 : Int32) * ((((p3.toUInt32 >>> ((6 : Int32) &&& 31).toUInt32).toInt32) - ((p2.toUInt32 >>> ((6 : Int32) &&& 31).toUInt32).toInt32)) + (1 : Int32))))])) (fun tZ kZ => ?_) ?_
    · refine XS.iconst X5.here hx rfl (hb hby d25_70) ?_
      refine XS.iload X5.here hx rfl (hb hby d25_71) rfl ?_
      refine XS.imul X5.here hx rfl (hb hby d25_73) rfl ?_
      refine XS.iload X5.here hx rfl (hb hby d25_74) rfl ?_
      exact kZ
    by_cases hc76 : (((((hF p1.toNatClampNeg).toUInt32 >>> ((6 : Int32) &&& 31).toUInt32).toInt32) - (((lF p1.toNatClampNeg).toUInt32 >>> ((6 : Int32) &&& 31).toUInt32).toInt32)) + (1 : Int32)) < ((2 : Int32) * ((((p3.toUInt32 >>> ((6 : Int32) &&& 31).toUInt32).toInt32) - ((p2.toUInt32 >>> ((6 : Int32) &&& 31).toUInt32).toInt32)) + (1 : Int32)))
    · refine Vi (T5.setTop (mkF m 91 #[sR o0, sI p1, sI p2, sI p3, .unset, sI ((((p3.toUInt32 >>> ((6 : Int32) &&& 31).toUInt32).toInt32) - ((p2.toUInt32 >>> ((6 : Int32) &&& 31).toUInt32).toInt32)) + (1 : Int32)), sI (((((hF p1.toNatClampNeg).toUInt32 >>> ((6 : Int32) &&& 31).toUInt32).toInt32) - (((lF p1.toNatClampNeg).toUInt32 >>> ((6 : Int32) &&& 31).toUInt32).toInt32)) + (1 : Int32))] [])) (fun tZ kZ => ?_) ?_
      · show Steps p.tables e below (T5.setTop (mkF m 76 #[sR o0, sI p1, sI p2, sI p3, .unset, sI ((((p3.toUInt32 >>> ((6 : Int32) &&& 31).toUInt32).toInt32) - ((p2.toUInt32 >>> ((6 : Int32) &&& 31).toUInt32).toInt32)) + (1 : Int32)), sI (((((hF p1.toNatClampNeg).toUInt32 >>> ((6 : Int32) &&& 31).toUInt32).toInt32) - (((lF p1.toNatClampNeg).toUInt32 >>> ((6 : Int32) &&& 31).toUInt32).toInt32)) + (1 : Int32))] [(.int (((((hF p1.toNatClampNeg).toUInt32 >>> ((6 : Int32) &&& 31).toUInt32).toInt32) - (((lF p1.toNatClampNeg).toUInt32 >>> ((6 : Int32) &&& 31).toUInt32).toInt32)) + (1 : Int32))), (.int ((2 : Int32) * ((((p3.toUInt32 >>> ((6 : Int32) &&& 31).toUInt32).toInt32) - ((p2.toUInt32 >>> ((6 : Int32) &&& 31).toUInt32).toInt32)) + (1 : Int32))))])) _
        refine XS.icmpYes X5.here hx rfl (pc0 := 76) (pc' := 91) rfl (hb hby d25_76) rfl (tlt hc76).2.2.1 (by decide) (by decide) ?_
        exact kZ
      refine Vi (T5.setTop (mkF m 92 #[sR o0, sI p1, sI p2, sI p3, .unset, sI ((((p3.toUInt32 >>> ((6 : Int32) &&& 31).toUInt32).toInt32) - ((p2.toUInt32 >>> ((6 : Int32) &&& 31).toUInt32).toInt32)) + (1 : Int32)), sI (((((hF p1.toNatClampNeg).toUInt32 >>> ((6 : Int32) &&& 31).toUInt32).toInt32) - (((lF p1.toNatClampNeg).toUInt32 >>> ((6 : Int32) &&& 31).toUInt32).toInt32)) + (1 : Int32))] [(.ref o0)])) (fun tZ kZ => ?_) ?_
      · refine XS.aloadN X5.here hx rfl (hb hby d25_91) rfl rfl ?_
        exact kZ
      refine GF X5 hx hZ hown (wq hw 35 rfl) e5 ha5 (hb hby d25_92) fun T6 X6 e6 => ?_
      refine Vi (T6.setTop (mkF m 100 #[sR o0, sI p1, sI p2, sI p3, .unset, sI ((((p3.toUInt32 >>> ((6 : Int32) &&& 31).toUInt32).toInt32) - ((p2.toUInt32 >>> ((6 : Int32) &&& 31).toUInt32).toInt32)) + (1 : Int32)), sI (((((hF p1.toNatClampNeg).toUInt32 >>> ((6 : Int32) &&& 31).toUInt32).toInt32) - (((lF p1.toNatClampNeg).toUInt32 >>> ((6 : Int32) &&& 31).toUInt32).toInt32)) + (1 : Int32))] [(.ref o0), (.int p1), (.ref o0), (.int (sF p1.toNatClampNeg))])) (fun tZ kZ => ?_) ?_
      · refine XS.iloadN X6.here hx rfl (hb hby d25_95) rfl ?_
        refine AV.iaload ha6 X6 hx hZ e6 (j := p1) hxb (hb hby d25_96) ?_
        refine XS.aloadN X6.here hx rfl (hb hby d25_97) rfl rfl ?_
        refine XS.iloadN X6.here hx rfl (hb hby d25_98) rfl ?_
        refine XS.aloadN X6.here hx rfl (hb hby d25_99) rfl rfl ?_
        exact kZ
      refine GF X6 hx hZ hown (wq hw 37 rfl) e6 ha1 (hb hby d25_100) fun T7 X7 e7 => ?_
      refine Vi (T7.setTop (mkF m 108 #[sR o0, sI p1, sI p2, sI p3, .unset, sI ((((p3.toUInt32 >>> ((6 : Int32) &&& 31).toUInt32).toInt32) - ((p2.toUInt32 >>> ((6 : Int32) &&& 31).toUInt32).toInt32)) + (1 : Int32)), sI (((((hF p1.toNatClampNeg).toUInt32 >>> ((6 : Int32) &&& 31).toUInt32).toInt32) - (((lF p1.toNatClampNeg).toUInt32 >>> ((6 : Int32) &&& 31).toUInt32).toInt32)) + (1 : Int32))] [(.int (p2 - (1 : Int32))), (.int (lF p1.toNatClampNeg)), (.int p1), (.ref o0), (.int (sF p1.toNatClampNeg))])) (fun tZ kZ => ?_) ?_
      · refine XS.iloadN X7.here hx rfl (hb hby d25_103) rfl ?_
        refine AV.iaload ha2 X7 hx hZ e7 (j := p1) hxb (hb hby d25_104) ?_
        refine XS.iloadN X7.here hx rfl (hb hby d25_105) rfl ?_
        refine XS.iconst X7.here hx rfl (hb hby d25_106) ?_
        refine XS.isub X7.here hx rfl (hb hby d25_107) rfl ?_
        exact kZ
      obtain ⟨cq8, q8, q8'⟩ := ha0.cell
      obtain ⟨_, _, ⟨T8, L8, k8, n8⟩, -, X8, ⟨Lc8, hQ8, l8, y8, z8⟩, st8⟩ := X7.privateBack hx (y := y26) hown (wz hZ hw 158 rfl) (wz hZ hw 159 rfl) (mvT hZ (own_selp (y := y26) (wq hw 159 rfl) (wq hw 160 rfl) (wq hw 2 rfl) (by decide))) (Cond.privateMethod_at (mvP hZ (wq hw 160 rfl) (args := #[]))) (wz hZ hw 161 rfl) (by decide) (backOf (W := 1) (rm26 l Z a0 hw [] o0 p1 (lF p1.toNatClampNeg) (p2 - (1 : Int32)) bA bF wA nW wF h0 n0 Z0 ha0 ha7 ha8 ha9 hxb hbx hcw.2.1) hZ (wq hw 161 rfl) (wq hw 3 rfl) (by decide) (by decide)) (g := (mkF m 108 #[sR o0, sI p1, sI p2, sI p3, .unset, sI ((((p3.toUInt32 >>> ((6 : Int32) &&& 31).toUInt32).toInt32) - ((p2.toUInt32 >>> ((6 : Int32) &&& 31).toUInt32).toInt32)) + (1 : Int32)), sI (((((hF p1.toNatClampNeg).toUInt32 >>> ((6 : Int32) &&& 31).toUInt32).toInt32) - (((lF p1.toNatClampNeg).toUInt32 >>> ((6 : Int32) &&& 31).toUInt32).toInt32)) + (1 : Int32))] [(.int (p2 - (1 : Int32))), (.int (lF p1.toNatClampNeg)), (.int p1), (.ref o0), (.int (sF p1.toNatClampNeg))])) rfl (by rw [hml]; rfl) (Steps.refl _) (a := o0) (by rw [e7]; exact q8) q8' (argsL := [(.int p1), (.int (lF p1.toNatClampNeg)), (.int (p2 - (1 : Int32)))]) (rest := [(.int (sF p1.toNatClampNeg))]) (lenOf pd_13 rfl) rfl (leW rfl) (hb hby d25_108) (fun _ _ => ⟨rfl, e7, (by decide : 0 + 0 ≤ _), (by decide : 0 + 0 ≤ _)⟩)
      dsimp only [Pt.U, Pt.locs, Pt.cells, Pt.slots] at X8 l8 y8 z8 st8 hQ8
      subst l8 y8 z8
      obtain ⟨rfl, N8q, e8⟩ := hQ8
      have N8 := Fr.app N0 N8q
      refine Go.via (fun t k => st8.trans k) ?_
      refine Vi (T8.setTop (mkF m 118 #[sR o0, sI p1, sI p2, sI p3, .unset, sI ((((p3.toUInt32 >>> ((6 : Int32) &&& 31).toUInt32).toInt32) - ((p2.toUInt32 >>> ((6 : Int32) &&& 31).toUInt32).toInt32)) + (1 : Int32)), sI (((((hF p1.toNatClampNeg).toUInt32 >>> ((6 : Int32) &&& 31).toUInt32).toInt32) - (((lF p1.toNatClampNeg).toUInt32 >>> ((6 : Int32) &&& 31).toUInt32).toInt32)) + (1 : Int32))] [(.ref o0), (.int (p3 + (1 : Int32))), (.int p1), (.ref o0), (.int ((sF p1.toNatClampNeg) - (f26 o0 p1 (lF p1.toNatClampNeg) (p2 - (1 : Int32)) bA bF wA nW wF)))])) (fun tZ kZ => ?_) ?_
      · refine XS.isub X8.here hx rfl (hb hby d25_111) rfl ?_
        refine XS.aloadN X8.here hx rfl (hb hby d25_112) rfl rfl ?_
        refine XS.iloadN X8.here hx rfl (hb hby d25_113) rfl ?_
        refine XS.iloadN X8.here hx rfl (hb hby d25_114) rfl ?_
        refine XS.iconst X8.here hx rfl (hb hby d25_115) ?_
        refine XS.iadd X8.here hx rfl (hb hby d25_116) rfl ?_
        refine XS.aloadN X8.here hx rfl (hb hby d25_117) rfl rfl ?_
        exact kZ
      refine GF X8 hx hZ hown (wq hw 39 rfl) e8 ha3 (hb hby d25_118) fun T9 X9 e9 => ?_
      refine Vi (T9.setTop (mkF m 123 #[sR o0, sI p1, sI p2, sI p3, .unset, sI ((((p3.toUInt32 >>> ((6 : Int32) &&& 31).toUInt32).toInt32) - ((p2.toUInt32 >>> ((6 : Int32) &&& 31).toUInt32).toInt32)) + (1 : Int32)), sI (((((hF p1.toNatClampNeg).toUInt32 >>> ((6 : Int32) &&& 31).toUInt32).toInt32) - (((lF p1.toNatClampNeg).toUInt32 >>> ((6 : Int32) &&& 31).toUInt32).toInt32)) + (1 : Int32))] [(.int (hF p1.toNatClampNeg)), (.int (p3 + (1 : Int32))), (.int p1), (.ref o0), (.int ((sF p1.toNatClampNeg) - (f26 o0 p1 (lF p1.toNatClampNeg) (p2 - (1 : Int32)) bA bF wA nW wF)))])) (fun tZ kZ => ?_) ?_
      · refine XS.iloadN X9.here hx rfl (hb hby d25_121) rfl ?_
        refine AV.iaload ha4 X9 hx hZ e9 (j := p1) hxb (hb hby d25_122) ?_
        exact kZ
      obtain ⟨cq10, q10, q10'⟩ := ha0.cell
      obtain ⟨_, _, ⟨T10, L10, k10, n10⟩, -, X10, ⟨Lc10, hQ10, l10, y10, z10⟩, st10⟩ := X9.privateBack hx (y := y26) hown (wz hZ hw 158 rfl) (wz hZ hw 159 rfl) (mvT hZ (own_selp (y := y26) (wq hw 159 rfl) (wq hw 160 rfl) (wq hw 2 rfl) (by decide))) (Cond.privateMethod_at (mvP hZ (wq hw 160 rfl) (args := #[]))) (wz hZ hw 161 rfl) (by decide) (backOf (W := 1) (rm26 l Z a0 hw [] o0 p1 (p3 + (1 : Int32)) (hF p1.toNatClampNeg) bA bF wA nW wF h0 n0 Z0 ha0 ha7 ha8 ha9 hxb hbx hcw.2.2) hZ (wq hw 161 rfl) (wq hw 3 rfl) (by decide) (by decide)) (g := (mkF m 123 #[sR o0, sI p1, sI p2, sI p3, .unset, sI ((((p3.toUInt32 >>> ((6 : Int32) &&& 31).toUInt32).toInt32) - ((p2.toUInt32 >>> ((6 : Int32) &&& 31).toUInt32).toInt32)) + (1 : Int32)), sI (((((hF p1.toNatClampNeg).toUInt32 >>> ((6 : Int32) &&& 31).toUInt32).toInt32) - (((lF p1.toNatClampNeg).toUInt32 >>> ((6 : Int32) &&& 31).toUInt32).toInt32)) + (1 : Int32))] [(.int (hF p1.toNatClampNeg)), (.int (p3 + (1 : Int32))), (.int p1), (.ref o0), (.int ((sF p1.toNatClampNeg) - (f26 o0 p1 (lF p1.toNatClampNeg) (p2 - (1 : Int32)) bA bF wA nW wF)))])) rfl (by rw [hml]; rfl) (Steps.refl _) (a := o0) (by rw [e9]; exact q10) q10' (argsL := [(.int p1), (.int (p3 + (1 : Int32))), (.int (hF p1.toNatClampNeg))]) (rest := [(.int ((sF p1.toNatClampNeg) - (f26 o0 p1 (lF p1.toNatClampNeg) (p2 - (1 : Int32)) bA bF wA nW wF)))]) (lenOf pd_13 rfl) rfl (leW rfl) (hb hby d25_123) (fun _ _ => ⟨rfl, e9, (by decide : 0 + 0 + 0 ≤ _), (by decide : 0 + 0 + 0 ≤ _)⟩)
      dsimp only [Pt.U, Pt.locs, Pt.cells, Pt.slots] at X10 l10 y10 z10 st10 hQ10
      subst l10 y10 z10
      obtain ⟨rfl, N10q, e10⟩ := hQ10
      have N10 := Fr.app N8 N10q
      refine Go.via (fun t k => st10.trans k) ?_
      refine Vi (T10.setTop (mkF m 131 #[sR o0, sI p1, sI p2, sI p3, sI (((sF p1.toNatClampNeg) - (f26 o0 p1 (lF p1.toNatClampNeg) (p2 - (1 : Int32)) bA bF wA nW wF)) - (f26 o0 p1 (p3 + (1 : Int32)) (hF p1.toNatClampNeg) bA bF wA nW wF)), sI ((((p3.toUInt32 >>> ((6 : Int32) &&& 31).toUInt32).toInt32) - ((p2.toUInt32 >>> ((6 : Int32) &&& 31).toUInt32).toInt32)) + (1 : Int32)), sI (((((hF p1.toNatClampNeg).toUInt32 >>> ((6 : Int32) &&& 31).toUInt32).toInt32) - (((lF p1.toNatClampNeg).toUInt32 >>> ((6 : Int32) &&& 31).toUInt32).toInt32)) + (1 : Int32))] [(.int (((sF p1.toNatClampNeg) - (f26 o0 p1 (lF p1.toNatClampNeg) (p2 - (1 : Int32)) bA bF wA nW wF)) - (f26 o0 p1 (p3 + (1 : Int32)) (hF p1.toNatClampNeg) bA bF wA nW wF)))])) (fun tZ kZ => ?_) ?_
      · refine XS.isub X10.here hx rfl (hb hby d25_126) rfl ?_
        refine XS.istore X10.here hx rfl (hb hby d25_127) rfl (l' := #[sR o0, sI p1, sI p2, sI p3, sI (((sF p1.toNatClampNeg) - (f26 o0 p1 (lF p1.toNatClampNeg) (p2 - (1 : Int32)) bA bF wA nW wF)) - (f26 o0 p1 (p3 + (1 : Int32)) (hF p1.toNatClampNeg) bA bF wA nW wF)), sI ((((p3.toUInt32 >>> ((6 : Int32) &&& 31).toUInt32).toInt32) - ((p2.toUInt32 >>> ((6 : Int32) &&& 31).toUInt32).toInt32)) + (1 : Int32)), sI (((((hF p1.toNatClampNeg).toUInt32 >>> ((6 : Int32) &&& 31).toUInt32).toInt32) - (((lF p1.toNatClampNeg).toUInt32 >>> ((6 : Int32) &&& 31).toUInt32).toInt32)) + (1 : Int32))]) rfl ?_
        refine XS.iload X10.here hx rfl (hb hby d25_129) rfl ?_
        exact kZ
      refine Go.retI X10 hx Bd.notSynchronized Bd.returns (hb hby d25_131) (by decide) (by decide) ?_
      refine ⟨?_, N10, e10⟩
      show some ((.int (((sF p1.toNatClampNeg) - (f26 o0 p1 (lF p1.toNatClampNeg) (p2 - (1 : Int32)) bA bF wA nW wF)) - (f26 o0 p1 (p3 + (1 : Int32)) (hF p1.toNatClampNeg) bA bF wA nW wF))) : Value) = some (.int (f25 o0 p1 p2 p3 lA lF hA hF sA sF bA bF wA nW wF))
      unfold f25; rw [if_neg hc57, if_pos hc76] <;> rfl
    · refine Vi (T5.setTop (mkF m 79 #[sR o0, sI p1, sI p2, sI p3, .unset, sI ((((p3.toUInt32 >>> ((6 : Int32) &&& 31).toUInt32).toInt32) - ((p2.toUInt32 >>> ((6 : Int32) &&& 31).toUInt32).toInt32)) + (1 : Int32)), sI (((((hF p1.toNatClampNeg).toUInt32 >>> ((6 : Int32) &&& 31).toUInt32).toInt32) - (((lF p1.toNatClampNeg).toUInt32 >>> ((6 : Int32) &&& 31).toUInt32).toInt32)) + (1 : Int32))] [])) (fun tZ kZ => ?_) ?_
      · show Steps p.tables e below (T5.setTop (mkF m 76 #[sR o0, sI p1, sI p2, sI p3, .unset, sI ((((p3.toUInt32 >>> ((6 : Int32) &&& 31).toUInt32).toInt32) - ((p2.toUInt32 >>> ((6 : Int32) &&& 31).toUInt32).toInt32)) + (1 : Int32)), sI (((((hF p1.toNatClampNeg).toUInt32 >>> ((6 : Int32) &&& 31).toUInt32).toInt32) - (((lF p1.toNatClampNeg).toUInt32 >>> ((6 : Int32) &&& 31).toUInt32).toInt32)) + (1 : Int32))] [(.int (((((hF p1.toNatClampNeg).toUInt32 >>> ((6 : Int32) &&& 31).toUInt32).toInt32) - (((lF p1.toNatClampNeg).toUInt32 >>> ((6 : Int32) &&& 31).toUInt32).toInt32)) + (1 : Int32))), (.int ((2 : Int32) * ((((p3.toUInt32 >>> ((6 : Int32) &&& 31).toUInt32).toInt32) - ((p2.toUInt32 >>> ((6 : Int32) &&& 31).toUInt32).toInt32)) + (1 : Int32))))])) _
        refine XS.icmpNo X5.here hx rfl (hb hby d25_76) rfl (flt hc76).2.2.1 ?_
        exact kZ
      refine Vi (T5.setTop (mkF m 83 #[sR o0, sI p1, sI p2, sI p3, .unset, sI ((((p3.toUInt32 >>> ((6 : Int32) &&& 31).toUInt32).toInt32) - ((p2.toUInt32 >>> ((6 : Int32) &&& 31).toUInt32).toInt32)) + (1 : Int32)), sI (((((hF p1.toNatClampNeg).toUInt32 >>> ((6 : Int32) &&& 31).toUInt32).toInt32) - (((lF p1.toNatClampNeg).toUInt32 >>> ((6 : Int32) &&& 31).toUInt32).toInt32)) + (1 : Int32))] [(.int p3), (.int p2), (.int p1), (.ref o0)])) (fun tZ kZ => ?_) ?_
      · refine XS.aloadN X5.here hx rfl (hb hby d25_79) rfl rfl ?_
        refine XS.iloadN X5.here hx rfl (hb hby d25_80) rfl ?_
        refine XS.iloadN X5.here hx rfl (hb hby d25_81) rfl ?_
        refine XS.iloadN X5.here hx rfl (hb hby d25_82) rfl ?_
        exact kZ
      obtain ⟨cq11, q11, q11'⟩ := ha0.cell
      obtain ⟨_, _, ⟨T11, L11, k11, n11⟩, -, X11, ⟨Lc11, hQ11, l11, y11, z11⟩, st11⟩ := X5.privateBack hx (y := y26) hown (wz hZ hw 158 rfl) (wz hZ hw 159 rfl) (mvT hZ (own_selp (y := y26) (wq hw 159 rfl) (wq hw 160 rfl) (wq hw 2 rfl) (by decide))) (Cond.privateMethod_at (mvP hZ (wq hw 160 rfl) (args := #[]))) (wz hZ hw 161 rfl) (by decide) (backOf (W := 0) (rm26 l Z a0 hw [] o0 p1 p2 p3 bA bF wA nW wF h0 n0 Z0 ha0 ha7 ha8 ha9 hxb hbx hcw.1) hZ (wq hw 161 rfl) (wq hw 3 rfl) (by decide) (by decide)) (g := (mkF m 83 #[sR o0, sI p1, sI p2, sI p3, .unset, sI ((((p3.toUInt32 >>> ((6 : Int32) &&& 31).toUInt32).toInt32) - ((p2.toUInt32 >>> ((6 : Int32) &&& 31).toUInt32).toInt32)) + (1 : Int32)), sI (((((hF p1.toNatClampNeg).toUInt32 >>> ((6 : Int32) &&& 31).toUInt32).toInt32) - (((lF p1.toNatClampNeg).toUInt32 >>> ((6 : Int32) &&& 31).toUInt32).toInt32)) + (1 : Int32))] [(.int p3), (.int p2), (.int p1), (.ref o0)])) rfl (by rw [hml]; rfl) (Steps.refl _) (a := o0) (by rw [e5]; exact q11) q11' (argsL := [(.int p1), (.int p2), (.int p3)]) (rest := []) (lenOf pd_13 rfl) rfl (leW rfl) (hb hby d25_83) (fun _ _ => ⟨rfl, e5, (by decide : 0 + 0 ≤ _), (by decide : 0 + 0 ≤ _)⟩)
      dsimp only [Pt.U, Pt.locs, Pt.cells, Pt.slots] at X11 l11 y11 z11 st11 hQ11
      subst l11 y11 z11
      obtain ⟨rfl, N11q, e11⟩ := hQ11
      have N11 := Fr.app N0 N11q
      refine Go.via (fun t k => st11.trans k) ?_
      refine Vi (T11.setTop (mkF m 131 #[sR o0, sI p1, sI p2, sI p3, sI (f26 o0 p1 p2 p3 bA bF wA nW wF), sI ((((p3.toUInt32 >>> ((6 : Int32) &&& 31).toUInt32).toInt32) - ((p2.toUInt32 >>> ((6 : Int32) &&& 31).toUInt32).toInt32)) + (1 : Int32)), sI (((((hF p1.toNatClampNeg).toUInt32 >>> ((6 : Int32) &&& 31).toUInt32).toInt32) - (((lF p1.toNatClampNeg).toUInt32 >>> ((6 : Int32) &&& 31).toUInt32).toInt32)) + (1 : Int32))] [(.int (f26 o0 p1 p2 p3 bA bF wA nW wF))])) (fun tZ kZ => ?_) ?_
      · refine XS.istore X11.here hx rfl (hb hby d25_86) rfl (l' := #[sR o0, sI p1, sI p2, sI p3, sI (f26 o0 p1 p2 p3 bA bF wA nW wF), sI ((((p3.toUInt32 >>> ((6 : Int32) &&& 31).toUInt32).toInt32) - ((p2.toUInt32 >>> ((6 : Int32) &&& 31).toUInt32).toInt32)) + (1 : Int32)), sI (((((hF p1.toNatClampNeg).toUInt32 >>> ((6 : Int32) &&& 31).toUInt32).toInt32) - (((lF p1.toNatClampNeg).toUInt32 >>> ((6 : Int32) &&& 31).toUInt32).toInt32)) + (1 : Int32))]) rfl ?_
        refine XS.goto X11.here hx rfl (pc0 := 88) (pc' := 129) rfl (hb hby d25_88) (by decide) (by decide) ?_
        refine XS.iload X11.here hx rfl (hb hby d25_129) rfl ?_
        exact kZ
      refine Go.retI X11 hx Bd.notSynchronized Bd.returns (hb hby d25_131) (by decide) (by decide) ?_
      refine ⟨?_, N11, e11⟩
      show some ((.int (f26 o0 p1 p2 p3 bA bF wA nW wF)) : Value) = some (.int (f25 o0 p1 p2 p3 lA lF hA hF sA sF bA bF wA nW wF))
      unfold f25; rw [if_neg hc57, if_neg hc76] <;> rfl
theorem d8_0 : DC B8 0 (.aload_n 0) 1 := by decide +kernel
theorem d8_1 : DC B8 1 (.getfield 60) 3 := by decide +kernel
theorem d8_4 : DC B8 4 (.ireturn) 1 := by decide +kernel
def f8 (o0 : Addr) (tl : Int32) : Int32 := tl
def Q8 (o0 : Addr) (tl : Int32) (h0 : Heap) (n0 : Nat) (v : Option Value) (h : Heap) (L : List Loc) : Prop := v = some (.int (f8 o0 tl)) ∧ Fr n0 L ∧ h = h0
theorem ef_8_a (m : MethodId) (x0 : Addr) : entryFrame m #[(.ref x0)] 1 = mkF m 0 #[.val (.ref x0)] [] := by first | (simp [entryFrame, mkF, argsToLocals, Value.category]; done) | rfl
theorem rm8 (l : Launch) (Z : State) (a0 : Array Value) (hw : HW a0 Z) (ws : List Jvm.Cond) (o0 : Addr) (tl : Int32) (h0 : Heap) (n0 : Nat) (Z0 : n0 ≤ h0.size) (ha0 : Exa Z h0 o0 Dn) (ha1 : Fld Z h0 o0 Dn "trailLength" "I" (.int tl)) :
    MetFree l y8 (head1 (Jvm.Cond.code y8 prog_22_method_14_code 1 (some .int) :: ws) RM_0_0_0_0) (fun a U => a = #[(.ref o0)] ∧ Z.Warmed39 U.vm ∧ U.heap = h0) (fun _ _ _ _ _ => True) (fun _ U o U' => ∃ v L, o = .returned v ∧ Q8 o0 tl h0 n0 v U'.heap L ∧ FrameEnd U o U' L RM_0_0_0_0.cells RM_0_0_0_0.slots) := by
  refine MetFree.of_bodySF (plainFor_of_name pn_2) hisR ?_
  intro p e s m args below meth c s₁ Bd hml0 hP hK
  obtain ⟨rfl, hZ, hh⟩ := hP
  have hx := Bd.exec
  have hby := Bd.bytes
  have hml : c.maxLocals = 1 := hml0
  have hown : s.vm.findClass Dn = some m.cls := findClass_of_methodNamed Bd.named
  have X0 : Stand p l e RM_0_0_0_0 s m _ below meth c s₁ [] 0 0 := Stand.of_body Bd
  have e0 : s₁.heap = h0 := by rw [← hh, Bd.state]; rfl
  have N0 := Fr.nil n0
  refine Go.into (P := fun oo uu => ∃ v L, oo = .returned v ∧ Q8 o0 tl h0 n0 v uu.heap L ∧ FrameEnd s oo uu L RM_0_0_0_0.cells RM_0_0_0_0.slots) (ef_8_a m o0) ?_
  show Go p e below _ (s₁.setTop (mkF m 0 #[sR o0] []))
  refine Vi (s₁.setTop (mkF m 1 #[sR o0] [(.ref o0)])) (fun tZ kZ => ?_) ?_
  · refine XS.aloadN X0.here hx rfl (hb hby d8_0) rfl rfl ?_
    exact kZ
  refine GF X0 hx hZ hown (wq hw 57 rfl) e0 ha1 (hb hby d8_1) fun T1 X1 e1 => ?_
  refine Go.retI X1 hx Bd.notSynchronized Bd.returns (hb hby d8_4) (by decide) (by decide) ?_
  refine ⟨?_, N0, e1⟩
  show some ((.int tl) : Value) = some (.int (f8 o0 tl))
  rfl
theorem d15_0 : DC B15 0 (.aload_n 0) 1 := by decide +kernel
theorem d15_1 : DC B15 1 (.getfield 36) 3 := by decide +kernel
theorem d15_4 : DC B15 4 (.iload_n 1) 1 := by decide +kernel
theorem d15_5 : DC B15 5 (.iaload) 1 := by decide +kernel
theorem d15_6 : DC B15 6 (.ireturn) 1 := by decide +kernel
def f15 (o0 : Addr) (p1 : Int32) (sA : Addr) (sF : Nat → Int32) : Int32 := (sF p1.toNatClampNeg)
def Q15 (o0 : Addr) (p1 : Int32) (sA : Addr) (sF : Nat → Int32) (h0 : Heap) (n0 : Nat) (v : Option Value) (h : Heap) (L : List Loc) : Prop := v = some (.int (f15 o0 p1 sA sF)) ∧ Fr n0 L ∧ h = h0
theorem ef_15_aa (m : MethodId) (x0 : Addr) (x1 : Int32) : entryFrame m #[(.ref x0), (.int x1)] 2 = mkF m 0 #[.val (.ref x0), .val (.int x1)] [] := by first | (simp [entryFrame, mkF, argsToLocals, Value.category]; done) | rfl
theorem rm15 (l : Launch) (Z : State) (a0 : Array Value) (hw : HW a0 Z) (ws : List Jvm.Cond) (o0 : Addr) (p1 : Int32) (sA : Addr) (sF : Nat → Int32) (h0 : Heap) (n0 : Nat) (Z0 : n0 ≤ h0.size) (ha0 : Exa Z h0 o0 Dn) (ha1 : Fld Z h0 o0 Dn "sizes" "[I" (.ref sA)) (ha2 : AV Z h0 sA .int 2 (fun k => .int (sF k))) (hxb : ¬ p1 < 0 ∧ p1.toNatClampNeg < 2) :
    MetFree l y15 (head1 (Jvm.Cond.code y15 prog_22_method_4_code 2 (some .int) :: ws) RM_0_0_0_0) (fun a U => a = #[(.ref o0), (.int p1)] ∧ Z.Warmed39 U.vm ∧ U.heap = h0) (fun _ _ _ _ _ => True) (fun _ U o U' => ∃ v L, o = .returned v ∧ Q15 o0 p1 sA sF h0 n0 v U'.heap L ∧ FrameEnd U o U' L RM_0_0_0_0.cells RM_0_0_0_0.slots) := by
  refine MetFree.of_bodySF (plainFor_of_name pn_2) hisR ?_
  intro p e s m args below meth c s₁ Bd hml0 hP hK
  obtain ⟨rfl, hZ, hh⟩ := hP
  have hx := Bd.exec
  have hby := Bd.bytes
  have hml : c.maxLocals = 2 := hml0
  have hown : s.vm.findClass Dn = some m.cls := findClass_of_methodNamed Bd.named
  have X0 : Stand p l e RM_0_0_0_0 s m _ below meth c s₁ [] 0 0 := Stand.of_body Bd
  have e0 : s₁.heap = h0 := by rw [← hh, Bd.state]; rfl
  have N0 := Fr.nil n0
  refine Go.into (P := fun oo uu => ∃ v L, oo = .returned v ∧ Q15 o0 p1 sA sF h0 n0 v uu.heap L ∧ FrameEnd s oo uu L RM_0_0_0_0.cells RM_0_0_0_0.slots) (ef_15_aa m o0 p1) ?_
  show Go p e below _ (s₁.setTop (mkF m 0 #[sR o0, sI p1] []))
  refine Vi (s₁.setTop (mkF m 1 #[sR o0, sI p1] [(.ref o0)])) (fun tZ kZ => ?_) ?_
  · refine XS.aloadN X0.here hx rfl (hb hby d15_0) rfl rfl ?_
    exact kZ
  refine GF X0 hx hZ hown (wq hw 35 rfl) e0 ha1 (hb hby d15_1) fun T1 X1 e1 => ?_
  refine Vi (T1.setTop (mkF m 6 #[sR o0, sI p1] [(.int (sF p1.toNatClampNeg))])) (fun tZ kZ => ?_) ?_
  · refine XS.iloadN X1.here hx rfl (hb hby d15_4) rfl ?_
    refine AV.iaload ha2 X1 hx hZ e1 (j := p1) hxb (hb hby d15_5) ?_
    exact kZ
  refine Go.retI X1 hx Bd.notSynchronized Bd.returns (hb hby d15_6) (by decide) (by decide) ?_
  refine ⟨?_, N0, e1⟩
  show some ((.int (sF p1.toNatClampNeg)) : Value) = some (.int (f15 o0 p1 sA sF))
  rfl
theorem d16_0 : DC B16 0 (.aload_n 0) 1 := by decide +kernel
theorem d16_1 : DC B16 1 (.getfield 39) 3 := by decide +kernel
theorem d16_4 : DC B16 4 (.iload_n 1) 1 := by decide +kernel
theorem d16_5 : DC B16 5 (.iaload) 1 := by decide +kernel
theorem d16_6 : DC B16 6 (.ireturn) 1 := by decide +kernel
def f16 (o0 : Addr) (p1 : Int32) (lA : Addr) (lF : Nat → Int32) : Int32 := (lF p1.toNatClampNeg)
def Q16 (o0 : Addr) (p1 : Int32) (lA : Addr) (lF : Nat → Int32) (h0 : Heap) (n0 : Nat) (v : Option Value) (h : Heap) (L : List Loc) : Prop := v = some (.int (f16 o0 p1 lA lF)) ∧ Fr n0 L ∧ h = h0
theorem ef_16_aa (m : MethodId) (x0 : Addr) (x1 : Int32) : entryFrame m #[(.ref x0), (.int x1)] 2 = mkF m 0 #[.val (.ref x0), .val (.int x1)] [] := by first | (simp [entryFrame, mkF, argsToLocals, Value.category]; done) | rfl
theorem rm16 (l : Launch) (Z : State) (a0 : Array Value) (hw : HW a0 Z) (ws : List Jvm.Cond) (o0 : Addr) (p1 : Int32) (lA : Addr) (lF : Nat → Int32) (h0 : Heap) (n0 : Nat) (Z0 : n0 ≤ h0.size) (ha0 : Exa Z h0 o0 Dn) (ha1 : Fld Z h0 o0 Dn "low" "[I" (.ref lA)) (ha2 : AV Z h0 lA .int 2 (fun k => .int (lF k))) (hxb : ¬ p1 < 0 ∧ p1.toNatClampNeg < 2) :
    MetFree l y16 (head1 (Jvm.Cond.code y16 prog_22_method_7_code 2 (some .int) :: ws) RM_0_0_0_0) (fun a U => a = #[(.ref o0), (.int p1)] ∧ Z.Warmed39 U.vm ∧ U.heap = h0) (fun _ _ _ _ _ => True) (fun _ U o U' => ∃ v L, o = .returned v ∧ Q16 o0 p1 lA lF h0 n0 v U'.heap L ∧ FrameEnd U o U' L RM_0_0_0_0.cells RM_0_0_0_0.slots) := by
  refine MetFree.of_bodySF (plainFor_of_name pn_2) hisR ?_
  intro p e s m args below meth c s₁ Bd hml0 hP hK
  obtain ⟨rfl, hZ, hh⟩ := hP
  have hx := Bd.exec
  have hby := Bd.bytes
  have hml : c.maxLocals = 2 := hml0
  have hown : s.vm.findClass Dn = some m.cls := findClass_of_methodNamed Bd.named
  have X0 : Stand p l e RM_0_0_0_0 s m _ below meth c s₁ [] 0 0 := Stand.of_body Bd
  have e0 : s₁.heap = h0 := by rw [← hh, Bd.state]; rfl
  have N0 := Fr.nil n0
  refine Go.into (P := fun oo uu => ∃ v L, oo = .returned v ∧ Q16 o0 p1 lA lF h0 n0 v uu.heap L ∧ FrameEnd s oo uu L RM_0_0_0_0.cells RM_0_0_0_0.slots) (ef_16_aa m o0 p1) ?_
  show Go p e below _ (s₁.setTop (mkF m 0 #[sR o0, sI p1] []))
  refine Vi (s₁.setTop (mkF m 1 #[sR o0, sI p1] [(.ref o0)])) (fun tZ kZ => ?_) ?_
  · refine XS.aloadN X0.here hx rfl (hb hby d16_0) rfl rfl ?_
    exact kZ
  refine GF X0 hx hZ hown (wq hw 37 rfl) e0 ha1 (hb hby d16_1) fun T1 X1 e1 => ?_
  refine Vi (T1.setTop (mkF m 6 #[sR o0, sI p1] [(.int (lF p1.toNatClampNeg))])) (fun tZ kZ => ?_) ?_
  · refine XS.iloadN X1.here hx rfl (hb hby d16_4) rfl ?_
    refine AV.iaload ha2 X1 hx hZ e1 (j := p1) hxb (hb hby d16_5) ?_
    exact kZ
  refine Go.retI X1 hx Bd.notSynchronized Bd.returns (hb hby d16_6) (by decide) (by decide) ?_
  refine ⟨?_, N0, e1⟩
  show some ((.int (lF p1.toNatClampNeg)) : Value) = some (.int (f16 o0 p1 lA lF))
  rfl
theorem d17_0 : DC B17 0 (.aload_n 0) 1 := by decide +kernel
theorem d17_1 : DC B17 1 (.getfield 42) 3 := by decide +kernel
theorem d17_4 : DC B17 4 (.iload_n 1) 1 := by decide +kernel
theorem d17_5 : DC B17 5 (.iaload) 1 := by decide +kernel
theorem d17_6 : DC B17 6 (.ireturn) 1 := by decide +kernel
def f17 (o0 : Addr) (p1 : Int32) (hA : Addr) (hF : Nat → Int32) : Int32 := (hF p1.toNatClampNeg)
def Q17 (o0 : Addr) (p1 : Int32) (hA : Addr) (hF : Nat → Int32) (h0 : Heap) (n0 : Nat) (v : Option Value) (h : Heap) (L : List Loc) : Prop := v = some (.int (f17 o0 p1 hA hF)) ∧ Fr n0 L ∧ h = h0
theorem ef_17_aa (m : MethodId) (x0 : Addr) (x1 : Int32) : entryFrame m #[(.ref x0), (.int x1)] 2 = mkF m 0 #[.val (.ref x0), .val (.int x1)] [] := by first | (simp [entryFrame, mkF, argsToLocals, Value.category]; done) | rfl
theorem rm17 (l : Launch) (Z : State) (a0 : Array Value) (hw : HW a0 Z) (ws : List Jvm.Cond) (o0 : Addr) (p1 : Int32) (hA : Addr) (hF : Nat → Int32) (h0 : Heap) (n0 : Nat) (Z0 : n0 ≤ h0.size) (ha0 : Exa Z h0 o0 Dn) (ha1 : Fld Z h0 o0 Dn "high" "[I" (.ref hA)) (ha2 : AV Z h0 hA .int 2 (fun k => .int (hF k))) (hxb : ¬ p1 < 0 ∧ p1.toNatClampNeg < 2) :
    MetFree l y17 (head1 (Jvm.Cond.code y17 prog_22_method_9_code 2 (some .int) :: ws) RM_0_0_0_0) (fun a U => a = #[(.ref o0), (.int p1)] ∧ Z.Warmed39 U.vm ∧ U.heap = h0) (fun _ _ _ _ _ => True) (fun _ U o U' => ∃ v L, o = .returned v ∧ Q17 o0 p1 hA hF h0 n0 v U'.heap L ∧ FrameEnd U o U' L RM_0_0_0_0.cells RM_0_0_0_0.slots) := by
  refine MetFree.of_bodySF (plainFor_of_name pn_2) hisR ?_
  intro p e s m args below meth c s₁ Bd hml0 hP hK
  obtain ⟨rfl, hZ, hh⟩ := hP
  have hx := Bd.exec
  have hby := Bd.bytes
  have hml : c.maxLocals = 2 := hml0
  have hown : s.vm.findClass Dn = some m.cls := findClass_of_methodNamed Bd.named
  have X0 : Stand p l e RM_0_0_0_0 s m _ below meth c s₁ [] 0 0 := Stand.of_body Bd
  have e0 : s₁.heap = h0 := by rw [← hh, Bd.state]; rfl
  have N0 := Fr.nil n0
  refine Go.into (P := fun oo uu => ∃ v L, oo = .returned v ∧ Q17 o0 p1 hA hF h0 n0 v uu.heap L ∧ FrameEnd s oo uu L RM_0_0_0_0.cells RM_0_0_0_0.slots) (ef_17_aa m o0 p1) ?_
  show Go p e below _ (s₁.setTop (mkF m 0 #[sR o0, sI p1] []))
  refine Vi (s₁.setTop (mkF m 1 #[sR o0, sI p1] [(.ref o0)])) (fun tZ kZ => ?_) ?_
  · refine XS.aloadN X0.here hx rfl (hb hby d17_0) rfl rfl ?_
    exact kZ
  refine GF X0 hx hZ hown (wq hw 39 rfl) e0 ha1 (hb hby d17_1) fun T1 X1 e1 => ?_
  refine Vi (T1.setTop (mkF m 6 #[sR o0, sI p1] [(.int (hF p1.toNatClampNeg))])) (fun tZ kZ => ?_) ?_
  · refine XS.iloadN X1.here hx rfl (hb hby d17_4) rfl ?_
    refine AV.iaload ha2 X1 hx hZ e1 (j := p1) hxb (hb hby d17_5) ?_
    exact kZ
  refine Go.retI X1 hx Bd.notSynchronized Bd.returns (hb hby d17_6) (by decide) (by decide) ?_
  refine ⟨?_, N0, e1⟩
  show some ((.int (hF p1.toNatClampNeg)) : Value) = some (.int (f17 o0 p1 hA hF))
  rfl
theorem d22_0 : DC B22 0 (.iconst 1) 1 := by decide +kernel
theorem d22_1 : DC B22 1 (.istore 4) 2 := by decide +kernel
theorem d22_3 : DC B22 3 (.aload_n 0) 1 := by decide +kernel
theorem d22_4 : DC B22 4 (.getfield 67) 3 := by decide +kernel
theorem d22_7 : DC B22 7 (.ifnull 65) 3 := by decide +kernel
theorem d22_72 : DC B22 72 (.aload_n 0) 1 := by decide +kernel
theorem d22_73 : DC B22 73 (.iload_n 1) 1 := by decide +kernel
theorem d22_74 : DC B22 74 (.iload_n 2) 1 := by decide +kernel
theorem d22_75 : DC B22 75 (.invokevirtual 103) 3 := by decide +kernel
theorem d22_78 : DC B22 78 (.istore 5) 2 := by decide +kernel
theorem d22_80 : DC B22 80 (.aload_n 0) 1 := by decide +kernel
theorem d22_81 : DC B22 81 (.iload_n 1) 1 := by decide +kernel
theorem d22_82 : DC B22 82 (.iload_n 3) 1 := by decide +kernel
theorem d22_83 : DC B22 83 (.invokevirtual 110) 3 := by decide +kernel
theorem d22_86 : DC B22 86 (.istore 6) 2 := by decide +kernel
theorem d22_88 : DC B22 88 (.iload 5) 2 := by decide +kernel
theorem d22_100 : DC B22 100 (.aload_n 0) 1 := by decide +kernel
theorem d22_101 : DC B22 101 (.iload_n 1) 1 := by decide +kernel
theorem d22_102 : DC B22 102 (.aload_n 0) 1 := by decide +kernel
theorem d22_103 : DC B22 103 (.getfield 39) 3 := by decide +kernel
theorem d22_106 : DC B22 106 (.iload_n 1) 1 := by decide +kernel
theorem d22_107 : DC B22 107 (.iaload) 1 := by decide +kernel
theorem d22_108 : DC B22 108 (.aload_n 0) 1 := by decide +kernel
theorem d22_109 : DC B22 109 (.getfield 39) 3 := by decide +kernel
theorem d22_112 : DC B22 112 (.iload_n 1) 1 := by decide +kernel
theorem d22_113 : DC B22 113 (.iaload) 1 := by decide +kernel
theorem d22_114 : DC B22 114 (.iconst 1) 1 := by decide +kernel
theorem d22_115 : DC B22 115 (.isub) 1 := by decide +kernel
theorem d22_116 : DC B22 116 (.iconst 0) 1 := by decide +kernel
theorem pd_7 : parseMethodDescriptor "(IIII)V" = some ⟨[.int, .int, .int, .int], none⟩ := by decide +kernel
theorem d22_117 : DC B22 117 (.invokevirtual 106) 3 := by decide +kernel
theorem d22_120 : DC B22 120 (.aload_n 0) 1 := by decide +kernel
theorem d22_121 : DC B22 121 (.iload_n 1) 1 := by decide +kernel
theorem pd_9 : parseMethodDescriptor "(I)V" = some ⟨[.int], none⟩ := by decide +kernel
theorem d22_122 : DC B22 122 (.invokevirtual 117) 3 := by decide +kernel
theorem d22_125 : DC B22 125 (.iconst 0) 1 := by decide +kernel
theorem d22_126 : DC B22 126 (.istore 4) 2 := by decide +kernel
theorem d22_128 : DC B22 128 (.goto 48) 3 := by decide +kernel
theorem d22_176 : DC B22 176 (.iload 4) 2 := by decide +kernel
theorem d22_178 : DC B22 178 (.ireturn) 1 := by decide +kernel
theorem d22_90 : DC B22 90 (.ifCond .lt 10) 3 := by decide +kernel
theorem d22_93 : DC B22 93 (.iload 6) 2 := by decide +kernel
theorem d22_95 : DC B22 95 (.iload 5) 2 := by decide +kernel
theorem d22_97 : DC B22 97 (.if_icmp .ge 34) 3 := by decide +kernel
theorem d22_131 : DC B22 131 (.iload 5) 2 := by decide +kernel
theorem d22_133 : DC B22 133 (.aload_n 0) 1 := by decide +kernel
theorem d22_134 : DC B22 134 (.getfield 39) 3 := by decide +kernel
theorem d22_137 : DC B22 137 (.iload_n 1) 1 := by decide +kernel
theorem d22_138 : DC B22 138 (.iaload) 1 := by decide +kernel
theorem d22_139 : DC B22 139 (.if_icmp .ne 14) 3 := by decide +kernel
theorem d22_142 : DC B22 142 (.iload 6) 2 := by decide +kernel
theorem d22_144 : DC B22 144 (.aload_n 0) 1 := by decide +kernel
theorem d22_145 : DC B22 145 (.getfield 42) 3 := by decide +kernel
theorem d22_148 : DC B22 148 (.iload_n 1) 1 := by decide +kernel
theorem d22_149 : DC B22 149 (.iaload) 1 := by decide +kernel
theorem d22_150 : DC B22 150 (.if_icmp .eq 26) 3 := by decide +kernel
theorem d22_153 : DC B22 153 (.aload_n 0) 1 := by decide +kernel
theorem d22_154 : DC B22 154 (.iload_n 1) 1 := by decide +kernel
theorem d22_155 : DC B22 155 (.iload 5) 2 := by decide +kernel
theorem d22_157 : DC B22 157 (.iload 6) 2 := by decide +kernel
theorem d22_159 : DC B22 159 (.aload_n 0) 1 := by decide +kernel
theorem d22_160 : DC B22 160 (.iload_n 1) 1 := by decide +kernel
theorem d22_161 : DC B22 161 (.iload 5) 2 := by decide +kernel
theorem d22_163 : DC B22 163 (.iload 6) 2 := by decide +kernel
theorem d22_165 : DC B22 165 (.invokevirtual 124) 3 := by decide +kernel
theorem d22_168 : DC B22 168 (.invokevirtual 106) 3 := by decide +kernel
theorem d22_171 : DC B22 171 (.aload_n 0) 1 := by decide +kernel
theorem d22_172 : DC B22 172 (.iload_n 1) 1 := by decide +kernel
theorem d22_173 : DC B22 173 (.invokevirtual 117) 3 := by decide +kernel
def Q22 (Z : State) (o0 : Addr) (p1 : Int32) (p2 : Int32) (p3 : Int32) (tl : Int32) (cc : Int32) (lA : Addr) (hA : Addr) (sA : Addr) (cA : Addr) (chA : Addr) (icA : Addr) (bA : Addr) (tvA : Addr) (twA : Addr) (tsA : Addr) (tzA : Addr) (bF : Nat → Value) (wA : Addr) (nW : Nat) (wF : Nat → Int64) (sF : Nat → Int32) (lF : Nat → Int32) (hF : Nat → Int32) (chF : Nat → Int32) (icF : Nat → Int32) (tvF : Nat → Int32) (twF : Nat → Int32) (tsF : Nat → Int64) (tzF : Nat → Int32) (h0 : Heap) (n0 : Nat) (v : Option Value) (h : Heap) (L : List Loc) : Prop := ∃ lF' : Nat → Int32, ∃ hF' : Nat → Int32, ∃ sF' : Nat → Int32, ∃ chF' : Nat → Int32, ∃ icF' : Nat → Int32, ∃ tvF' : Nat → Int32, ∃ twF' : Nat → Int32, ∃ tsF' : Nat → Int64, ∃ tzF' : Nat → Int32, ∃ tl' : Int32, ∃ cc' : Int32, ∃ r : Int32, v = some (.int r) ∧ Fr n0 L ∧ Keep h0 h [tvA, twA, tsA, tzA, o0, lA, hA, sA, icA, chA] ∧ Exa Z h o0 Dn ∧ Fld Z h o0 Dn "trailLength" "I" (.int tl') ∧ Fld Z h o0 Dn "changedCount" "I" (.int cc') ∧ Obj Z h o0 lA hA sA cA chA icA bA tvA twA tsA tzA ∧ AV Z h bA (.array .long) 2 bF ∧ AV Z h wA .long nW (fun k => .long (wF k)) ∧ AV Z h sA .int 2 (fun k => .int (sF' k)) ∧ AV Z h lA .int 2 (fun k => .int (lF' k)) ∧ AV Z h hA .int 2 (fun k => .int (hF' k)) ∧ AV Z h chA .int 2 (fun k => .int (chF' k)) ∧ AV Z h icA .boolean 2 (fun k => .int (icF' k)) ∧ AV Z h tvA .int 1024 (fun k => .int (tvF' k)) ∧ AV Z h twA .int 1024 (fun k => .int (twF' k)) ∧ AV Z h tsA .long 1024 (fun k => .long (tsF' k)) ∧ AV Z h tzA .int 1024 (fun k => .int (tzF' k)) ∧ (own_R6 p1.toNatClampNeg p1 tl nW lF hF sF wF tvF twF tsF tzF tl' lF' hF' sF' tvF' twF' tsF' tzF' ∧ own_NC icF' cc')
abbrev RM_3_0_0_59 : Room := { frames := 3, cells := 0, slots := 0, locals := 59 }
theorem ef_22_aaaa (m : MethodId) (x0 : Addr) (x1 : Int32) (x2 : Int32) (x3 : Int32) : entryFrame m #[(.ref x0), (.int x1), (.int x2), (.int x3)] 7 = mkF m 0 #[.val (.ref x0), .val (.int x1), .val (.int x2), .val (.int x3), .unset, .unset, .unset] [] := by first | (simp [entryFrame, mkF, argsToLocals, Value.category]; done) | rfl
theorem rm22 (l : Launch) (Z : State) (a0 : Array Value) (hw : HW a0 Z) (ws : List Jvm.Cond) (o0 : Addr) (p1 : Int32) (p2 : Int32) (p3 : Int32) (tl : Int32) (cc : Int32) (lA : Addr) (hA : Addr) (sA : Addr) (cA : Addr) (chA : Addr) (icA : Addr) (bA : Addr) (tvA : Addr) (twA : Addr) (tsA : Addr) (tzA : Addr) (bF : Nat → Value) (wA : Addr) (nW : Nat) (wF : Nat → Int64) (sF : Nat → Int32) (lF : Nat → Int32) (hF : Nat → Int32) (chF : Nat → Int32) (icF : Nat → Int32) (tvF : Nat → Int32) (twF : Nat → Int32) (tsF : Nat → Int64) (tzF : Nat → Int32) (h0 : Heap) (n0 : Nat) (Z0 : n0 ≤ h0.size) (ha0 : Exa Z h0 o0 Dn) (ha1 : Fld Z h0 o0 Dn "trailLength" "I" (.int tl)) (ha2 : Fld Z h0 o0 Dn "changedCount" "I" (.int cc)) (ha3 : Obj Z h0 o0 lA hA sA cA chA icA bA tvA twA tsA tzA) (ha4 : AV Z h0 bA (.array .long) 2 bF) (ha5 : AV Z h0 wA .long nW (fun k => .long (wF k))) (ha6 : AV Z h0 sA .int 2 (fun k => .int (sF k))) (ha7 : AV Z h0 lA .int 2 (fun k => .int (lF k))) (ha8 : AV Z h0 hA .int 2 (fun k => .int (hF k))) (ha9 : AV Z h0 chA .int 2 (fun k => .int (chF k))) (ha10 : AV Z h0 icA .boolean 2 (fun k => .int (icF k))) (ha11 : AV Z h0 tvA .int 1024 (fun k => .int (tvF k))) (ha12 : AV Z h0 twA .int 1024 (fun k => .int (twF k))) (ha13 : AV Z h0 tsA .long 1024 (fun k => .long (tsF k))) (ha14 : AV Z h0 tzA .int 1024 (fun k => .int (tzF k))) (ha15 : n0 ≤ o0) (ha16 : n0 ≤ sA) (ha17 : n0 ≤ lA) (ha18 : n0 ≤ hA) (ha19 : n0 ≤ chA) (ha20 : n0 ≤ icA) (ha21 : n0 ≤ tvA) (ha22 : n0 ≤ twA) (ha23 : n0 ≤ tsA) (ha24 : n0 ≤ tzA) (hne_o0_bA : o0 ≠ bA) (hne_o0_wA : o0 ≠ wA) (hne_o0_sA : o0 ≠ sA) (hne_o0_lA : o0 ≠ lA) (hne_o0_hA : o0 ≠ hA) (hne_o0_chA : o0 ≠ chA) (hne_o0_icA : o0 ≠ icA) (hne_o0_tvA : o0 ≠ tvA) (hne_o0_twA : o0 ≠ twA) (hne_o0_tsA : o0 ≠ tsA) (hne_o0_tzA : o0 ≠ tzA) (hne_bA_wA : bA ≠ wA) (hne_bA_sA : bA ≠ sA) (hne_bA_lA : bA ≠ lA) (hne_bA_hA : bA ≠ hA) (hne_bA_chA : bA ≠ chA) (hne_bA_icA : bA ≠ icA) (hne_bA_tvA : bA ≠ tvA) (hne_bA_twA : bA ≠ twA) (hne_bA_tsA : bA ≠ tsA) (hne_bA_tzA : bA ≠ tzA) (hne_wA_sA : wA ≠ sA) (hne_wA_lA : wA ≠ lA) (hne_wA_hA : wA ≠ hA) (hne_wA_chA : wA ≠ chA) (hne_wA_icA : wA ≠ icA) (hne_wA_tvA : wA ≠ tvA) (hne_wA_twA : wA ≠ twA) (hne_wA_tsA : wA ≠ tsA) (hne_wA_tzA : wA ≠ tzA) (hne_sA_lA : sA ≠ lA) (hne_sA_hA : sA ≠ hA) (hne_sA_chA : sA ≠ chA) (hne_sA_icA : sA ≠ icA) (hne_sA_tvA : sA ≠ tvA) (hne_sA_twA : sA ≠ twA) (hne_sA_tsA : sA ≠ tsA) (hne_sA_tzA : sA ≠ tzA) (hne_lA_hA : lA ≠ hA) (hne_lA_chA : lA ≠ chA) (hne_lA_icA : lA ≠ icA) (hne_lA_tvA : lA ≠ tvA) (hne_lA_twA : lA ≠ twA) (hne_lA_tsA : lA ≠ tsA) (hne_lA_tzA : lA ≠ tzA) (hne_hA_chA : hA ≠ chA) (hne_hA_icA : hA ≠ icA) (hne_hA_tvA : hA ≠ tvA) (hne_hA_twA : hA ≠ twA) (hne_hA_tsA : hA ≠ tsA) (hne_hA_tzA : hA ≠ tzA) (hne_chA_icA : chA ≠ icA) (hne_chA_tvA : chA ≠ tvA) (hne_chA_twA : chA ≠ twA) (hne_chA_tsA : chA ≠ tsA) (hne_chA_tzA : chA ≠ tzA) (hne_icA_tvA : icA ≠ tvA) (hne_icA_twA : icA ≠ twA) (hne_icA_tsA : icA ≠ tsA) (hne_icA_tzA : icA ≠ tzA) (hne_tvA_twA : tvA ≠ twA) (hne_tvA_tsA : tvA ≠ tsA) (hne_tvA_tzA : tvA ≠ tzA) (hne_twA_tsA : twA ≠ tsA) (hne_twA_tzA : twA ≠ tzA) (hne_tsA_tzA : tsA ≠ tzA) (hx1 : p1 = 0 ∨ p1 = 1) (hbx : bF p1.toNatClampNeg = Value.ref wA) (hI : own_BI (lF p1.toNatClampNeg) (hF p1.toNatClampNeg) wF nW) (htl : ¬ tl = (1024 : Int32)) (htb : ¬ tl < 0 ∧ tl.toNatClampNeg < 1024) (hNC : own_NC icF cc) :
    MetFree l y22 (head1 (Jvm.Cond.code y22 prog_22_method_12_code 7 (some .boolean) :: ws) RM_3_0_0_59) (fun a U => a = #[(.ref o0), (.int p1), (.int p2), (.int p3)] ∧ Z.Warmed39 U.vm ∧ U.heap = h0) (fun _ _ _ _ _ => True) (fun _ U o U' => ∃ v L, o = .returned v ∧ Q22 Z o0 p1 p2 p3 tl cc lA hA sA cA chA icA bA tvA twA tsA tzA bF wA nW wF sF lF hF chF icF tvF twF tsF tzF h0 n0 v U'.heap L ∧ FrameEnd U o U' L RM_3_0_0_59.cells RM_3_0_0_59.slots) := by
  refine MetFree.of_bodySF (plainFor_of_name pn_2) hisR ?_
  intro p e s m args below meth c s₁ Bd hml0 hP hK
  obtain ⟨rfl, hZ, hh⟩ := hP
  have hx := Bd.exec
  have hby := Bd.bytes
  have hml : c.maxLocals = 7 := hml0
  have hown : s.vm.findClass Dn = some m.cls := findClass_of_methodNamed Bd.named
  have X0 : Stand p l e RM_3_0_0_59 s m _ below meth c s₁ [] 0 0 := Stand.of_body Bd
  have e0 : s₁.heap = h0 := by rw [← hh, Bd.state]; rfl
  have N0 := Fr.nil n0
  refine Go.into (P := fun oo uu => ∃ v L, oo = .returned v ∧ Q22 Z o0 p1 p2 p3 tl cc lA hA sA cA chA icA bA tvA twA tsA tzA bF wA nW wF sF lF hF chF icF tvF twF tsF tzF h0 n0 v uu.heap L ∧ FrameEnd s oo uu L RM_3_0_0_59.cells RM_3_0_0_59.slots) (ef_22_aaaa m o0 p1 p2 p3) ?_
  show Go p e below _ (s₁.setTop (mkF m 0 #[sR o0, sI p1, sI p2, sI p3, .unset, .unset, .unset] []))
  have hxb := own_xb hx1
  have hB1a : ¬ (hF p1.toNatClampNeg) < (f10 p2 (lF p1.toNatClampNeg)) → ¬ (((f10 p2 (lF p1.toNatClampNeg)).toUInt32 >>> ((6 : Int32) &&& 31).toUInt32).toInt32) < 0 ∧ (((f10 p2 (lF p1.toNatClampNeg)).toUInt32 >>> ((6 : Int32) &&& 31).toUInt32).toInt32).toNatClampNeg < nW := (own_nxB hI (own_m8 _ _)).1
  have hB2a : ¬ (hF p1.toNatClampNeg) < (f10 p2 (lF p1.toNatClampNeg)) → ((wF (((f10 p2 (lF p1.toNatClampNeg)).toUInt32 >>> ((6 : Int32) &&& 31).toUInt32).toInt32).toNatClampNeg) &&& ((-1 : Int64) <<< ((f10 p2 (lF p1.toNatClampNeg)) &&& 0x3f).toInt64)) = (0 : Int64) → ¬ ((((f10 p2 (lF p1.toNatClampNeg)).toUInt32 >>> ((6 : Int32) &&& 31).toUInt32).toInt32) + (1 : Int32)) < 0 ∧ ((((f10 p2 (lF p1.toNatClampNeg)).toUInt32 >>> ((6 : Int32) &&& 31).toUInt32).toInt32) + (1 : Int32)).toNatClampNeg < nW := (own_nxB hI (own_m8 _ _)).2.1
  have hTa : ¬ (hF p1.toNatClampNeg) < (f10 p2 (lF p1.toNatClampNeg)) → ((wF (((f10 p2 (lF p1.toNatClampNeg)).toUInt32 >>> ((6 : Int32) &&& 31).toUInt32).toInt32).toNatClampNeg) &&& ((-1 : Int64) <<< ((f10 p2 (lF p1.toNatClampNeg)) &&& 0x3f).toInt64)) = (0 : Int64) → ¬ (wF ((((f10 p2 (lF p1.toNatClampNeg)).toUInt32 >>> ((6 : Int32) &&& 31).toUInt32).toInt32) + (1 : Int32)).toNatClampNeg) = (0 : Int64) := (own_nxB hI (own_m8 _ _)).2.2.1
  have hB1b : ¬ (f19 p3 (hF p1.toNatClampNeg)) < (lF p1.toNatClampNeg) → ¬ (((f19 p3 (hF p1.toNatClampNeg)).toUInt32 >>> ((6 : Int32) &&& 31).toUInt32).toInt32) < 0 ∧ (((f19 p3 (hF p1.toNatClampNeg)).toUInt32 >>> ((6 : Int32) &&& 31).toUInt32).toInt32).toNatClampNeg < nW := (own_pvB hI (own_m10 _ _)).1
  have hB2b : ¬ (f19 p3 (hF p1.toNatClampNeg)) < (lF p1.toNatClampNeg) → ((wF (((f19 p3 (hF p1.toNatClampNeg)).toUInt32 >>> ((6 : Int32) &&& 31).toUInt32).toInt32).toNatClampNeg) &&& (((-1 : Int64).toUInt64 >>> (((63 : Int32) - ((f19 p3 (hF p1.toNatClampNeg)) &&& (63 : Int32))) &&& 0x3f).toInt64.toUInt64).toInt64)) = (0 : Int64) → ¬ ((((f19 p3 (hF p1.toNatClampNeg)).toUInt32 >>> ((6 : Int32) &&& 31).toUInt32).toInt32) + (-1 : Int32)) < 0 ∧ ((((f19 p3 (hF p1.toNatClampNeg)).toUInt32 >>> ((6 : Int32) &&& 31).toUInt32).toInt32) + (-1 : Int32)).toNatClampNeg < nW := (own_pvB hI (own_m10 _ _)).2.1
  have hTb : ¬ (f19 p3 (hF p1.toNatClampNeg)) < (lF p1.toNatClampNeg) → ((wF (((f19 p3 (hF p1.toNatClampNeg)).toUInt32 >>> ((6 : Int32) &&& 31).toUInt32).toInt32).toNatClampNeg) &&& (((-1 : Int64).toUInt64 >>> (((63 : Int32) - ((f19 p3 (hF p1.toNatClampNeg)) &&& (63 : Int32))) &&& 0x3f).toInt64.toUInt64).toInt64)) = (0 : Int64) → ¬ (wF ((((f19 p3 (hF p1.toNatClampNeg)).toUInt32 >>> ((6 : Int32) &&& 31).toUInt32).toInt32) + (-1 : Int32)).toNatClampNeg) = (0 : Int64) := (own_pvB hI (own_m10 _ _)).2.2.1
  refine Vi (s₁.setTop (mkF m 4 #[sR o0, sI p1, sI p2, sI p3, sI 1, .unset, .unset] [(.ref o0)])) (fun tZ kZ => ?_) ?_
  · refine XS.iconst X0.here hx rfl (hb hby d22_0) ?_
    refine XS.istore X0.here hx rfl (hb hby d22_1) rfl (l' := #[sR o0, sI p1, sI p2, sI p3, sI 1, .unset, .unset]) rfl ?_
    refine XS.aloadN X0.here hx rfl (hb hby d22_3) rfl rfl ?_
    exact kZ
  refine GF X0 hx hZ hown (wq hw 81 rfl) e0 (obj_listener ha3) (hb hby d22_4) fun T1 X1 e1 => ?_
  refine Vi (T1.setTop (mkF m 75 #[sR o0, sI p1, sI p2, sI p3, sI 1, .unset, .unset] [(.int p2), (.int p1), (.ref o0)])) (fun tZ kZ => ?_) ?_
  · refine XS.ifnullYes X1.here hx rfl (pc0 := 7) (pc' := 72) rfl (hb hby d22_7) rfl (by decide) (by decide) ?_
    refine XS.aloadN X1.here hx rfl (hb hby d22_72) rfl rfl ?_
    refine XS.iloadN X1.here hx rfl (hb hby d22_73) rfl ?_
    refine XS.iloadN X1.here hx rfl (hb hby d22_74) rfl ?_
    exact kZ
  obtain ⟨cq2, kq2, q2a, q2b, q2c⟩ := isOf hZ e1 ha0
  obtain ⟨_, _, ⟨T2, L2, k2, n2⟩, -, X2, ⟨Lc2, hQ2, l2, y2, z2⟩, st2⟩ := X1.virtualBack hx (y := y9) (z := y9) hown (wz hZ hw 83 rfl) (wz hZ hw 84 rfl) (notFace_of_selects (args := #[]) (wz hZ hw 86 rfl)) (wz hZ hw 86 rfl) (wz hZ hw 85 rfl) (by decide) (backOf (W := 0) (rm9 l Z a0 hw [] o0 p1 p2 lA lF hA hF bA bF wA nW wF h0 n0 Z0 ha0 (obj_low ha3) ha7 (obj_high ha3) ha8 (obj_bits ha3) ha4 ha5 hxb hbx hB1a hB2a hTa) hZ (wq hw 87 rfl) (wq hw 3 rfl) (by decide) (by decide)) q2a q2c (g := (mkF m 75 #[sR o0, sI p1, sI p2, sI p3, sI 1, .unset, .unset] [(.int p2), (.int p1), (.ref o0)])) rfl (by rw [hml]; rfl) (Steps.refl _) (argsL := [(.int p1), (.int p2)]) (rest := []) (lenOf pd_6 rfl) rfl (leW rfl) (hb hby d22_75) (fun _ _ => ⟨rfl, e1, (by decide : 0 + 0 ≤ _), (by decide : 0 + 0 ≤ _)⟩)
  dsimp only [Pt.U, Pt.locs, Pt.cells, Pt.slots] at X2 l2 y2 z2 st2 hQ2
  subst l2 y2 z2
  obtain ⟨rfl, N2q, e2⟩ := hQ2
  have N2 := Fr.app N0 N2q
  refine Go.via (fun t k => st2.trans k) ?_
  refine Vi (T2.setTop (mkF m 83 #[sR o0, sI p1, sI p2, sI p3, sI 1, sI (f9 o0 p1 p2 lA lF hA hF bA bF wA nW wF), .unset] [(.int p3), (.int p1), (.ref o0)])) (fun tZ kZ => ?_) ?_
  · refine XS.istore X2.here hx rfl (hb hby d22_78) rfl (l' := #[sR o0, sI p1, sI p2, sI p3, sI 1, sI (f9 o0 p1 p2 lA lF hA hF bA bF wA nW wF), .unset]) rfl ?_
    refine XS.aloadN X2.here hx rfl (hb hby d22_80) rfl rfl ?_
    refine XS.iloadN X2.here hx rfl (hb hby d22_81) rfl ?_
    refine XS.iloadN X2.here hx rfl (hb hby d22_82) rfl ?_
    exact kZ
  obtain ⟨cq3, kq3, q3a, q3b, q3c⟩ := isOf hZ e2 ha0
  obtain ⟨_, _, ⟨T3, L3, k3, n3⟩, -, X3, ⟨Lc3, hQ3, l3, y3, z3⟩, st3⟩ := X2.virtualBack hx (y := y18) (z := y18) hown (wz hZ hw 126 rfl) (wz hZ hw 127 rfl) (notFace_of_selects (args := #[]) (wz hZ hw 129 rfl)) (wz hZ hw 129 rfl) (wz hZ hw 128 rfl) (by decide) (backOf (W := 0) (rm18 l Z a0 hw [] o0 p1 p3 lA lF hA hF bA bF wA nW wF h0 n0 Z0 ha0 (obj_low ha3) ha7 (obj_high ha3) ha8 (obj_bits ha3) ha4 ha5 hxb hbx hB1b hB2b hTb) hZ (wq hw 130 rfl) (wq hw 3 rfl) (by decide) (by decide)) q3a q3c (g := (mkF m 83 #[sR o0, sI p1, sI p2, sI p3, sI 1, sI (f9 o0 p1 p2 lA lF hA hF bA bF wA nW wF), .unset] [(.int p3), (.int p1), (.ref o0)])) rfl (by rw [hml]; rfl) (Steps.refl _) (argsL := [(.int p1), (.int p3)]) (rest := []) (lenOf pd_6 rfl) rfl (leW rfl) (hb hby d22_83) (fun _ _ => ⟨rfl, e2, (by decide : 0 + 0 + 0 ≤ _), (by decide : 0 + 0 + 0 ≤ _)⟩)
  dsimp only [Pt.U, Pt.locs, Pt.cells, Pt.slots] at X3 l3 y3 z3 st3 hQ3
  subst l3 y3 z3
  obtain ⟨rfl, N3q, e3⟩ := hQ3
  have N3 := Fr.app N2 N3q
  refine Go.via (fun t k => st3.trans k) ?_
  refine Vi (T3.setTop (mkF m 90 #[sR o0, sI p1, sI p2, sI p3, sI 1, sI (f9 o0 p1 p2 lA lF hA hF bA bF wA nW wF), sI (f18 o0 p1 p3 lA lF hA hF bA bF wA nW wF)] [(.int (f9 o0 p1 p2 lA lF hA hF bA bF wA nW wF))])) (fun tZ kZ => ?_) ?_
  · refine XS.istore X3.here hx rfl (hb hby d22_86) rfl (l' := #[sR o0, sI p1, sI p2, sI p3, sI 1, sI (f9 o0 p1 p2 lA lF hA hF bA bF wA nW wF), sI (f18 o0 p1 p3 lA lF hA hF bA bF wA nW wF)]) rfl ?_
    refine XS.iload X3.here hx rfl (hb hby d22_88) rfl ?_
    exact kZ
  obtain ⟨ff, eff⟩ : ∃ z, z = (f9 o0 p1 p2 lA lF hA hF bA bF wA nW wF) := ⟨_, rfl⟩
  obtain ⟨gg, egg⟩ : ∃ z, z = (f18 o0 p1 p3 lA lF hA hF bA bF wA nW wF) := ⟨_, rfl⟩
  rw [← eff, ← egg]
  refine Go.cut (ff < 0 ∨ gg < ff) (T3.setTop (mkF m 100 #[sR o0, sI p1, sI p2, sI p3, sI 1, sI ff, sI gg] [])) (fun _ => ?_) (fun g100 => ?_)
  · show Go p e below _ (T3.setTop (mkF m 100 #[sR o0, sI p1, sI p2, sI p3, sI 1, sI ff, sI gg] []))
    refine Vi (T3.setTop (mkF m 103 #[sR o0, sI p1, sI p2, sI p3, sI 1, sI ff, sI gg] [(.ref o0), (.int p1), (.ref o0)])) (fun tZ kZ => ?_) ?_
    · refine XS.aloadN X3.here hx rfl (hb hby d22_100) rfl rfl ?_
      refine XS.iloadN X3.here hx rfl (hb hby d22_101) rfl ?_
      refine XS.aloadN X3.here hx rfl (hb hby d22_102) rfl rfl ?_
      exact kZ
    refine GF X3 hx hZ hown (wq hw 37 rfl) e3 (obj_low ha3) (hb hby d22_103) fun T4 X4 e4 => ?_
    refine Vi (T4.setTop (mkF m 109 #[sR o0, sI p1, sI p2, sI p3, sI 1, sI ff, sI gg] [(.ref o0), (.int (lF p1.toNatClampNeg)), (.int p1), (.ref o0)])) (fun tZ kZ => ?_) ?_
    · refine XS.iloadN X4.here hx rfl (hb hby d22_106) rfl ?_
      refine AV.iaload ha7 X4 hx hZ e4 (j := p1) hxb (hb hby d22_107) ?_
      refine XS.aloadN X4.here hx rfl (hb hby d22_108) rfl rfl ?_
      exact kZ
    refine GF X4 hx hZ hown (wq hw 37 rfl) e4 (obj_low ha3) (hb hby d22_109) fun T5 X5 e5 => ?_
    refine Vi (T5.setTop (mkF m 117 #[sR o0, sI p1, sI p2, sI p3, sI 1, sI ff, sI gg] [(.int 0), (.int ((lF p1.toNatClampNeg) - (1 : Int32))), (.int (lF p1.toNatClampNeg)), (.int p1), (.ref o0)])) (fun tZ kZ => ?_) ?_
    · refine XS.iloadN X5.here hx rfl (hb hby d22_112) rfl ?_
      refine AV.iaload ha7 X5 hx hZ e5 (j := p1) hxb (hb hby d22_113) ?_
      refine XS.iconst X5.here hx rfl (hb hby d22_114) ?_
      refine XS.isub X5.here hx rfl (hb hby d22_115) rfl ?_
      refine XS.iconst X5.here hx rfl (hb hby d22_116) ?_
      exact kZ
    obtain ⟨cq6, q6, q6'⟩ := ha0.cell
    obtain ⟨_, _, ⟨T6, L6, k6, n6⟩, -, X6, ⟨Lc6, hQ6, l6, y6, z6⟩, st6⟩ := X5.privateBack hx (y := y11) hown (wz hZ hw 92 rfl) (wz hZ hw 93 rfl) (mvT hZ (own_selp (y := y11) (wq hw 93 rfl) (wq hw 94 rfl) (wq hw 2 rfl) (by decide))) (Cond.privateMethod_at (mvP hZ (wq hw 94 rfl) (args := #[]))) (wz hZ hw 95 rfl) (by decide) (backOf (W := 0) (rm11 l Z a0 hw [] o0 p1 (lF p1.toNatClampNeg) ((lF p1.toNatClampNeg) - (1 : Int32)) (0 : Int32) tl cc lA hA sA cA chA icA bA tvA twA tsA tzA sF lF hF tvF twF tsF tzF h0 n0 Z0 ha0 ha1 ha2 ha3 ha6 ha7 ha8 ha11 ha12 ha13 ha14 ha15 ha16 ha17 ha18 ha21 ha22 ha23 ha24 hne_o0_sA hne_o0_lA hne_o0_hA hne_o0_tvA hne_o0_twA hne_o0_tsA hne_o0_tzA hne_sA_lA hne_sA_hA hne_sA_tvA hne_sA_twA hne_sA_tsA hne_sA_tzA hne_lA_hA hne_lA_tvA hne_lA_twA hne_lA_tsA hne_lA_tzA hne_hA_tvA hne_hA_twA hne_hA_tsA hne_hA_tzA hne_tvA_twA hne_tvA_tsA hne_tvA_tzA hne_twA_tsA hne_twA_tzA hne_tsA_tzA hxb htl htb) hZ (wq hw 95 rfl) (wq hw 3 rfl) (by decide) (by decide)) (g := (mkF m 117 #[sR o0, sI p1, sI p2, sI p3, sI 1, sI ff, sI gg] [(.int 0), (.int ((lF p1.toNatClampNeg) - (1 : Int32))), (.int (lF p1.toNatClampNeg)), (.int p1), (.ref o0)])) rfl (by rw [hml]; rfl) (Steps.refl _) (a := o0) (by rw [e5]; exact q6) q6' (argsL := [(.int p1), (.int (lF p1.toNatClampNeg)), (.int ((lF p1.toNatClampNeg) - (1 : Int32))), (.int 0)]) (rest := []) (lenOf pd_7 rfl) rfl (leW rfl) (hb hby d22_117) (fun _ _ => ⟨rfl, e5, (by decide : 0 + 0 + 0 + 0 ≤ _), (by decide : 0 + 0 + 0 + 0 ≤ _)⟩)
    dsimp only [Pt.U, Pt.locs, Pt.cells, Pt.slots] at X6 l6 y6 z6 st6 hQ6
    subst l6 y6 z6
    obtain ⟨rfl, N6q, Kq6, f6_0, f6_1, f6_2, f6_3, f6_4, f6_5, f6_6, f6_7, f6_8, f6_9, f6_10⟩ := hQ6
    have c7_4 := ha4.keep Kq6 (ninS hne_bA_tvA (ninS hne_bA_twA (ninS hne_bA_tsA (ninS hne_bA_tzA (ninS (Ne.symm hne_o0_bA) (ninS hne_bA_lA (ninS hne_bA_hA (ninS hne_bA_sA nin0))))))))
    have c7_5 := ha5.keep Kq6 (ninS hne_wA_tvA (ninS hne_wA_twA (ninS hne_wA_tsA (ninS hne_wA_tzA (ninS (Ne.symm hne_o0_wA) (ninS hne_wA_lA (ninS hne_wA_hA (ninS hne_wA_sA nin0))))))))
    have c7_9 := ha9.keep Kq6 (ninS hne_chA_tvA (ninS hne_chA_twA (ninS hne_chA_tsA (ninS hne_chA_tzA (ninS (Ne.symm hne_o0_chA) (ninS (Ne.symm hne_lA_chA) (ninS (Ne.symm hne_hA_chA) (ninS (Ne.symm hne_sA_chA) nin0))))))))
    have c7_10 := ha10.keep Kq6 (ninS hne_icA_tvA (ninS hne_icA_twA (ninS hne_icA_tsA (ninS hne_icA_tzA (ninS (Ne.symm hne_o0_icA) (ninS (Ne.symm hne_lA_icA) (ninS (Ne.symm hne_hA_icA) (ninS (Ne.symm hne_sA_icA) nin0))))))))
    have K6 : Keep h0 T6.heap [tvA, twA, tsA, tzA, o0, lA, hA, sA, icA, chA] := (Keep.refl h0 [tvA, twA, tsA, tzA, o0, lA, hA, sA, icA, chA]).trans Kq6 (allS (Or.inl (by simp)) (allS (Or.inl (by simp)) (allS (Or.inl (by simp)) (allS (Or.inl (by simp)) (allS (Or.inl (by simp)) (allS (Or.inl (by simp)) (allS (Or.inl (by simp)) (allS (Or.inl (by simp)) all0))))))))
    have Z6 := Nat.le_trans Z0 Kq6.1
    have N6 := Fr.app N3 N6q
    refine Go.via (fun t k => st6.trans k) ?_
    refine Vi (T6.setTop (mkF m 122 #[sR o0, sI p1, sI p2, sI p3, sI 1, sI ff, sI gg] [(.int p1), (.ref o0)])) (fun tZ kZ => ?_) ?_
    · refine XS.aloadN X6.here hx rfl (hb hby d22_120) rfl rfl ?_
      refine XS.iloadN X6.here hx rfl (hb hby d22_121) rfl ?_
      exact kZ
    obtain ⟨cq8, q8, q8'⟩ := f6_0.cell
    obtain ⟨_, _, ⟨T8, L8, k8, n8⟩, -, X8, ⟨Lc8, hQ8, l8, y8, z8⟩, st8⟩ := X6.privateBack hx (y := y13) hown (wz hZ hw 101 rfl) (wz hZ hw 102 rfl) (mvT hZ (own_selp (y := y13) (wq hw 102 rfl) (wq hw 103 rfl) (wq hw 2 rfl) (by decide))) (Cond.privateMethod_at (mvP hZ (wq hw 103 rfl) (args := #[]))) (wz hZ hw 104 rfl) (by decide) (backOf (W := 0) (rm13 l Z a0 hw [] o0 p1 (tl + (1 : Int32)) cc lA hA sA cA chA icA bA tvA twA tsA tzA chF icF T6.heap n0 Z6 f6_0 f6_1 f6_2 f6_3 c7_9 c7_10 ha15 ha19 ha20 hne_o0_chA hne_o0_icA hne_chA_icA hx1 hNC) hZ (wq hw 104 rfl) (wq hw 3 rfl) (by decide) (by decide)) (g := (mkF m 122 #[sR o0, sI p1, sI p2, sI p3, sI 1, sI ff, sI gg] [(.int p1), (.ref o0)])) rfl (by rw [hml]; rfl) (Steps.refl _) (a := o0) q8 q8' (argsL := [(.int p1)]) (rest := []) (lenOf pd_9 rfl) rfl (leW rfl) (hb hby d22_122) (fun _ _ => ⟨rfl, rfl, (by decide : 0 + 0 + 0 + 0 + 0 ≤ _), (by decide : 0 + 0 + 0 + 0 + 0 ≤ _)⟩)
    dsimp only [Pt.U, Pt.locs, Pt.cells, Pt.slots] at X8 l8 y8 z8 st8 hQ8
    subst l8 y8 z8
    obtain ⟨chF_8, icF_8, cc_8, rr8, rfl, N8q, Kq8, f8_0, f8_1, f8_2, f8_3, f8_4, f8_5, rel8⟩ := hQ8
    have c9_4 := c7_4.keep Kq8 (ninS hne_bA_icA (ninS (Ne.symm hne_o0_bA) (ninS hne_bA_chA nin0)))
    have c9_5 := c7_5.keep Kq8 (ninS hne_wA_icA (ninS (Ne.symm hne_o0_wA) (ninS hne_wA_chA nin0)))
    have c9_6 := f6_4.keep Kq8 (ninS hne_sA_icA (ninS (Ne.symm hne_o0_sA) (ninS hne_sA_chA nin0)))
    have c9_7 := f6_5.keep Kq8 (ninS hne_lA_icA (ninS (Ne.symm hne_o0_lA) (ninS hne_lA_chA nin0)))
    have c9_8 := f6_6.keep Kq8 (ninS hne_hA_icA (ninS (Ne.symm hne_o0_hA) (ninS hne_hA_chA nin0)))
    have c9_11 := f6_7.keep Kq8 (ninS (Ne.symm hne_icA_tvA) (ninS (Ne.symm hne_o0_tvA) (ninS (Ne.symm hne_chA_tvA) nin0)))
    have c9_12 := f6_8.keep Kq8 (ninS (Ne.symm hne_icA_twA) (ninS (Ne.symm hne_o0_twA) (ninS (Ne.symm hne_chA_twA) nin0)))
    have c9_13 := f6_9.keep Kq8 (ninS (Ne.symm hne_icA_tsA) (ninS (Ne.symm hne_o0_tsA) (ninS (Ne.symm hne_chA_tsA) nin0)))
    have c9_14 := f6_10.keep Kq8 (ninS (Ne.symm hne_icA_tzA) (ninS (Ne.symm hne_o0_tzA) (ninS (Ne.symm hne_chA_tzA) nin0)))
    have K8 : Keep h0 T8.heap [tvA, twA, tsA, tzA, o0, lA, hA, sA, icA, chA] := K6.trans Kq8 (allS (Or.inl (by simp)) (allS (Or.inl (by simp)) (allS (Or.inl (by simp)) all0)))
    have Z8 := Nat.le_trans Z6 Kq8.1
    have N8 := Fr.app N6 N8q
    refine Go.via (fun t k => st8.trans k) ?_
    refine Vi (T8.setTop (mkF m 178 #[sR o0, sI p1, sI p2, sI p3, sI 0, sI ff, sI gg] [(.int 0)])) (fun tZ kZ => ?_) ?_
    · refine XS.iconst X8.here hx rfl (hb hby d22_125) ?_
      refine XS.istore X8.here hx rfl (hb hby d22_126) rfl (l' := #[sR o0, sI p1, sI p2, sI p3, sI 0, sI ff, sI gg]) rfl ?_
      refine XS.goto X8.here hx rfl (pc0 := 128) (pc' := 176) rfl (hb hby d22_128) (by decide) (by decide) ?_
      refine XS.iload X8.here hx rfl (hb hby d22_176) rfl ?_
      exact kZ
    refine Go.retN X8 hx Bd.notSynchronized (t := .boolean) Bd.returns (by simp) (hb hby d22_178) (by decide) (by decide) ?_
    exact ⟨((up lF p1.toNatClampNeg (lF p1.toNatClampNeg))), ((up hF p1.toNatClampNeg ((lF p1.toNatClampNeg) - (1 : Int32)))), ((up sF p1.toNatClampNeg (0 : Int32))), (chF_8), (icF_8), ((up tvF tl.toNatClampNeg p1)), ((up twF tl.toNatClampNeg (-1 : Int32))), ((up tsF tl.toNatClampNeg ((((lF p1.toNatClampNeg).toInt64) <<< ((32 : Int32) &&& 0x3f).toInt64) ||| (((hF p1.toNatClampNeg).toInt64) &&& (4294967295 : Int64))))), ((up tzF tl.toNatClampNeg (sF p1.toNatClampNeg))), ((tl + (1 : Int32))), (cc_8), _, rfl, N8, K8, f8_0, f8_1, f8_2, f8_3, c9_4, c9_5, c9_6, c9_7, c9_8, f8_4, f8_5, c9_11, c9_12, c9_13, c9_14, ⟨own_Mb (own_Be hI), rel8⟩⟩
  show Go p e below _ (T3.setTop (mkF m 90 #[sR o0, sI p1, sI p2, sI p3, sI 1, sI ff, sI gg] [(.int ff)]))
  by_cases hc90 : ff < (0 : Int32)
  · refine Vi (T3.setTop (mkF m 100 #[sR o0, sI p1, sI p2, sI p3, sI 1, sI ff, sI gg] [])) (fun tZ kZ => ?_) ?_
    · show Steps p.tables e below (T3.setTop (mkF m 90 #[sR o0, sI p1, sI p2, sI p3, sI 1, sI ff, sI gg] [(.int ff)])) _
      refine XS.ifYes X3.here hx rfl (pc0 := 90) (pc' := 100) rfl (hb hby d22_90) rfl ((if0 _ _).trans (tlt hc90).1) (by decide) (by decide) ?_
      exact kZ
    exact g100 (Or.inl hc90)
  · refine Vi (T3.setTop (mkF m 93 #[sR o0, sI p1, sI p2, sI p3, sI 1, sI ff, sI gg] [])) (fun tZ kZ => ?_) ?_
    · show Steps p.tables e below (T3.setTop (mkF m 90 #[sR o0, sI p1, sI p2, sI p3, sI 1, sI ff, sI gg] [(.int ff)])) _
      refine XS.ifNo X3.here hx rfl (hb hby d22_90) rfl ((if0 _ _).trans (flt hc90).1) ?_
      exact kZ
    refine Vi (T3.setTop (mkF m 97 #[sR o0, sI p1, sI p2, sI p3, sI 1, sI ff, sI gg] [(.int ff), (.int gg)])) (fun tZ kZ => ?_) ?_
    · refine XS.iload X3.here hx rfl (hb hby d22_93) rfl ?_
      refine XS.iload X3.here hx rfl (hb hby d22_95) rfl ?_
      exact kZ
    by_cases hc97 : gg < ff
    · refine Vi (T3.setTop (mkF m 100 #[sR o0, sI p1, sI p2, sI p3, sI 1, sI ff, sI gg] [])) (fun tZ kZ => ?_) ?_
      · show Steps p.tables e below (T3.setTop (mkF m 97 #[sR o0, sI p1, sI p2, sI p3, sI 1, sI ff, sI gg] [(.int ff), (.int gg)])) _
        refine XS.icmpNo X3.here hx rfl (hb hby d22_97) rfl (tlt hc97).2.1 ?_
        exact kZ
      exact g100 (Or.inr hc97)
    · refine Vi (T3.setTop (mkF m 131 #[sR o0, sI p1, sI p2, sI p3, sI 1, sI ff, sI gg] [])) (fun tZ kZ => ?_) ?_
      · show Steps p.tables e below (T3.setTop (mkF m 97 #[sR o0, sI p1, sI p2, sI p3, sI 1, sI ff, sI gg] [(.int ff), (.int gg)])) _
        refine XS.icmpYes X3.here hx rfl (pc0 := 97) (pc' := 131) rfl (hb hby d22_97) rfl (flt hc97).2.1 (by decide) (by decide) ?_
        exact kZ
      refine Vi (T3.setTop (mkF m 134 #[sR o0, sI p1, sI p2, sI p3, sI 1, sI ff, sI gg] [(.ref o0), (.int ff)])) (fun tZ kZ => ?_) ?_
      · refine XS.iload X3.here hx rfl (hb hby d22_131) rfl ?_
        refine XS.aloadN X3.here hx rfl (hb hby d22_133) rfl rfl ?_
        exact kZ
      refine GF X3 hx hZ hown (wq hw 37 rfl) e3 (obj_low ha3) (hb hby d22_134) fun T10 X10 e10 => ?_
      refine Vi (T10.setTop (mkF m 139 #[sR o0, sI p1, sI p2, sI p3, sI 1, sI ff, sI gg] [(.int (lF p1.toNatClampNeg)), (.int ff)])) (fun tZ kZ => ?_) ?_
      · refine XS.iloadN X10.here hx rfl (hb hby d22_137) rfl ?_
        refine AV.iaload ha7 X10 hx hZ e10 (j := p1) hxb (hb hby d22_138) ?_
        exact kZ
      by_cases hc139 : ff = (lF p1.toNatClampNeg)
      · refine Vi (T10.setTop (mkF m 142 #[sR o0, sI p1, sI p2, sI p3, sI 1, sI ff, sI gg] [])) (fun tZ kZ => ?_) ?_
        · show Steps p.tables e below (T10.setTop (mkF m 139 #[sR o0, sI p1, sI p2, sI p3, sI 1, sI ff, sI gg] [(.int (lF p1.toNatClampNeg)), (.int ff)])) _
          refine XS.icmpNo X10.here hx rfl (hb hby d22_139) rfl (teq hc139).2 ?_
          exact kZ
        refine Vi (T10.setTop (mkF m 145 #[sR o0, sI p1, sI p2, sI p3, sI 1, sI ff, sI gg] [(.ref o0), (.int gg)])) (fun tZ kZ => ?_) ?_
        · refine XS.iload X10.here hx rfl (hb hby d22_142) rfl ?_
          refine XS.aloadN X10.here hx rfl (hb hby d22_144) rfl rfl ?_
          exact kZ
        refine GF X10 hx hZ hown (wq hw 39 rfl) e10 (obj_high ha3) (hb hby d22_145) fun T11 X11 e11 => ?_
        refine Vi (T11.setTop (mkF m 150 #[sR o0, sI p1, sI p2, sI p3, sI 1, sI ff, sI gg] [(.int (hF p1.toNatClampNeg)), (.int gg)])) (fun tZ kZ => ?_) ?_
        · refine XS.iloadN X11.here hx rfl (hb hby d22_148) rfl ?_
          refine AV.iaload ha8 X11 hx hZ e11 (j := p1) hxb (hb hby d22_149) ?_
          exact kZ
        by_cases hc150 : gg = (hF p1.toNatClampNeg)
        · refine Vi (T11.setTop (mkF m 176 #[sR o0, sI p1, sI p2, sI p3, sI 1, sI ff, sI gg] [])) (fun tZ kZ => ?_) ?_
          · show Steps p.tables e below (T11.setTop (mkF m 150 #[sR o0, sI p1, sI p2, sI p3, sI 1, sI ff, sI gg] [(.int (hF p1.toNatClampNeg)), (.int gg)])) _
            refine XS.icmpYes X11.here hx rfl (pc0 := 150) (pc' := 176) rfl (hb hby d22_150) rfl (teq hc150).1 (by decide) (by decide) ?_
            exact kZ
          refine Vi (T11.setTop (mkF m 178 #[sR o0, sI p1, sI p2, sI p3, sI 1, sI ff, sI gg] [(.int 1)])) (fun tZ kZ => ?_) ?_
          · refine XS.iload X11.here hx rfl (hb hby d22_176) rfl ?_
            exact kZ
          refine Go.retN X11 hx Bd.notSynchronized (t := .boolean) Bd.returns (by simp) (hb hby d22_178) (by decide) (by decide) ?_
          rw [e11]
          exact ⟨(lF), (hF), (sF), (chF), (icF), (tvF), (twF), (tsF), (tzF), (tl), (cc), _, rfl, N3, (Keep.refl h0 [tvA, twA, tsA, tzA, o0, lA, hA, sA, icA, chA]), ha0, ha1, ha2, ha3, ha4, ha5, ha6, ha7, ha8, ha9, ha10, ha11, ha12, ha13, ha14, ⟨own_M0 hI, hNC⟩⟩
        · refine Vi (T11.setTop (mkF m 153 #[sR o0, sI p1, sI p2, sI p3, sI 1, sI ff, sI gg] [])) (fun tZ kZ => ?_) ?_
          · show Steps p.tables e below (T11.setTop (mkF m 150 #[sR o0, sI p1, sI p2, sI p3, sI 1, sI ff, sI gg] [(.int (hF p1.toNatClampNeg)), (.int gg)])) _
            refine XS.icmpNo X11.here hx rfl (hb hby d22_150) rfl (feq hc150).1 ?_
            exact kZ
          refine Vi (T11.setTop (mkF m 165 #[sR o0, sI p1, sI p2, sI p3, sI 1, sI ff, sI gg] [(.int gg), (.int ff), (.int p1), (.ref o0), (.int gg), (.int ff), (.int p1), (.ref o0)])) (fun tZ kZ => ?_) ?_
          · refine XS.aloadN X11.here hx rfl (hb hby d22_153) rfl rfl ?_
            refine XS.iloadN X11.here hx rfl (hb hby d22_154) rfl ?_
            refine XS.iload X11.here hx rfl (hb hby d22_155) rfl ?_
            refine XS.iload X11.here hx rfl (hb hby d22_157) rfl ?_
            refine XS.aloadN X11.here hx rfl (hb hby d22_159) rfl rfl ?_
            refine XS.iloadN X11.here hx rfl (hb hby d22_160) rfl ?_
            refine XS.iload X11.here hx rfl (hb hby d22_161) rfl ?_
            refine XS.iload X11.here hx rfl (hb hby d22_163) rfl ?_
            exact kZ
          obtain ⟨cq12, q12, q12'⟩ := ha0.cell
          obtain ⟨_, _, ⟨T12, L12, k12, n12⟩, -, X12, ⟨Lc12, hQ12, l12, y12, z12⟩, st12⟩ := X11.privateBack hx (y := y25) hown (wz hZ hw 154 rfl) (wz hZ hw 155 rfl) (mvT hZ (own_selp (y := y25) (wq hw 155 rfl) (wq hw 156 rfl) (wq hw 2 rfl) (by decide))) (Cond.privateMethod_at (mvP hZ (wq hw 156 rfl) (args := #[]))) (wz hZ hw 157 rfl) (by decide) (backOf (W := 4) (rm25 l Z a0 hw [] o0 p1 ff gg lA lF hA hF sA sF bA bF wA nW wF h0 n0 Z0 ha0 (obj_low ha3) ha7 (obj_high ha3) ha8 (obj_sizes ha3) ha6 (obj_bits ha3) ha4 ha5 hxb hbx (by subst eff egg; exact own_cwk hI hc90 hc97)) hZ (wq hw 157 rfl) (wq hw 3 rfl) (by decide) (by decide)) (g := (mkF m 165 #[sR o0, sI p1, sI p2, sI p3, sI 1, sI ff, sI gg] [(.int gg), (.int ff), (.int p1), (.ref o0), (.int gg), (.int ff), (.int p1), (.ref o0)])) rfl (by rw [hml]; rfl) (Steps.refl _) (a := o0) (by rw [e11]; exact q12) q12' (argsL := [(.int p1), (.int ff), (.int gg)]) (rest := [(.int gg), (.int ff), (.int p1), (.ref o0)]) (lenOf pd_13 rfl) rfl (leW rfl) (hb hby d22_165) (fun _ _ => ⟨rfl, e11, (by decide : 0 + 0 + 0 + 0 ≤ _), (by decide : 0 + 0 + 0 + 0 ≤ _)⟩)
          dsimp only [Pt.U, Pt.locs, Pt.cells, Pt.slots] at X12 l12 y12 z12 st12 hQ12
          subst l12 y12 z12
          obtain ⟨rfl, N12q, e12⟩ := hQ12
          have N12 := Fr.app N3 N12q
          refine Go.via (fun t k => st12.trans k) ?_
          obtain ⟨cq13, q13, q13'⟩ := ha0.cell
          obtain ⟨_, _, ⟨T13, L13, k13, n13⟩, -, X13, ⟨Lc13, hQ13, l13, y13, z13⟩, st13⟩ := X12.privateBack hx (y := y11) hown (wz hZ hw 92 rfl) (wz hZ hw 93 rfl) (mvT hZ (own_selp (y := y11) (wq hw 93 rfl) (wq hw 94 rfl) (wq hw 2 rfl) (by decide))) (Cond.privateMethod_at (mvP hZ (wq hw 94 rfl) (args := #[]))) (wz hZ hw 95 rfl) (by decide) (backOf (W := 0) (rm11 l Z a0 hw [] o0 p1 ff gg (f25 o0 p1 ff gg lA lF hA hF sA sF bA bF wA nW wF) tl cc lA hA sA cA chA icA bA tvA twA tsA tzA sF lF hF tvF twF tsF tzF h0 n0 Z0 ha0 ha1 ha2 ha3 ha6 ha7 ha8 ha11 ha12 ha13 ha14 ha15 ha16 ha17 ha18 ha21 ha22 ha23 ha24 hne_o0_sA hne_o0_lA hne_o0_hA hne_o0_tvA hne_o0_twA hne_o0_tsA hne_o0_tzA hne_sA_lA hne_sA_hA hne_sA_tvA hne_sA_twA hne_sA_tsA hne_sA_tzA hne_lA_hA hne_lA_tvA hne_lA_twA hne_lA_tsA hne_lA_tzA hne_hA_tvA hne_hA_twA hne_hA_tsA hne_hA_tzA hne_tvA_twA hne_tvA_tsA hne_tvA_tzA hne_twA_tsA hne_twA_tzA hne_tsA_tzA hxb htl htb) hZ (wq hw 95 rfl) (wq hw 3 rfl) (by decide) (by decide)) (g := (mkF m 168 #[sR o0, sI p1, sI p2, sI p3, sI 1, sI ff, sI gg] [(.int (f25 o0 p1 ff gg lA lF hA hF sA sF bA bF wA nW wF)), (.int gg), (.int ff), (.int p1), (.ref o0)])) rfl (by rw [hml]; rfl) (Steps.refl _) (a := o0) (by rw [e12]; exact q13) q13' (argsL := [(.int p1), (.int ff), (.int gg), (.int (f25 o0 p1 ff gg lA lF hA hF sA sF bA bF wA nW wF))]) (rest := []) (lenOf pd_7 rfl) rfl (leW rfl) (hb hby d22_168) (fun _ _ => ⟨rfl, e12, (by decide : 0 + 0 + 0 + 0 + 0 ≤ _), (by decide : 0 + 0 + 0 + 0 + 0 ≤ _)⟩)
          dsimp only [Pt.U, Pt.locs, Pt.cells, Pt.slots] at X13 l13 y13 z13 st13 hQ13
          subst l13 y13 z13
          obtain ⟨rfl, N13q, Kq13, f13_0, f13_1, f13_2, f13_3, f13_4, f13_5, f13_6, f13_7, f13_8, f13_9, f13_10⟩ := hQ13
          have c14_4 := ha4.keep Kq13 (ninS hne_bA_tvA (ninS hne_bA_twA (ninS hne_bA_tsA (ninS hne_bA_tzA (ninS (Ne.symm hne_o0_bA) (ninS hne_bA_lA (ninS hne_bA_hA (ninS hne_bA_sA nin0))))))))
          have c14_5 := ha5.keep Kq13 (ninS hne_wA_tvA (ninS hne_wA_twA (ninS hne_wA_tsA (ninS hne_wA_tzA (ninS (Ne.symm hne_o0_wA) (ninS hne_wA_lA (ninS hne_wA_hA (ninS hne_wA_sA nin0))))))))
          have c14_9 := ha9.keep Kq13 (ninS hne_chA_tvA (ninS hne_chA_twA (ninS hne_chA_tsA (ninS hne_chA_tzA (ninS (Ne.symm hne_o0_chA) (ninS (Ne.symm hne_lA_chA) (ninS (Ne.symm hne_hA_chA) (ninS (Ne.symm hne_sA_chA) nin0))))))))
          have c14_10 := ha10.keep Kq13 (ninS hne_icA_tvA (ninS hne_icA_twA (ninS hne_icA_tsA (ninS hne_icA_tzA (ninS (Ne.symm hne_o0_icA) (ninS (Ne.symm hne_lA_icA) (ninS (Ne.symm hne_hA_icA) (ninS (Ne.symm hne_sA_icA) nin0))))))))
          have K13 : Keep h0 T13.heap [tvA, twA, tsA, tzA, o0, lA, hA, sA, icA, chA] := (Keep.refl h0 [tvA, twA, tsA, tzA, o0, lA, hA, sA, icA, chA]).trans Kq13 (allS (Or.inl (by simp)) (allS (Or.inl (by simp)) (allS (Or.inl (by simp)) (allS (Or.inl (by simp)) (allS (Or.inl (by simp)) (allS (Or.inl (by simp)) (allS (Or.inl (by simp)) (allS (Or.inl (by simp)) all0))))))))
          have Z13 := Nat.le_trans Z0 Kq13.1
          have N13 := Fr.app N12 N13q
          refine Go.via (fun t k => st13.trans k) ?_
          refine Vi (T13.setTop (mkF m 173 #[sR o0, sI p1, sI p2, sI p3, sI 1, sI ff, sI gg] [(.int p1), (.ref o0)])) (fun tZ kZ => ?_) ?_
          · refine XS.aloadN X13.here hx rfl (hb hby d22_171) rfl rfl ?_
            refine XS.iloadN X13.here hx rfl (hb hby d22_172) rfl ?_
            exact kZ
          obtain ⟨cq15, q15, q15'⟩ := f13_0.cell
          obtain ⟨_, _, ⟨T15, L15, k15, n15⟩, -, X15, ⟨Lc15, hQ15, l15, y15, z15⟩, st15⟩ := X13.privateBack hx (y := y13) hown (wz hZ hw 101 rfl) (wz hZ hw 102 rfl) (mvT hZ (own_selp (y := y13) (wq hw 102 rfl) (wq hw 103 rfl) (wq hw 2 rfl) (by decide))) (Cond.privateMethod_at (mvP hZ (wq hw 103 rfl) (args := #[]))) (wz hZ hw 104 rfl) (by decide) (backOf (W := 0) (rm13 l Z a0 hw [] o0 p1 (tl + (1 : Int32)) cc lA hA sA cA chA icA bA tvA twA tsA tzA chF icF T13.heap n0 Z13 f13_0 f13_1 f13_2 f13_3 c14_9 c14_10 ha15 ha19 ha20 hne_o0_chA hne_o0_icA hne_chA_icA hx1 hNC) hZ (wq hw 104 rfl) (wq hw 3 rfl) (by decide) (by decide)) (g := (mkF m 173 #[sR o0, sI p1, sI p2, sI p3, sI 1, sI ff, sI gg] [(.int p1), (.ref o0)])) rfl (by rw [hml]; rfl) (Steps.refl _) (a := o0) q15 q15' (argsL := [(.int p1)]) (rest := []) (lenOf pd_9 rfl) rfl (leW rfl) (hb hby d22_173) (fun _ _ => ⟨rfl, rfl, (by decide : 0 + 0 + 0 + 0 + 0 + 0 ≤ _), (by decide : 0 + 0 + 0 + 0 + 0 + 0 ≤ _)⟩)
          dsimp only [Pt.U, Pt.locs, Pt.cells, Pt.slots] at X15 l15 y15 z15 st15 hQ15
          subst l15 y15 z15
          obtain ⟨chF_15, icF_15, cc_15, rr15, rfl, N15q, Kq15, f15_0, f15_1, f15_2, f15_3, f15_4, f15_5, rel15⟩ := hQ15
          have c16_4 := c14_4.keep Kq15 (ninS hne_bA_icA (ninS (Ne.symm hne_o0_bA) (ninS hne_bA_chA nin0)))
          have c16_5 := c14_5.keep Kq15 (ninS hne_wA_icA (ninS (Ne.symm hne_o0_wA) (ninS hne_wA_chA nin0)))
          have c16_6 := f13_4.keep Kq15 (ninS hne_sA_icA (ninS (Ne.symm hne_o0_sA) (ninS hne_sA_chA nin0)))
          have c16_7 := f13_5.keep Kq15 (ninS hne_lA_icA (ninS (Ne.symm hne_o0_lA) (ninS hne_lA_chA nin0)))
          have c16_8 := f13_6.keep Kq15 (ninS hne_hA_icA (ninS (Ne.symm hne_o0_hA) (ninS hne_hA_chA nin0)))
          have c16_11 := f13_7.keep Kq15 (ninS (Ne.symm hne_icA_tvA) (ninS (Ne.symm hne_o0_tvA) (ninS (Ne.symm hne_chA_tvA) nin0)))
          have c16_12 := f13_8.keep Kq15 (ninS (Ne.symm hne_icA_twA) (ninS (Ne.symm hne_o0_twA) (ninS (Ne.symm hne_chA_twA) nin0)))
          have c16_13 := f13_9.keep Kq15 (ninS (Ne.symm hne_icA_tsA) (ninS (Ne.symm hne_o0_tsA) (ninS (Ne.symm hne_chA_tsA) nin0)))
          have c16_14 := f13_10.keep Kq15 (ninS (Ne.symm hne_icA_tzA) (ninS (Ne.symm hne_o0_tzA) (ninS (Ne.symm hne_chA_tzA) nin0)))
          have K15 : Keep h0 T15.heap [tvA, twA, tsA, tzA, o0, lA, hA, sA, icA, chA] := K13.trans Kq15 (allS (Or.inl (by simp)) (allS (Or.inl (by simp)) (allS (Or.inl (by simp)) all0)))
          have Z15 := Nat.le_trans Z13 Kq15.1
          have N15 := Fr.app N13 N15q
          refine Go.via (fun t k => st15.trans k) ?_
          refine Vi (T15.setTop (mkF m 178 #[sR o0, sI p1, sI p2, sI p3, sI 1, sI ff, sI gg] [(.int 1)])) (fun tZ kZ => ?_) ?_
          · refine XS.iload X15.here hx rfl (hb hby d22_176) rfl ?_
            exact kZ
          refine Go.retN X15 hx Bd.notSynchronized (t := .boolean) Bd.returns (by simp) (hb hby d22_178) (by decide) (by decide) ?_
          exact ⟨((up lF p1.toNatClampNeg ff)), ((up hF p1.toNatClampNeg gg)), ((up sF p1.toNatClampNeg (f25 o0 p1 ff gg lA lF hA hF sA sF bA bF wA nW wF))), (chF_15), (icF_15), ((up tvF tl.toNatClampNeg p1)), ((up twF tl.toNatClampNeg (-1 : Int32))), ((up tsF tl.toNatClampNeg ((((lF p1.toNatClampNeg).toInt64) <<< ((32 : Int32) &&& 0x3f).toInt64) ||| (((hF p1.toNatClampNeg).toInt64) &&& (4294967295 : Int64))))), ((up tzF tl.toNatClampNeg (sF p1.toNatClampNeg))), ((tl + (1 : Int32))), (cc_15), _, rfl, N15, K15, f15_0, f15_1, f15_2, f15_3, c16_4, c16_5, c16_6, c16_7, c16_8, f15_4, f15_5, c16_11, c16_12, c16_13, c16_14, ⟨own_Mb (by subst eff egg; exact (own_Bk hI hc90 hc97).1), rel15⟩⟩
      · refine Vi (T10.setTop (mkF m 153 #[sR o0, sI p1, sI p2, sI p3, sI 1, sI ff, sI gg] [])) (fun tZ kZ => ?_) ?_
        · show Steps p.tables e below (T10.setTop (mkF m 139 #[sR o0, sI p1, sI p2, sI p3, sI 1, sI ff, sI gg] [(.int (lF p1.toNatClampNeg)), (.int ff)])) _
          refine XS.icmpYes X10.here hx rfl (pc0 := 139) (pc' := 153) rfl (hb hby d22_139) rfl (feq hc139).2 (by decide) (by decide) ?_
          exact kZ
        refine Vi (T10.setTop (mkF m 165 #[sR o0, sI p1, sI p2, sI p3, sI 1, sI ff, sI gg] [(.int gg), (.int ff), (.int p1), (.ref o0), (.int gg), (.int ff), (.int p1), (.ref o0)])) (fun tZ kZ => ?_) ?_
        · refine XS.aloadN X10.here hx rfl (hb hby d22_153) rfl rfl ?_
          refine XS.iloadN X10.here hx rfl (hb hby d22_154) rfl ?_
          refine XS.iload X10.here hx rfl (hb hby d22_155) rfl ?_
          refine XS.iload X10.here hx rfl (hb hby d22_157) rfl ?_
          refine XS.aloadN X10.here hx rfl (hb hby d22_159) rfl rfl ?_
          refine XS.iloadN X10.here hx rfl (hb hby d22_160) rfl ?_
          refine XS.iload X10.here hx rfl (hb hby d22_161) rfl ?_
          refine XS.iload X10.here hx rfl (hb hby d22_163) rfl ?_
          exact kZ
        obtain ⟨cq17, q17, q17'⟩ := ha0.cell
        obtain ⟨_, _, ⟨T17, L17, k17, n17⟩, -, X17, ⟨Lc17, hQ17, l17, y17, z17⟩, st17⟩ := X10.privateBack hx (y := y25) hown (wz hZ hw 154 rfl) (wz hZ hw 155 rfl) (mvT hZ (own_selp (y := y25) (wq hw 155 rfl) (wq hw 156 rfl) (wq hw 2 rfl) (by decide))) (Cond.privateMethod_at (mvP hZ (wq hw 156 rfl) (args := #[]))) (wz hZ hw 157 rfl) (by decide) (backOf (W := 4) (rm25 l Z a0 hw [] o0 p1 ff gg lA lF hA hF sA sF bA bF wA nW wF h0 n0 Z0 ha0 (obj_low ha3) ha7 (obj_high ha3) ha8 (obj_sizes ha3) ha6 (obj_bits ha3) ha4 ha5 hxb hbx (by subst eff egg; exact own_cwk hI hc90 hc97)) hZ (wq hw 157 rfl) (wq hw 3 rfl) (by decide) (by decide)) (g := (mkF m 165 #[sR o0, sI p1, sI p2, sI p3, sI 1, sI ff, sI gg] [(.int gg), (.int ff), (.int p1), (.ref o0), (.int gg), (.int ff), (.int p1), (.ref o0)])) rfl (by rw [hml]; rfl) (Steps.refl _) (a := o0) (by rw [e10]; exact q17) q17' (argsL := [(.int p1), (.int ff), (.int gg)]) (rest := [(.int gg), (.int ff), (.int p1), (.ref o0)]) (lenOf pd_13 rfl) rfl (leW rfl) (hb hby d22_165) (fun _ _ => ⟨rfl, e10, (by decide : 0 + 0 + 0 + 0 ≤ _), (by decide : 0 + 0 + 0 + 0 ≤ _)⟩)
        dsimp only [Pt.U, Pt.locs, Pt.cells, Pt.slots] at X17 l17 y17 z17 st17 hQ17
        subst l17 y17 z17
        obtain ⟨rfl, N17q, e17⟩ := hQ17
        have N17 := Fr.app N3 N17q
        refine Go.via (fun t k => st17.trans k) ?_
        obtain ⟨cq18, q18, q18'⟩ := ha0.cell
        obtain ⟨_, _, ⟨T18, L18, k18, n18⟩, -, X18, ⟨Lc18, hQ18, l18, y18, z18⟩, st18⟩ := X17.privateBack hx (y := y11) hown (wz hZ hw 92 rfl) (wz hZ hw 93 rfl) (mvT hZ (own_selp (y := y11) (wq hw 93 rfl) (wq hw 94 rfl) (wq hw 2 rfl) (by decide))) (Cond.privateMethod_at (mvP hZ (wq hw 94 rfl) (args := #[]))) (wz hZ hw 95 rfl) (by decide) (backOf (W := 0) (rm11 l Z a0 hw [] o0 p1 ff gg (f25 o0 p1 ff gg lA lF hA hF sA sF bA bF wA nW wF) tl cc lA hA sA cA chA icA bA tvA twA tsA tzA sF lF hF tvF twF tsF tzF h0 n0 Z0 ha0 ha1 ha2 ha3 ha6 ha7 ha8 ha11 ha12 ha13 ha14 ha15 ha16 ha17 ha18 ha21 ha22 ha23 ha24 hne_o0_sA hne_o0_lA hne_o0_hA hne_o0_tvA hne_o0_twA hne_o0_tsA hne_o0_tzA hne_sA_lA hne_sA_hA hne_sA_tvA hne_sA_twA hne_sA_tsA hne_sA_tzA hne_lA_hA hne_lA_tvA hne_lA_twA hne_lA_tsA hne_lA_tzA hne_hA_tvA hne_hA_twA hne_hA_tsA hne_hA_tzA hne_tvA_twA hne_tvA_tsA hne_tvA_tzA hne_twA_tsA hne_twA_tzA hne_tsA_tzA hxb htl htb) hZ (wq hw 95 rfl) (wq hw 3 rfl) (by decide) (by decide)) (g := (mkF m 168 #[sR o0, sI p1, sI p2, sI p3, sI 1, sI ff, sI gg] [(.int (f25 o0 p1 ff gg lA lF hA hF sA sF bA bF wA nW wF)), (.int gg), (.int ff), (.int p1), (.ref o0)])) rfl (by rw [hml]; rfl) (Steps.refl _) (a := o0) (by rw [e17]; exact q18) q18' (argsL := [(.int p1), (.int ff), (.int gg), (.int (f25 o0 p1 ff gg lA lF hA hF sA sF bA bF wA nW wF))]) (rest := []) (lenOf pd_7 rfl) rfl (leW rfl) (hb hby d22_168) (fun _ _ => ⟨rfl, e17, (by decide : 0 + 0 + 0 + 0 + 0 ≤ _), (by decide : 0 + 0 + 0 + 0 + 0 ≤ _)⟩)
        dsimp only [Pt.U, Pt.locs, Pt.cells, Pt.slots] at X18 l18 y18 z18 st18 hQ18
        subst l18 y18 z18
        obtain ⟨rfl, N18q, Kq18, f18_0, f18_1, f18_2, f18_3, f18_4, f18_5, f18_6, f18_7, f18_8, f18_9, f18_10⟩ := hQ18
        have c19_4 := ha4.keep Kq18 (ninS hne_bA_tvA (ninS hne_bA_twA (ninS hne_bA_tsA (ninS hne_bA_tzA (ninS (Ne.symm hne_o0_bA) (ninS hne_bA_lA (ninS hne_bA_hA (ninS hne_bA_sA nin0))))))))
        have c19_5 := ha5.keep Kq18 (ninS hne_wA_tvA (ninS hne_wA_twA (ninS hne_wA_tsA (ninS hne_wA_tzA (ninS (Ne.symm hne_o0_wA) (ninS hne_wA_lA (ninS hne_wA_hA (ninS hne_wA_sA nin0))))))))
        have c19_9 := ha9.keep Kq18 (ninS hne_chA_tvA (ninS hne_chA_twA (ninS hne_chA_tsA (ninS hne_chA_tzA (ninS (Ne.symm hne_o0_chA) (ninS (Ne.symm hne_lA_chA) (ninS (Ne.symm hne_hA_chA) (ninS (Ne.symm hne_sA_chA) nin0))))))))
        have c19_10 := ha10.keep Kq18 (ninS hne_icA_tvA (ninS hne_icA_twA (ninS hne_icA_tsA (ninS hne_icA_tzA (ninS (Ne.symm hne_o0_icA) (ninS (Ne.symm hne_lA_icA) (ninS (Ne.symm hne_hA_icA) (ninS (Ne.symm hne_sA_icA) nin0))))))))
        have K18 : Keep h0 T18.heap [tvA, twA, tsA, tzA, o0, lA, hA, sA, icA, chA] := (Keep.refl h0 [tvA, twA, tsA, tzA, o0, lA, hA, sA, icA, chA]).trans Kq18 (allS (Or.inl (by simp)) (allS (Or.inl (by simp)) (allS (Or.inl (by simp)) (allS (Or.inl (by simp)) (allS (Or.inl (by simp)) (allS (Or.inl (by simp)) (allS (Or.inl (by simp)) (allS (Or.inl (by simp)) all0))))))))
        have Z18 := Nat.le_trans Z0 Kq18.1
        have N18 := Fr.app N17 N18q
        refine Go.via (fun t k => st18.trans k) ?_
        refine Vi (T18.setTop (mkF m 173 #[sR o0, sI p1, sI p2, sI p3, sI 1, sI ff, sI gg] [(.int p1), (.ref o0)])) (fun tZ kZ => ?_) ?_
        · refine XS.aloadN X18.here hx rfl (hb hby d22_171) rfl rfl ?_
          refine XS.iloadN X18.here hx rfl (hb hby d22_172) rfl ?_
          exact kZ
        obtain ⟨cq20, q20, q20'⟩ := f18_0.cell
        obtain ⟨_, _, ⟨T20, L20, k20, n20⟩, -, X20, ⟨Lc20, hQ20, l20, y20, z20⟩, st20⟩ := X18.privateBack hx (y := y13) hown (wz hZ hw 101 rfl) (wz hZ hw 102 rfl) (mvT hZ (own_selp (y := y13) (wq hw 102 rfl) (wq hw 103 rfl) (wq hw 2 rfl) (by decide))) (Cond.privateMethod_at (mvP hZ (wq hw 103 rfl) (args := #[]))) (wz hZ hw 104 rfl) (by decide) (backOf (W := 0) (rm13 l Z a0 hw [] o0 p1 (tl + (1 : Int32)) cc lA hA sA cA chA icA bA tvA twA tsA tzA chF icF T18.heap n0 Z18 f18_0 f18_1 f18_2 f18_3 c19_9 c19_10 ha15 ha19 ha20 hne_o0_chA hne_o0_icA hne_chA_icA hx1 hNC) hZ (wq hw 104 rfl) (wq hw 3 rfl) (by decide) (by decide)) (g := (mkF m 173 #[sR o0, sI p1, sI p2, sI p3, sI 1, sI ff, sI gg] [(.int p1), (.ref o0)])) rfl (by rw [hml]; rfl) (Steps.refl _) (a := o0) q20 q20' (argsL := [(.int p1)]) (rest := []) (lenOf pd_9 rfl) rfl (leW rfl) (hb hby d22_173) (fun _ _ => ⟨rfl, rfl, (by decide : 0 + 0 + 0 + 0 + 0 + 0 ≤ _), (by decide : 0 + 0 + 0 + 0 + 0 + 0 ≤ _)⟩)
        dsimp only [Pt.U, Pt.locs, Pt.cells, Pt.slots] at X20 l20 y20 z20 st20 hQ20
        subst l20 y20 z20
        obtain ⟨chF_20, icF_20, cc_20, rr20, rfl, N20q, Kq20, f20_0, f20_1, f20_2, f20_3, f20_4, f20_5, rel20⟩ := hQ20
        have c21_4 := c19_4.keep Kq20 (ninS hne_bA_icA (ninS (Ne.symm hne_o0_bA) (ninS hne_bA_chA nin0)))
        have c21_5 := c19_5.keep Kq20 (ninS hne_wA_icA (ninS (Ne.symm hne_o0_wA) (ninS hne_wA_chA nin0)))
        have c21_6 := f18_4.keep Kq20 (ninS hne_sA_icA (ninS (Ne.symm hne_o0_sA) (ninS hne_sA_chA nin0)))
        have c21_7 := f18_5.keep Kq20 (ninS hne_lA_icA (ninS (Ne.symm hne_o0_lA) (ninS hne_lA_chA nin0)))
        have c21_8 := f18_6.keep Kq20 (ninS hne_hA_icA (ninS (Ne.symm hne_o0_hA) (ninS hne_hA_chA nin0)))
        have c21_11 := f18_7.keep Kq20 (ninS (Ne.symm hne_icA_tvA) (ninS (Ne.symm hne_o0_tvA) (ninS (Ne.symm hne_chA_tvA) nin0)))
        have c21_12 := f18_8.keep Kq20 (ninS (Ne.symm hne_icA_twA) (ninS (Ne.symm hne_o0_twA) (ninS (Ne.symm hne_chA_twA) nin0)))
        have c21_13 := f18_9.keep Kq20 (ninS (Ne.symm hne_icA_tsA) (ninS (Ne.symm hne_o0_tsA) (ninS (Ne.symm hne_chA_tsA) nin0)))
        have c21_14 := f18_10.keep Kq20 (ninS (Ne.symm hne_icA_tzA) (ninS (Ne.symm hne_o0_tzA) (ninS (Ne.symm hne_chA_tzA) nin0)))
        have K20 : Keep h0 T20.heap [tvA, twA, tsA, tzA, o0, lA, hA, sA, icA, chA] := K18.trans Kq20 (allS (Or.inl (by simp)) (allS (Or.inl (by simp)) (allS (Or.inl (by simp)) all0)))
        have Z20 := Nat.le_trans Z18 Kq20.1
        have N20 := Fr.app N18 N20q
        refine Go.via (fun t k => st20.trans k) ?_
        refine Vi (T20.setTop (mkF m 178 #[sR o0, sI p1, sI p2, sI p3, sI 1, sI ff, sI gg] [(.int 1)])) (fun tZ kZ => ?_) ?_
        · refine XS.iload X20.here hx rfl (hb hby d22_176) rfl ?_
          exact kZ
        refine Go.retN X20 hx Bd.notSynchronized (t := .boolean) Bd.returns (by simp) (hb hby d22_178) (by decide) (by decide) ?_
        exact ⟨((up lF p1.toNatClampNeg ff)), ((up hF p1.toNatClampNeg gg)), ((up sF p1.toNatClampNeg (f25 o0 p1 ff gg lA lF hA hF sA sF bA bF wA nW wF))), (chF_20), (icF_20), ((up tvF tl.toNatClampNeg p1)), ((up twF tl.toNatClampNeg (-1 : Int32))), ((up tsF tl.toNatClampNeg ((((lF p1.toNatClampNeg).toInt64) <<< ((32 : Int32) &&& 0x3f).toInt64) ||| (((hF p1.toNatClampNeg).toInt64) &&& (4294967295 : Int64))))), ((up tzF tl.toNatClampNeg (sF p1.toNatClampNeg))), ((tl + (1 : Int32))), (cc_20), _, rfl, N20, K20, f20_0, f20_1, f20_2, f20_3, c21_4, c21_5, c21_6, c21_7, c21_8, f20_4, f20_5, c21_11, c21_12, c21_13, c21_14, ⟨own_Mb (by subst eff egg; exact (own_Bk hI hc90 hc97).1), rel20⟩⟩
theorem d29_0 : DC B29 0 (.aload_n 0) 1 := by decide +kernel
theorem d29_1 : DC B29 1 (.getfield 36) 3 := by decide +kernel
theorem d29_4 : DC B29 4 (.iload_n 1) 1 := by decide +kernel
theorem d29_5 : DC B29 5 (.iaload) 1 := by decide +kernel
theorem d29_6 : DC B29 6 (.iconst 1) 1 := by decide +kernel
theorem d29_7 : DC B29 7 (.if_icmp .le 16) 3 := by decide +kernel
theorem d29_10 : DC B29 10 (.aload_n 0) 1 := by decide +kernel
theorem d29_11 : DC B29 11 (.iload_n 1) 1 := by decide +kernel
theorem d29_12 : DC B29 12 (.iload_n 2) 1 := by decide +kernel
theorem d29_13 : DC B29 13 (.iload_n 2) 1 := by decide +kernel
theorem d29_14 : DC B29 14 (.iconst 1) 1 := by decide +kernel
theorem d29_15 : DC B29 15 (.invokevirtual 106) 3 := by decide +kernel
theorem d29_18 : DC B29 18 (.aload_n 0) 1 := by decide +kernel
theorem d29_19 : DC B29 19 (.iload_n 1) 1 := by decide +kernel
theorem d29_20 : DC B29 20 (.invokevirtual 117) 3 := by decide +kernel
theorem d29_23 : DC B29 23 (.return_) 1 := by decide +kernel
def Q29 (Z : State) (o0 : Addr) (p1 : Int32) (p2 : Int32) (tl : Int32) (cc : Int32) (lA : Addr) (hA : Addr) (sA : Addr) (cA : Addr) (chA : Addr) (icA : Addr) (bA : Addr) (tvA : Addr) (twA : Addr) (tsA : Addr) (tzA : Addr) (bF : Nat → Value) (wA : Addr) (nW : Nat) (wF : Nat → Int64) (sF : Nat → Int32) (lF : Nat → Int32) (hF : Nat → Int32) (chF : Nat → Int32) (icF : Nat → Int32) (tvF : Nat → Int32) (twF : Nat → Int32) (tsF : Nat → Int64) (tzF : Nat → Int32) (h0 : Heap) (n0 : Nat) (v : Option Value) (h : Heap) (L : List Loc) : Prop := ∃ lF' : Nat → Int32, ∃ hF' : Nat → Int32, ∃ sF' : Nat → Int32, ∃ chF' : Nat → Int32, ∃ icF' : Nat → Int32, ∃ tvF' : Nat → Int32, ∃ twF' : Nat → Int32, ∃ tsF' : Nat → Int64, ∃ tzF' : Nat → Int32, ∃ tl' : Int32, ∃ cc' : Int32, ∃ r : Unit, v = none ∧ Fr n0 L ∧ Keep h0 h [tvA, twA, tsA, tzA, o0, lA, hA, sA, icA, chA] ∧ Exa Z h o0 Dn ∧ Fld Z h o0 Dn "trailLength" "I" (.int tl') ∧ Fld Z h o0 Dn "changedCount" "I" (.int cc') ∧ Obj Z h o0 lA hA sA cA chA icA bA tvA twA tsA tzA ∧ AV Z h bA (.array .long) 2 bF ∧ AV Z h wA .long nW (fun k => .long (wF k)) ∧ AV Z h sA .int 2 (fun k => .int (sF' k)) ∧ AV Z h lA .int 2 (fun k => .int (lF' k)) ∧ AV Z h hA .int 2 (fun k => .int (hF' k)) ∧ AV Z h chA .int 2 (fun k => .int (chF' k)) ∧ AV Z h icA .boolean 2 (fun k => .int (icF' k)) ∧ AV Z h tvA .int 1024 (fun k => .int (tvF' k)) ∧ AV Z h twA .int 1024 (fun k => .int (twF' k)) ∧ AV Z h tsA .long 1024 (fun k => .long (tsF' k)) ∧ AV Z h tzA .int 1024 (fun k => .int (tzF' k)) ∧ (own_R6 p1.toNatClampNeg p1 tl nW lF hF sF wF tvF twF tsF tzF tl' lF' hF' sF' tvF' twF' tsF' tzF' ∧ own_NC icF' cc')
abbrev RM_2_0_0_33 : Room := { frames := 2, cells := 0, slots := 0, locals := 33 }
theorem ef_29_aaa (m : MethodId) (x0 : Addr) (x1 : Int32) (x2 : Int32) : entryFrame m #[(.ref x0), (.int x1), (.int x2)] 3 = mkF m 0 #[.val (.ref x0), .val (.int x1), .val (.int x2)] [] := by first | (simp [entryFrame, mkF, argsToLocals, Value.category]; done) | rfl
theorem rm29 (l : Launch) (Z : State) (a0 : Array Value) (hw : HW a0 Z) (ws : List Jvm.Cond) (o0 : Addr) (p1 : Int32) (p2 : Int32) (tl : Int32) (cc : Int32) (lA : Addr) (hA : Addr) (sA : Addr) (cA : Addr) (chA : Addr) (icA : Addr) (bA : Addr) (tvA : Addr) (twA : Addr) (tsA : Addr) (tzA : Addr) (bF : Nat → Value) (wA : Addr) (nW : Nat) (wF : Nat → Int64) (sF : Nat → Int32) (lF : Nat → Int32) (hF : Nat → Int32) (chF : Nat → Int32) (icF : Nat → Int32) (tvF : Nat → Int32) (twF : Nat → Int32) (tsF : Nat → Int64) (tzF : Nat → Int32) (h0 : Heap) (n0 : Nat) (Z0 : n0 ≤ h0.size) (ha0 : Exa Z h0 o0 Dn) (ha1 : Fld Z h0 o0 Dn "trailLength" "I" (.int tl)) (ha2 : Fld Z h0 o0 Dn "changedCount" "I" (.int cc)) (ha3 : Obj Z h0 o0 lA hA sA cA chA icA bA tvA twA tsA tzA) (ha4 : AV Z h0 bA (.array .long) 2 bF) (ha5 : AV Z h0 wA .long nW (fun k => .long (wF k))) (ha6 : AV Z h0 sA .int 2 (fun k => .int (sF k))) (ha7 : AV Z h0 lA .int 2 (fun k => .int (lF k))) (ha8 : AV Z h0 hA .int 2 (fun k => .int (hF k))) (ha9 : AV Z h0 chA .int 2 (fun k => .int (chF k))) (ha10 : AV Z h0 icA .boolean 2 (fun k => .int (icF k))) (ha11 : AV Z h0 tvA .int 1024 (fun k => .int (tvF k))) (ha12 : AV Z h0 twA .int 1024 (fun k => .int (twF k))) (ha13 : AV Z h0 tsA .long 1024 (fun k => .long (tsF k))) (ha14 : AV Z h0 tzA .int 1024 (fun k => .int (tzF k))) (ha15 : n0 ≤ o0) (ha16 : n0 ≤ sA) (ha17 : n0 ≤ lA) (ha18 : n0 ≤ hA) (ha19 : n0 ≤ chA) (ha20 : n0 ≤ icA) (ha21 : n0 ≤ tvA) (ha22 : n0 ≤ twA) (ha23 : n0 ≤ tsA) (ha24 : n0 ≤ tzA) (hne_o0_bA : o0 ≠ bA) (hne_o0_wA : o0 ≠ wA) (hne_o0_sA : o0 ≠ sA) (hne_o0_lA : o0 ≠ lA) (hne_o0_hA : o0 ≠ hA) (hne_o0_chA : o0 ≠ chA) (hne_o0_icA : o0 ≠ icA) (hne_o0_tvA : o0 ≠ tvA) (hne_o0_twA : o0 ≠ twA) (hne_o0_tsA : o0 ≠ tsA) (hne_o0_tzA : o0 ≠ tzA) (hne_bA_wA : bA ≠ wA) (hne_bA_sA : bA ≠ sA) (hne_bA_lA : bA ≠ lA) (hne_bA_hA : bA ≠ hA) (hne_bA_chA : bA ≠ chA) (hne_bA_icA : bA ≠ icA) (hne_bA_tvA : bA ≠ tvA) (hne_bA_twA : bA ≠ twA) (hne_bA_tsA : bA ≠ tsA) (hne_bA_tzA : bA ≠ tzA) (hne_wA_sA : wA ≠ sA) (hne_wA_lA : wA ≠ lA) (hne_wA_hA : wA ≠ hA) (hne_wA_chA : wA ≠ chA) (hne_wA_icA : wA ≠ icA) (hne_wA_tvA : wA ≠ tvA) (hne_wA_twA : wA ≠ twA) (hne_wA_tsA : wA ≠ tsA) (hne_wA_tzA : wA ≠ tzA) (hne_sA_lA : sA ≠ lA) (hne_sA_hA : sA ≠ hA) (hne_sA_chA : sA ≠ chA) (hne_sA_icA : sA ≠ icA) (hne_sA_tvA : sA ≠ tvA) (hne_sA_twA : sA ≠ twA) (hne_sA_tsA : sA ≠ tsA) (hne_sA_tzA : sA ≠ tzA) (hne_lA_hA : lA ≠ hA) (hne_lA_chA : lA ≠ chA) (hne_lA_icA : lA ≠ icA) (hne_lA_tvA : lA ≠ tvA) (hne_lA_twA : lA ≠ twA) (hne_lA_tsA : lA ≠ tsA) (hne_lA_tzA : lA ≠ tzA) (hne_hA_chA : hA ≠ chA) (hne_hA_icA : hA ≠ icA) (hne_hA_tvA : hA ≠ tvA) (hne_hA_twA : hA ≠ twA) (hne_hA_tsA : hA ≠ tsA) (hne_hA_tzA : hA ≠ tzA) (hne_chA_icA : chA ≠ icA) (hne_chA_tvA : chA ≠ tvA) (hne_chA_twA : chA ≠ twA) (hne_chA_tsA : chA ≠ tsA) (hne_chA_tzA : chA ≠ tzA) (hne_icA_tvA : icA ≠ tvA) (hne_icA_twA : icA ≠ twA) (hne_icA_tsA : icA ≠ tsA) (hne_icA_tzA : icA ≠ tzA) (hne_tvA_twA : tvA ≠ twA) (hne_tvA_tsA : tvA ≠ tsA) (hne_tvA_tzA : tvA ≠ tzA) (hne_twA_tsA : twA ≠ tsA) (hne_twA_tzA : twA ≠ tzA) (hne_tsA_tzA : tsA ≠ tzA) (hx1 : p1 = 0 ∨ p1 = 1) (hbx : bF p1.toNatClampNeg = Value.ref wA) (hI : own_BI (lF p1.toNatClampNeg) (hF p1.toNatClampNeg) wF nW) (htl : ¬ tl = (1024 : Int32)) (htb : ¬ tl < 0 ∧ tl.toNatClampNeg < 1024) (hNC : own_NC icF cc) (hca : ¬ own_c (lF p1.toNatClampNeg) (hF p1.toNatClampNeg) wF p2 = 0) :
    MetFree l y29 (head1 (Jvm.Cond.code y29 prog_22_method_13_code 3 none :: ws) RM_2_0_0_33) (fun a U => a = #[(.ref o0), (.int p1), (.int p2)] ∧ Z.Warmed39 U.vm ∧ U.heap = h0) (fun _ _ _ _ _ => True) (fun _ U o U' => ∃ v L, o = .returned v ∧ Q29 Z o0 p1 p2 tl cc lA hA sA cA chA icA bA tvA twA tsA tzA bF wA nW wF sF lF hF chF icF tvF twF tsF tzF h0 n0 v U'.heap L ∧ FrameEnd U o U' L RM_2_0_0_33.cells RM_2_0_0_33.slots) := by
  refine MetFree.of_bodySF (plainFor_of_name pn_2) hisR ?_
  intro p e s m args below meth c s₁ Bd hml0 hP hK
  obtain ⟨rfl, hZ, hh⟩ := hP
  have hx := Bd.exec
  have hby := Bd.bytes
  have hml : c.maxLocals = 3 := hml0
  have hown : s.vm.findClass Dn = some m.cls := findClass_of_methodNamed Bd.named
  have X0 : Stand p l e RM_2_0_0_33 s m _ below meth c s₁ [] 0 0 := Stand.of_body Bd
  have e0 : s₁.heap = h0 := by rw [← hh, Bd.state]; rfl
  have N0 := Fr.nil n0
  refine Go.into (P := fun oo uu => ∃ v L, oo = .returned v ∧ Q29 Z o0 p1 p2 tl cc lA hA sA cA chA icA bA tvA twA tsA tzA bF wA nW wF sF lF hF chF icF tvF twF tsF tzF h0 n0 v uu.heap L ∧ FrameEnd s oo uu L RM_2_0_0_33.cells RM_2_0_0_33.slots) (ef_29_aaa m o0 p1 p2) ?_
  show Go p e below _ (s₁.setTop (mkF m 0 #[sR o0, sI p1, sI p2] []))
  have hxb := own_xb hx1
  refine Vi (s₁.setTop (mkF m 1 #[sR o0, sI p1, sI p2] [(.ref o0)])) (fun tZ kZ => ?_) ?_
  · refine XS.aloadN X0.here hx rfl (hb hby d29_0) rfl rfl ?_
    exact kZ
  refine GF X0 hx hZ hown (wq hw 35 rfl) e0 (obj_sizes ha3) (hb hby d29_1) fun T1 X1 e1 => ?_
  refine Vi (T1.setTop (mkF m 7 #[sR o0, sI p1, sI p2] [(.int 1), (.int (sF p1.toNatClampNeg))])) (fun tZ kZ => ?_) ?_
  · refine XS.iloadN X1.here hx rfl (hb hby d29_4) rfl ?_
    refine AV.iaload ha6 X1 hx hZ e1 (j := p1) hxb (hb hby d29_5) ?_
    refine XS.iconst X1.here hx rfl (hb hby d29_6) ?_
    exact kZ
  by_cases hc7 : (1 : Int32) < (sF p1.toNatClampNeg)
  · refine Vi (T1.setTop (mkF m 10 #[sR o0, sI p1, sI p2] [])) (fun tZ kZ => ?_) ?_
    · show Steps p.tables e below (T1.setTop (mkF m 7 #[sR o0, sI p1, sI p2] [(.int 1), (.int (sF p1.toNatClampNeg))])) _
      refine XS.icmpNo X1.here hx rfl (hb hby d29_7) rfl (tlt hc7).2.2.2 ?_
      exact kZ
    refine Vi (T1.setTop (mkF m 15 #[sR o0, sI p1, sI p2] [(.int 1), (.int p2), (.int p2), (.int p1), (.ref o0)])) (fun tZ kZ => ?_) ?_
    · refine XS.aloadN X1.here hx rfl (hb hby d29_10) rfl rfl ?_
      refine XS.iloadN X1.here hx rfl (hb hby d29_11) rfl ?_
      refine XS.iloadN X1.here hx rfl (hb hby d29_12) rfl ?_
      refine XS.iloadN X1.here hx rfl (hb hby d29_13) rfl ?_
      refine XS.iconst X1.here hx rfl (hb hby d29_14) ?_
      exact kZ
    obtain ⟨cq2, q2, q2'⟩ := ha0.cell
    obtain ⟨_, _, ⟨T2, L2, k2, n2⟩, -, X2, ⟨Lc2, hQ2, l2, y2, z2⟩, st2⟩ := X1.privateBack hx (y := y11) hown (wz hZ hw 92 rfl) (wz hZ hw 93 rfl) (mvT hZ (own_selp (y := y11) (wq hw 93 rfl) (wq hw 94 rfl) (wq hw 2 rfl) (by decide))) (Cond.privateMethod_at (mvP hZ (wq hw 94 rfl) (args := #[]))) (wz hZ hw 95 rfl) (by decide) (backOf (W := 0) (rm11 l Z a0 hw [] o0 p1 p2 p2 (1 : Int32) tl cc lA hA sA cA chA icA bA tvA twA tsA tzA sF lF hF tvF twF tsF tzF h0 n0 Z0 ha0 ha1 ha2 ha3 ha6 ha7 ha8 ha11 ha12 ha13 ha14 ha15 ha16 ha17 ha18 ha21 ha22 ha23 ha24 hne_o0_sA hne_o0_lA hne_o0_hA hne_o0_tvA hne_o0_twA hne_o0_tsA hne_o0_tzA hne_sA_lA hne_sA_hA hne_sA_tvA hne_sA_twA hne_sA_tsA hne_sA_tzA hne_lA_hA hne_lA_tvA hne_lA_twA hne_lA_tsA hne_lA_tzA hne_hA_tvA hne_hA_twA hne_hA_tsA hne_hA_tzA hne_tvA_twA hne_tvA_tsA hne_tvA_tzA hne_twA_tsA hne_twA_tzA hne_tsA_tzA hxb htl htb) hZ (wq hw 95 rfl) (wq hw 3 rfl) (by decide) (by decide)) (g := (mkF m 15 #[sR o0, sI p1, sI p2] [(.int 1), (.int p2), (.int p2), (.int p1), (.ref o0)])) rfl (by rw [hml]; rfl) (Steps.refl _) (a := o0) (by rw [e1]; exact q2) q2' (argsL := [(.int p1), (.int p2), (.int p2), (.int 1)]) (rest := []) (lenOf pd_7 rfl) rfl (leW rfl) (hb hby d29_15) (fun _ _ => ⟨rfl, e1, (by decide : 0 + 0 ≤ _), (by decide : 0 + 0 ≤ _)⟩)
    dsimp only [Pt.U, Pt.locs, Pt.cells, Pt.slots] at X2 l2 y2 z2 st2 hQ2
    subst l2 y2 z2
    obtain ⟨rfl, N2q, Kq2, f2_0, f2_1, f2_2, f2_3, f2_4, f2_5, f2_6, f2_7, f2_8, f2_9, f2_10⟩ := hQ2
    have c3_4 := ha4.keep Kq2 (ninS hne_bA_tvA (ninS hne_bA_twA (ninS hne_bA_tsA (ninS hne_bA_tzA (ninS (Ne.symm hne_o0_bA) (ninS hne_bA_lA (ninS hne_bA_hA (ninS hne_bA_sA nin0))))))))
    have c3_5 := ha5.keep Kq2 (ninS hne_wA_tvA (ninS hne_wA_twA (ninS hne_wA_tsA (ninS hne_wA_tzA (ninS (Ne.symm hne_o0_wA) (ninS hne_wA_lA (ninS hne_wA_hA (ninS hne_wA_sA nin0))))))))
    have c3_9 := ha9.keep Kq2 (ninS hne_chA_tvA (ninS hne_chA_twA (ninS hne_chA_tsA (ninS hne_chA_tzA (ninS (Ne.symm hne_o0_chA) (ninS (Ne.symm hne_lA_chA) (ninS (Ne.symm hne_hA_chA) (ninS (Ne.symm hne_sA_chA) nin0))))))))
    have c3_10 := ha10.keep Kq2 (ninS hne_icA_tvA (ninS hne_icA_twA (ninS hne_icA_tsA (ninS hne_icA_tzA (ninS (Ne.symm hne_o0_icA) (ninS (Ne.symm hne_lA_icA) (ninS (Ne.symm hne_hA_icA) (ninS (Ne.symm hne_sA_icA) nin0))))))))
    have K2 : Keep h0 T2.heap [tvA, twA, tsA, tzA, o0, lA, hA, sA, icA, chA] := (Keep.refl h0 [tvA, twA, tsA, tzA, o0, lA, hA, sA, icA, chA]).trans Kq2 (allS (Or.inl (by simp)) (allS (Or.inl (by simp)) (allS (Or.inl (by simp)) (allS (Or.inl (by simp)) (allS (Or.inl (by simp)) (allS (Or.inl (by simp)) (allS (Or.inl (by simp)) (allS (Or.inl (by simp)) all0))))))))
    have Z2 := Nat.le_trans Z0 Kq2.1
    have N2 := Fr.app N0 N2q
    refine Go.via (fun t k => st2.trans k) ?_
    refine Vi (T2.setTop (mkF m 20 #[sR o0, sI p1, sI p2] [(.int p1), (.ref o0)])) (fun tZ kZ => ?_) ?_
    · refine XS.aloadN X2.here hx rfl (hb hby d29_18) rfl rfl ?_
      refine XS.iloadN X2.here hx rfl (hb hby d29_19) rfl ?_
      exact kZ
    obtain ⟨cq4, q4, q4'⟩ := f2_0.cell
    obtain ⟨_, _, ⟨T4, L4, k4, n4⟩, -, X4, ⟨Lc4, hQ4, l4, y4, z4⟩, st4⟩ := X2.privateBack hx (y := y13) hown (wz hZ hw 101 rfl) (wz hZ hw 102 rfl) (mvT hZ (own_selp (y := y13) (wq hw 102 rfl) (wq hw 103 rfl) (wq hw 2 rfl) (by decide))) (Cond.privateMethod_at (mvP hZ (wq hw 103 rfl) (args := #[]))) (wz hZ hw 104 rfl) (by decide) (backOf (W := 0) (rm13 l Z a0 hw [] o0 p1 (tl + (1 : Int32)) cc lA hA sA cA chA icA bA tvA twA tsA tzA chF icF T2.heap n0 Z2 f2_0 f2_1 f2_2 f2_3 c3_9 c3_10 ha15 ha19 ha20 hne_o0_chA hne_o0_icA hne_chA_icA hx1 hNC) hZ (wq hw 104 rfl) (wq hw 3 rfl) (by decide) (by decide)) (g := (mkF m 20 #[sR o0, sI p1, sI p2] [(.int p1), (.ref o0)])) rfl (by rw [hml]; rfl) (Steps.refl _) (a := o0) q4 q4' (argsL := [(.int p1)]) (rest := []) (lenOf pd_9 rfl) rfl (leW rfl) (hb hby d29_20) (fun _ _ => ⟨rfl, rfl, (by decide : 0 + 0 + 0 ≤ _), (by decide : 0 + 0 + 0 ≤ _)⟩)
    dsimp only [Pt.U, Pt.locs, Pt.cells, Pt.slots] at X4 l4 y4 z4 st4 hQ4
    subst l4 y4 z4
    obtain ⟨chF_4, icF_4, cc_4, rr4, rfl, N4q, Kq4, f4_0, f4_1, f4_2, f4_3, f4_4, f4_5, rel4⟩ := hQ4
    have c5_4 := c3_4.keep Kq4 (ninS hne_bA_icA (ninS (Ne.symm hne_o0_bA) (ninS hne_bA_chA nin0)))
    have c5_5 := c3_5.keep Kq4 (ninS hne_wA_icA (ninS (Ne.symm hne_o0_wA) (ninS hne_wA_chA nin0)))
    have c5_6 := f2_4.keep Kq4 (ninS hne_sA_icA (ninS (Ne.symm hne_o0_sA) (ninS hne_sA_chA nin0)))
    have c5_7 := f2_5.keep Kq4 (ninS hne_lA_icA (ninS (Ne.symm hne_o0_lA) (ninS hne_lA_chA nin0)))
    have c5_8 := f2_6.keep Kq4 (ninS hne_hA_icA (ninS (Ne.symm hne_o0_hA) (ninS hne_hA_chA nin0)))
    have c5_11 := f2_7.keep Kq4 (ninS (Ne.symm hne_icA_tvA) (ninS (Ne.symm hne_o0_tvA) (ninS (Ne.symm hne_chA_tvA) nin0)))
    have c5_12 := f2_8.keep Kq4 (ninS (Ne.symm hne_icA_twA) (ninS (Ne.symm hne_o0_twA) (ninS (Ne.symm hne_chA_twA) nin0)))
    have c5_13 := f2_9.keep Kq4 (ninS (Ne.symm hne_icA_tsA) (ninS (Ne.symm hne_o0_tsA) (ninS (Ne.symm hne_chA_tsA) nin0)))
    have c5_14 := f2_10.keep Kq4 (ninS (Ne.symm hne_icA_tzA) (ninS (Ne.symm hne_o0_tzA) (ninS (Ne.symm hne_chA_tzA) nin0)))
    have K4 : Keep h0 T4.heap [tvA, twA, tsA, tzA, o0, lA, hA, sA, icA, chA] := K2.trans Kq4 (allS (Or.inl (by simp)) (allS (Or.inl (by simp)) (allS (Or.inl (by simp)) all0)))
    have Z4 := Nat.le_trans Z2 Kq4.1
    have N4 := Fr.app N2 N4q
    refine Go.via (fun t k => st4.trans k) ?_
    refine Go.retV X4 hx Bd.notSynchronized Bd.returns (hb hby d29_23) (by decide) (by decide) ?_
    exact ⟨((up lF p1.toNatClampNeg p2)), ((up hF p1.toNatClampNeg p2)), ((up sF p1.toNatClampNeg (1 : Int32))), (chF_4), (icF_4), ((up tvF tl.toNatClampNeg p1)), ((up twF tl.toNatClampNeg (-1 : Int32))), ((up tsF tl.toNatClampNeg ((((lF p1.toNatClampNeg).toInt64) <<< ((32 : Int32) &&& 0x3f).toInt64) ||| (((hF p1.toNatClampNeg).toInt64) &&& (4294967295 : Int64))))), ((up tzF tl.toNatClampNeg (sF p1.toNatClampNeg))), ((tl + (1 : Int32))), (cc_4), (), rfl, N4, K4, f4_0, f4_1, f4_2, f4_3, c5_4, c5_5, c5_6, c5_7, c5_8, f4_4, f4_5, c5_11, c5_12, c5_13, c5_14, ⟨own_Mb (own_Ba hI hca), rel4⟩⟩
  · refine Vi (T1.setTop (mkF m 23 #[sR o0, sI p1, sI p2] [])) (fun tZ kZ => ?_) ?_
    · show Steps p.tables e below (T1.setTop (mkF m 7 #[sR o0, sI p1, sI p2] [(.int 1), (.int (sF p1.toNatClampNeg))])) _
      refine XS.icmpYes X1.here hx rfl (pc0 := 7) (pc' := 23) rfl (hb hby d29_7) rfl (flt hc7).2.2.2 (by decide) (by decide) ?_
      exact kZ
    refine Go.retV X1 hx Bd.notSynchronized Bd.returns (hb hby d29_23) (by decide) (by decide) ?_
    rw [e1]
    exact ⟨(lF), (hF), (sF), (chF), (icF), (tvF), (twF), (tsF), (tzF), (tl), (cc), (), rfl, N0, (Keep.refl h0 [tvA, twA, tsA, tzA, o0, lA, hA, sA, icA, chA]), ha0, ha1, ha2, ha3, ha4, ha5, ha6, ha7, ha8, ha9, ha10, ha11, ha12, ha13, ha14, ⟨own_M0 hI, hNC⟩⟩
theorem own_in2 {a lo hi : Int32} {w : Nat → Int64} {nW : Nat} (I : own_BI lo hi w nW) (h : ¬ own_c lo hi w a = 0) : ¬ a < lo ∧ ¬ hi < a := by
  obtain ⟨i1, i2, -⟩ := own_inB I h
  simp only [Int32.lt_iff_toInt_lt]; omega
theorem d6_0 : DC B6 0 (.aload_n 0) 1 := by decide +kernel
theorem d6_1 : DC B6 1 (.iload_n 1) 1 := by decide +kernel
theorem d6_2 : DC B6 2 (.iload_n 2) 1 := by decide +kernel
theorem pd_4 : parseMethodDescriptor "(II)Z" = some ⟨[.int, .int], some .boolean⟩ := by decide +kernel
theorem d6_3 : DC B6 3 (.invokevirtual 93) 3 := by decide +kernel
theorem d6_6 : DC B6 6 (.ifCond .ne 5) 3 := by decide +kernel
theorem d6_9 : DC B6 9 (.iconst 1) 1 := by decide +kernel
theorem d6_10 : DC B6 10 (.ireturn) 1 := by decide +kernel
theorem d6_11 : DC B6 11 (.aload_n 0) 1 := by decide +kernel
theorem d6_12 : DC B6 12 (.getfield 67) 3 := by decide +kernel
theorem d6_15 : DC B6 15 (.ifnull 14) 3 := by decide +kernel
theorem d6_29 : DC B6 29 (.aload_n 0) 1 := by decide +kernel
theorem d6_30 : DC B6 30 (.getfield 36) 3 := by decide +kernel
theorem d6_33 : DC B6 33 (.iload_n 1) 1 := by decide +kernel
theorem d6_34 : DC B6 34 (.iaload) 1 := by decide +kernel
theorem d6_35 : DC B6 35 (.iconst 1) 1 := by decide +kernel
theorem d6_36 : DC B6 36 (.isub) 1 := by decide +kernel
theorem d6_37 : DC B6 37 (.istore_n 3) 1 := by decide +kernel
theorem d6_38 : DC B6 38 (.iload_n 2) 1 := by decide +kernel
theorem d6_39 : DC B6 39 (.aload_n 0) 1 := by decide +kernel
theorem d6_40 : DC B6 40 (.getfield 39) 3 := by decide +kernel
theorem d6_43 : DC B6 43 (.iload_n 1) 1 := by decide +kernel
theorem d6_44 : DC B6 44 (.iaload) 1 := by decide +kernel
theorem d6_45 : DC B6 45 (.if_icmp .ne 41) 3 := by decide +kernel
theorem d6_48 : DC B6 48 (.aload_n 0) 1 := by decide +kernel
theorem d6_49 : DC B6 49 (.iload_n 1) 1 := by decide +kernel
theorem d6_50 : DC B6 50 (.iload_n 2) 1 := by decide +kernel
theorem d6_51 : DC B6 51 (.iconst 1) 1 := by decide +kernel
theorem d6_52 : DC B6 52 (.iadd) 1 := by decide +kernel
theorem d6_53 : DC B6 53 (.invokevirtual 103) 3 := by decide +kernel
theorem d6_56 : DC B6 56 (.istore 4) 2 := by decide +kernel
theorem d6_58 : DC B6 58 (.aload_n 0) 1 := by decide +kernel
theorem d6_59 : DC B6 59 (.iload_n 1) 1 := by decide +kernel
theorem d6_60 : DC B6 60 (.iload 4) 2 := by decide +kernel
theorem d6_62 : DC B6 62 (.ifCond .ge 9) 3 := by decide +kernel
theorem d6_65 : DC B6 65 (.iload_n 2) 1 := by decide +kernel
theorem d6_66 : DC B6 66 (.iconst 1) 1 := by decide +kernel
theorem d6_67 : DC B6 67 (.iadd) 1 := by decide +kernel
theorem d6_68 : DC B6 68 (.goto 5) 3 := by decide +kernel
theorem d6_71 : DC B6 71 (.iload 4) 2 := by decide +kernel
theorem d6_73 : DC B6 73 (.aload_n 0) 1 := by decide +kernel
theorem d6_74 : DC B6 74 (.getfield 42) 3 := by decide +kernel
theorem d6_77 : DC B6 77 (.iload_n 1) 1 := by decide +kernel
theorem d6_78 : DC B6 78 (.iaload) 1 := by decide +kernel
theorem d6_79 : DC B6 79 (.iload_n 3) 1 := by decide +kernel
theorem d6_80 : DC B6 80 (.invokevirtual 106) 3 := by decide +kernel
theorem d6_83 : DC B6 83 (.goto 84) 3 := by decide +kernel
theorem d6_167 : DC B6 167 (.aload_n 0) 1 := by decide +kernel
theorem d6_168 : DC B6 168 (.iload_n 1) 1 := by decide +kernel
theorem d6_169 : DC B6 169 (.invokevirtual 117) 3 := by decide +kernel
theorem d6_172 : DC B6 172 (.iload_n 3) 1 := by decide +kernel
theorem d6_173 : DC B6 173 (.ifCond .le 7) 3 := by decide +kernel
theorem d6_176 : DC B6 176 (.iconst 1) 1 := by decide +kernel
theorem d6_177 : DC B6 177 (.goto 4) 3 := by decide +kernel
theorem d6_180 : DC B6 180 (.iconst 0) 1 := by decide +kernel
theorem d6_181 : DC B6 181 (.ireturn) 1 := by decide +kernel
theorem d6_86 : DC B6 86 (.iload_n 2) 1 := by decide +kernel
theorem d6_87 : DC B6 87 (.aload_n 0) 1 := by decide +kernel
theorem d6_88 : DC B6 88 (.getfield 42) 3 := by decide +kernel
theorem d6_91 : DC B6 91 (.iload_n 1) 1 := by decide +kernel
theorem d6_92 : DC B6 92 (.iaload) 1 := by decide +kernel
theorem d6_93 : DC B6 93 (.if_icmp .ne 26) 3 := by decide +kernel
theorem d6_96 : DC B6 96 (.aload_n 0) 1 := by decide +kernel
theorem d6_97 : DC B6 97 (.iload_n 1) 1 := by decide +kernel
theorem d6_98 : DC B6 98 (.aload_n 0) 1 := by decide +kernel
theorem d6_99 : DC B6 99 (.getfield 39) 3 := by decide +kernel
theorem d6_102 : DC B6 102 (.iload_n 1) 1 := by decide +kernel
theorem d6_103 : DC B6 103 (.iaload) 1 := by decide +kernel
theorem d6_104 : DC B6 104 (.aload_n 0) 1 := by decide +kernel
theorem d6_105 : DC B6 105 (.iload_n 1) 1 := by decide +kernel
theorem d6_106 : DC B6 106 (.iload_n 2) 1 := by decide +kernel
theorem d6_107 : DC B6 107 (.iconst 1) 1 := by decide +kernel
theorem d6_108 : DC B6 108 (.isub) 1 := by decide +kernel
theorem d6_109 : DC B6 109 (.invokevirtual 110) 3 := by decide +kernel
theorem d6_112 : DC B6 112 (.iload_n 3) 1 := by decide +kernel
theorem d6_113 : DC B6 113 (.invokevirtual 106) 3 := by decide +kernel
theorem d6_116 : DC B6 116 (.goto 51) 3 := by decide +kernel
theorem d6_119 : DC B6 119 (.aload_n 0) 1 := by decide +kernel
theorem d6_120 : DC B6 120 (.iload_n 1) 1 := by decide +kernel
theorem d6_121 : DC B6 121 (.iload_n 2) 1 := by decide +kernel
theorem d6_122 : DC B6 122 (.bipush 6) 2 := by decide +kernel
theorem d6_124 : DC B6 124 (.iushr) 1 := by decide +kernel
theorem d6_125 : DC B6 125 (.aload_n 0) 1 := by decide +kernel
theorem d6_126 : DC B6 126 (.getfield 32) 3 := by decide +kernel
theorem d6_129 : DC B6 129 (.iload_n 1) 1 := by decide +kernel
theorem d6_130 : DC B6 130 (.aaload) 1 := by decide +kernel
theorem d6_131 : DC B6 131 (.iload_n 2) 1 := by decide +kernel
theorem d6_132 : DC B6 132 (.bipush 6) 2 := by decide +kernel
theorem d6_134 : DC B6 134 (.iushr) 1 := by decide +kernel
theorem d6_135 : DC B6 135 (.laload) 1 := by decide +kernel
theorem d6_136 : DC B6 136 (.invokevirtual 113) 3 := by decide +kernel
theorem d6_139 : DC B6 139 (.aload_n 0) 1 := by decide +kernel
theorem d6_140 : DC B6 140 (.getfield 32) 3 := by decide +kernel
theorem d6_143 : DC B6 143 (.iload_n 1) 1 := by decide +kernel
theorem d6_144 : DC B6 144 (.aaload) 1 := by decide +kernel
theorem d6_145 : DC B6 145 (.iload_n 2) 1 := by decide +kernel
theorem d6_146 : DC B6 146 (.bipush 6) 2 := by decide +kernel
theorem d6_148 : DC B6 148 (.iushr) 1 := by decide +kernel
theorem d6_149 : DC B6 149 (.dup2) 1 := by decide +kernel
theorem d6_150 : DC B6 150 (.laload) 1 := by decide +kernel
theorem d6_151 : DC B6 151 (.lconst 1) 1 := by decide +kernel
theorem d6_152 : DC B6 152 (.iload_n 2) 1 := by decide +kernel
theorem d6_153 : DC B6 153 (.lshl) 1 := by decide +kernel
theorem d6_154 : DC B6 154 (.ldc2_w 52) 3 := by decide +kernel
theorem d6_157 : DC B6 157 (.lxor) 1 := by decide +kernel
theorem d6_158 : DC B6 158 (.land) 1 := by decide +kernel
theorem d6_159 : DC B6 159 (.lastore) 1 := by decide +kernel
theorem d6_160 : DC B6 160 (.aload_n 0) 1 := by decide +kernel
theorem d6_161 : DC B6 161 (.getfield 36) 3 := by decide +kernel
theorem d6_164 : DC B6 164 (.iload_n 1) 1 := by decide +kernel
theorem d6_165 : DC B6 165 (.iload_n 3) 1 := by decide +kernel
theorem d6_166 : DC B6 166 (.iastore) 1 := by decide +kernel
def Q6 (Z : State) (o0 : Addr) (p1 : Int32) (p2 : Int32) (tl : Int32) (cc : Int32) (lA : Addr) (hA : Addr) (sA : Addr) (cA : Addr) (chA : Addr) (icA : Addr) (bA : Addr) (tvA : Addr) (twA : Addr) (tsA : Addr) (tzA : Addr) (bF : Nat → Value) (wA : Addr) (nW : Nat) (wF : Nat → Int64) (sF : Nat → Int32) (lF : Nat → Int32) (hF : Nat → Int32) (chF : Nat → Int32) (icF : Nat → Int32) (tvF : Nat → Int32) (twF : Nat → Int32) (tsF : Nat → Int64) (tzF : Nat → Int32) (h0 : Heap) (n0 : Nat) (v : Option Value) (h : Heap) (L : List Loc) : Prop := ∃ lF' : Nat → Int32, ∃ hF' : Nat → Int32, ∃ sF' : Nat → Int32, ∃ chF' : Nat → Int32, ∃ icF' : Nat → Int32, ∃ tvF' : Nat → Int32, ∃ twF' : Nat → Int32, ∃ tsF' : Nat → Int64, ∃ tzF' : Nat → Int32, ∃ tl' : Int32, ∃ cc' : Int32, ∃ wF' : Nat → Int64, ∃ r : Int32, v = some (.int r) ∧ Fr n0 L ∧ Keep h0 h [tvA, twA, tsA, tzA, o0, lA, hA, sA, icA, chA, wA] ∧ Exa Z h o0 Dn ∧ Fld Z h o0 Dn "trailLength" "I" (.int tl') ∧ Fld Z h o0 Dn "changedCount" "I" (.int cc') ∧ Obj Z h o0 lA hA sA cA chA icA bA tvA twA tsA tzA ∧ AV Z h bA (.array .long) 2 bF ∧ AV Z h wA .long nW (fun k => .long (wF' k)) ∧ AV Z h sA .int 2 (fun k => .int (sF' k)) ∧ AV Z h lA .int 2 (fun k => .int (lF' k)) ∧ AV Z h hA .int 2 (fun k => .int (hF' k)) ∧ AV Z h chA .int 2 (fun k => .int (chF' k)) ∧ AV Z h icA .boolean 2 (fun k => .int (icF' k)) ∧ AV Z h tvA .int 1024 (fun k => .int (tvF' k)) ∧ AV Z h twA .int 1024 (fun k => .int (twF' k)) ∧ AV Z h tsA .long 1024 (fun k => .long (tsF' k)) ∧ AV Z h tzA .int 1024 (fun k => .int (tzF' k)) ∧ (own_R14 p1.toNatClampNeg p1 p2 tl nW lF hF sF wF tvF twF tsF tzF tl' lF' hF' sF' wF' tvF' twF' tsF' tzF' ∧ own_NC icF' cc')
abbrev RM_3_0_0_50 : Room := { frames := 3, cells := 0, slots := 0, locals := 50 }
theorem ef_6_aaa (m : MethodId) (x0 : Addr) (x1 : Int32) (x2 : Int32) : entryFrame m #[(.ref x0), (.int x1), (.int x2)] 5 = mkF m 0 #[.val (.ref x0), .val (.int x1), .val (.int x2), .unset, .unset] [] := by first | (simp [entryFrame, mkF, argsToLocals, Value.category]; done) | rfl
theorem rm6 (l : Launch) (Z : State) (a0 : Array Value) (hw : HW a0 Z) (ws : List Jvm.Cond) (o0 : Addr) (p1 : Int32) (p2 : Int32) (tl : Int32) (cc : Int32) (lA : Addr) (hA : Addr) (sA : Addr) (cA : Addr) (chA : Addr) (icA : Addr) (bA : Addr) (tvA : Addr) (twA : Addr) (tsA : Addr) (tzA : Addr) (bF : Nat → Value) (wA : Addr) (nW : Nat) (wF : Nat → Int64) (sF : Nat → Int32) (lF : Nat → Int32) (hF : Nat → Int32) (chF : Nat → Int32) (icF : Nat → Int32) (tvF : Nat → Int32) (twF : Nat → Int32) (tsF : Nat → Int64) (tzF : Nat → Int32) (h0 : Heap) (n0 : Nat) (Z0 : n0 ≤ h0.size) (ha0 : Exa Z h0 o0 Dn) (ha1 : Fld Z h0 o0 Dn "trailLength" "I" (.int tl)) (ha2 : Fld Z h0 o0 Dn "changedCount" "I" (.int cc)) (ha3 : Obj Z h0 o0 lA hA sA cA chA icA bA tvA twA tsA tzA) (ha4 : AV Z h0 bA (.array .long) 2 bF) (ha5 : AV Z h0 wA .long nW (fun k => .long (wF k))) (ha6 : AV Z h0 sA .int 2 (fun k => .int (sF k))) (ha7 : AV Z h0 lA .int 2 (fun k => .int (lF k))) (ha8 : AV Z h0 hA .int 2 (fun k => .int (hF k))) (ha9 : AV Z h0 chA .int 2 (fun k => .int (chF k))) (ha10 : AV Z h0 icA .boolean 2 (fun k => .int (icF k))) (ha11 : AV Z h0 tvA .int 1024 (fun k => .int (tvF k))) (ha12 : AV Z h0 twA .int 1024 (fun k => .int (twF k))) (ha13 : AV Z h0 tsA .long 1024 (fun k => .long (tsF k))) (ha14 : AV Z h0 tzA .int 1024 (fun k => .int (tzF k))) (ha15 : n0 ≤ o0) (ha16 : n0 ≤ wA) (ha17 : n0 ≤ sA) (ha18 : n0 ≤ lA) (ha19 : n0 ≤ hA) (ha20 : n0 ≤ chA) (ha21 : n0 ≤ icA) (ha22 : n0 ≤ tvA) (ha23 : n0 ≤ twA) (ha24 : n0 ≤ tsA) (ha25 : n0 ≤ tzA) (hne_o0_bA : o0 ≠ bA) (hne_o0_wA : o0 ≠ wA) (hne_o0_sA : o0 ≠ sA) (hne_o0_lA : o0 ≠ lA) (hne_o0_hA : o0 ≠ hA) (hne_o0_chA : o0 ≠ chA) (hne_o0_icA : o0 ≠ icA) (hne_o0_tvA : o0 ≠ tvA) (hne_o0_twA : o0 ≠ twA) (hne_o0_tsA : o0 ≠ tsA) (hne_o0_tzA : o0 ≠ tzA) (hne_bA_wA : bA ≠ wA) (hne_bA_sA : bA ≠ sA) (hne_bA_lA : bA ≠ lA) (hne_bA_hA : bA ≠ hA) (hne_bA_chA : bA ≠ chA) (hne_bA_icA : bA ≠ icA) (hne_bA_tvA : bA ≠ tvA) (hne_bA_twA : bA ≠ twA) (hne_bA_tsA : bA ≠ tsA) (hne_bA_tzA : bA ≠ tzA) (hne_wA_sA : wA ≠ sA) (hne_wA_lA : wA ≠ lA) (hne_wA_hA : wA ≠ hA) (hne_wA_chA : wA ≠ chA) (hne_wA_icA : wA ≠ icA) (hne_wA_tvA : wA ≠ tvA) (hne_wA_twA : wA ≠ twA) (hne_wA_tsA : wA ≠ tsA) (hne_wA_tzA : wA ≠ tzA) (hne_sA_lA : sA ≠ lA) (hne_sA_hA : sA ≠ hA) (hne_sA_chA : sA ≠ chA) (hne_sA_icA : sA ≠ icA) (hne_sA_tvA : sA ≠ tvA) (hne_sA_twA : sA ≠ twA) (hne_sA_tsA : sA ≠ tsA) (hne_sA_tzA : sA ≠ tzA) (hne_lA_hA : lA ≠ hA) (hne_lA_chA : lA ≠ chA) (hne_lA_icA : lA ≠ icA) (hne_lA_tvA : lA ≠ tvA) (hne_lA_twA : lA ≠ twA) (hne_lA_tsA : lA ≠ tsA) (hne_lA_tzA : lA ≠ tzA) (hne_hA_chA : hA ≠ chA) (hne_hA_icA : hA ≠ icA) (hne_hA_tvA : hA ≠ tvA) (hne_hA_twA : hA ≠ twA) (hne_hA_tsA : hA ≠ tsA) (hne_hA_tzA : hA ≠ tzA) (hne_chA_icA : chA ≠ icA) (hne_chA_tvA : chA ≠ tvA) (hne_chA_twA : chA ≠ twA) (hne_chA_tsA : chA ≠ tsA) (hne_chA_tzA : chA ≠ tzA) (hne_icA_tvA : icA ≠ tvA) (hne_icA_twA : icA ≠ twA) (hne_icA_tsA : icA ≠ tsA) (hne_icA_tzA : icA ≠ tzA) (hne_tvA_twA : tvA ≠ twA) (hne_tvA_tsA : tvA ≠ tsA) (hne_tvA_tzA : tvA ≠ tzA) (hne_twA_tsA : twA ≠ tsA) (hne_twA_tzA : twA ≠ tzA) (hne_tsA_tzA : tsA ≠ tzA) (hx1 : p1 = 0 ∨ p1 = 1) (hbx : bF p1.toNatClampNeg = Value.ref wA) (hI : own_BI (lF p1.toNatClampNeg) (hF p1.toNatClampNeg) wF nW) (htl : ¬ tl = (1024 : Int32)) (htb : ¬ tl < 0 ∧ tl.toNatClampNeg < 1024) (hNC : own_NC icF cc) :
    MetFree l y6 (head1 (Jvm.Cond.code y6 prog_22_method_11_code 5 (some .boolean) :: ws) RM_3_0_0_50) (fun a U => a = #[(.ref o0), (.int p1), (.int p2)] ∧ Z.Warmed39 U.vm ∧ U.heap = h0) (fun _ _ _ _ _ => True) (fun _ U o U' => ∃ v L, o = .returned v ∧ Q6 Z o0 p1 p2 tl cc lA hA sA cA chA icA bA tvA twA tsA tzA bF wA nW wF sF lF hF chF icF tvF twF tsF tzF h0 n0 v U'.heap L ∧ FrameEnd U o U' L RM_3_0_0_50.cells RM_3_0_0_50.slots) := by
  refine MetFree.of_bodySF (plainFor_of_name pn_2) hisR ?_
  intro p e s m args below meth c s₁ Bd hml0 hP hK
  obtain ⟨rfl, hZ, hh⟩ := hP
  have hx := Bd.exec
  have hby := Bd.bytes
  have hml : c.maxLocals = 5 := hml0
  have hown : s.vm.findClass Dn = some m.cls := findClass_of_methodNamed Bd.named
  have X0 : Stand p l e RM_3_0_0_50 s m _ below meth c s₁ [] 0 0 := Stand.of_body Bd
  have e0 : s₁.heap = h0 := by rw [← hh, Bd.state]; rfl
  have N0 := Fr.nil n0
  refine Go.into (P := fun oo uu => ∃ v L, oo = .returned v ∧ Q6 Z o0 p1 p2 tl cc lA hA sA cA chA icA bA tvA twA tsA tzA bF wA nW wF sF lF hF chF icF tvF twF tsF tzF h0 n0 v uu.heap L ∧ FrameEnd s oo uu L RM_3_0_0_50.cells RM_3_0_0_50.slots) (ef_6_aaa m o0 p1 p2) ?_
  show Go p e below _ (s₁.setTop (mkF m 0 #[sR o0, sI p1, sI p2, .unset, .unset] []))
  have hxb := own_xb hx1
  have hB1a : ¬ (hF p1.toNatClampNeg) < (f10 (p2 + (1 : Int32)) (lF p1.toNatClampNeg)) → ¬ (((f10 (p2 + (1 : Int32)) (lF p1.toNatClampNeg)).toUInt32 >>> ((6 : Int32) &&& 31).toUInt32).toInt32) < 0 ∧ (((f10 (p2 + (1 : Int32)) (lF p1.toNatClampNeg)).toUInt32 >>> ((6 : Int32) &&& 31).toUInt32).toInt32).toNatClampNeg < nW := (own_nxB hI (own_m8 _ _)).1
  have hB2a : ¬ (hF p1.toNatClampNeg) < (f10 (p2 + (1 : Int32)) (lF p1.toNatClampNeg)) → ((wF (((f10 (p2 + (1 : Int32)) (lF p1.toNatClampNeg)).toUInt32 >>> ((6 : Int32) &&& 31).toUInt32).toInt32).toNatClampNeg) &&& ((-1 : Int64) <<< ((f10 (p2 + (1 : Int32)) (lF p1.toNatClampNeg)) &&& 0x3f).toInt64)) = (0 : Int64) → ¬ ((((f10 (p2 + (1 : Int32)) (lF p1.toNatClampNeg)).toUInt32 >>> ((6 : Int32) &&& 31).toUInt32).toInt32) + (1 : Int32)) < 0 ∧ ((((f10 (p2 + (1 : Int32)) (lF p1.toNatClampNeg)).toUInt32 >>> ((6 : Int32) &&& 31).toUInt32).toInt32) + (1 : Int32)).toNatClampNeg < nW := (own_nxB hI (own_m8 _ _)).2.1
  have hTa : ¬ (hF p1.toNatClampNeg) < (f10 (p2 + (1 : Int32)) (lF p1.toNatClampNeg)) → ((wF (((f10 (p2 + (1 : Int32)) (lF p1.toNatClampNeg)).toUInt32 >>> ((6 : Int32) &&& 31).toUInt32).toInt32).toNatClampNeg) &&& ((-1 : Int64) <<< ((f10 (p2 + (1 : Int32)) (lF p1.toNatClampNeg)) &&& 0x3f).toInt64)) = (0 : Int64) → ¬ (wF ((((f10 (p2 + (1 : Int32)) (lF p1.toNatClampNeg)).toUInt32 >>> ((6 : Int32) &&& 31).toUInt32).toInt32) + (1 : Int32)).toNatClampNeg) = (0 : Int64) := (own_nxB hI (own_m8 _ _)).2.2.1
  have hB1b : ¬ (f19 (p2 - (1 : Int32)) (hF p1.toNatClampNeg)) < (lF p1.toNatClampNeg) → ¬ (((f19 (p2 - (1 : Int32)) (hF p1.toNatClampNeg)).toUInt32 >>> ((6 : Int32) &&& 31).toUInt32).toInt32) < 0 ∧ (((f19 (p2 - (1 : Int32)) (hF p1.toNatClampNeg)).toUInt32 >>> ((6 : Int32) &&& 31).toUInt32).toInt32).toNatClampNeg < nW := (own_pvB hI (own_m10 _ _)).1
  have hB2b : ¬ (f19 (p2 - (1 : Int32)) (hF p1.toNatClampNeg)) < (lF p1.toNatClampNeg) → ((wF (((f19 (p2 - (1 : Int32)) (hF p1.toNatClampNeg)).toUInt32 >>> ((6 : Int32) &&& 31).toUInt32).toInt32).toNatClampNeg) &&& (((-1 : Int64).toUInt64 >>> (((63 : Int32) - ((f19 (p2 - (1 : Int32)) (hF p1.toNatClampNeg)) &&& (63 : Int32))) &&& 0x3f).toInt64.toUInt64).toInt64)) = (0 : Int64) → ¬ ((((f19 (p2 - (1 : Int32)) (hF p1.toNatClampNeg)).toUInt32 >>> ((6 : Int32) &&& 31).toUInt32).toInt32) + (-1 : Int32)) < 0 ∧ ((((f19 (p2 - (1 : Int32)) (hF p1.toNatClampNeg)).toUInt32 >>> ((6 : Int32) &&& 31).toUInt32).toInt32) + (-1 : Int32)).toNatClampNeg < nW := (own_pvB hI (own_m10 _ _)).2.1
  have hTb : ¬ (f19 (p2 - (1 : Int32)) (hF p1.toNatClampNeg)) < (lF p1.toNatClampNeg) → ((wF (((f19 (p2 - (1 : Int32)) (hF p1.toNatClampNeg)).toUInt32 >>> ((6 : Int32) &&& 31).toUInt32).toInt32).toNatClampNeg) &&& (((-1 : Int64).toUInt64 >>> (((63 : Int32) - ((f19 (p2 - (1 : Int32)) (hF p1.toNatClampNeg)) &&& (63 : Int32))) &&& 0x3f).toInt64.toUInt64).toInt64)) = (0 : Int64) → ¬ (wF ((((f19 (p2 - (1 : Int32)) (hF p1.toNatClampNeg)).toUInt32 >>> ((6 : Int32) &&& 31).toUInt32).toInt32) + (-1 : Int32)).toNatClampNeg) = (0 : Int64) := (own_pvB hI (own_m10 _ _)).2.2.1
  have hB : ¬ p2 < (lF p1.toNatClampNeg) → ¬ (hF p1.toNatClampNeg) < p2 → ¬ ((p2.toUInt32 >>> ((6 : Int32) &&& 31).toUInt32).toInt32) < 0 ∧ ((p2.toUInt32 >>> ((6 : Int32) &&& 31).toUInt32).toInt32).toNatClampNeg < nW := hI.B p2
  refine Vi (s₁.setTop (mkF m 3 #[sR o0, sI p1, sI p2, .unset, .unset] [(.int p2), (.int p1), (.ref o0)])) (fun tZ kZ => ?_) ?_
  · refine XS.aloadN X0.here hx rfl (hb hby d6_0) rfl rfl ?_
    refine XS.iloadN X0.here hx rfl (hb hby d6_1) rfl ?_
    refine XS.iloadN X0.here hx rfl (hb hby d6_2) rfl ?_
    exact kZ
  obtain ⟨cq1, kq1, q1a, q1b, q1c⟩ := isOf hZ e0 ha0
  obtain ⟨_, _, ⟨T1, L1, k1, n1⟩, -, X1, ⟨Lc1, hQ1, l1, y1, z1⟩, st1⟩ := X0.virtualBack hx (y := y7) (z := y7) hown (wz hZ hw 71 rfl) (wz hZ hw 72 rfl) (notFace_of_selects (args := #[]) (wz hZ hw 74 rfl)) (wz hZ hw 74 rfl) (wz hZ hw 73 rfl) (by decide) (backOf (W := 0) (rm7 l Z a0 hw [] o0 p1 p2 lA lF hA hF bA bF wA nW wF h0 n0 Z0 ha0 (obj_low ha3) ha7 (obj_high ha3) ha8 (obj_bits ha3) ha4 ha5 hxb hbx hB) hZ (wq hw 75 rfl) (wq hw 3 rfl) (by decide) (by decide)) q1a q1c (g := (mkF m 3 #[sR o0, sI p1, sI p2, .unset, .unset] [(.int p2), (.int p1), (.ref o0)])) rfl (by rw [hml]; rfl) (Steps.refl _) (argsL := [(.int p1), (.int p2)]) (rest := []) (lenOf pd_4 rfl) rfl (leW rfl) (hb hby d6_3) (fun _ _ => ⟨rfl, e0, (by decide : 0 + 0 ≤ _), (by decide : 0 + 0 ≤ _)⟩)
  dsimp only [Pt.U, Pt.locs, Pt.cells, Pt.slots] at X1 l1 y1 z1 st1 hQ1
  subst l1 y1 z1
  obtain ⟨rfl, N1q, e1⟩ := hQ1
  have N1 := Fr.app N0 N1q
  refine Go.via (fun t k => st1.trans k) ?_
  by_cases hc6 : (f7 o0 p1 p2 lA lF hA hF bA bF wA nW wF) = (0 : Int32)
  · refine Vi (T1.setTop (mkF m 9 #[sR o0, sI p1, sI p2, .unset, .unset] [])) (fun tZ kZ => ?_) ?_
    · show Steps p.tables e below (T1.setTop (mkF m 6 #[sR o0, sI p1, sI p2, .unset, .unset] [(.int (f7 o0 p1 p2 lA lF hA hF bA bF wA nW wF))])) _
      refine XS.ifNo X1.here hx rfl (hb hby d6_6) rfl ((if0 _ _).trans (teq hc6).2) ?_
      exact kZ
    refine Vi (T1.setTop (mkF m 10 #[sR o0, sI p1, sI p2, .unset, .unset] [(.int 1)])) (fun tZ kZ => ?_) ?_
    · refine XS.iconst X1.here hx rfl (hb hby d6_9) ?_
      exact kZ
    refine Go.retN X1 hx Bd.notSynchronized (t := .boolean) Bd.returns (by simp) (hb hby d6_10) (by decide) (by decide) ?_
    rw [e1]
    exact ⟨(lF), (hF), (sF), (chF), (icF), (tvF), (twF), (tsF), (tzF), (tl), (cc), (wF), _, rfl, N1, (Keep.refl h0 [tvA, twA, tsA, tzA, o0, lA, hA, sA, icA, chA, wA]), ha0, ha1, ha2, ha3, ha4, ha5, ha6, ha7, ha8, ha9, ha10, ha11, ha12, ha13, ha14, ⟨own_L1 hI hc6, hNC⟩⟩
  · refine Vi (T1.setTop (mkF m 11 #[sR o0, sI p1, sI p2, .unset, .unset] [])) (fun tZ kZ => ?_) ?_
    · show Steps p.tables e below (T1.setTop (mkF m 6 #[sR o0, sI p1, sI p2, .unset, .unset] [(.int (f7 o0 p1 p2 lA lF hA hF bA bF wA nW wF))])) _
      refine XS.ifYes X1.here hx rfl (pc0 := 6) (pc' := 11) rfl (hb hby d6_6) rfl ((if0 _ _).trans (feq hc6).2) (by decide) (by decide) ?_
      exact kZ
    refine Vi (T1.setTop (mkF m 12 #[sR o0, sI p1, sI p2, .unset, .unset] [(.ref o0)])) (fun tZ kZ => ?_) ?_
    · refine XS.aloadN X1.here hx rfl (hb hby d6_11) rfl rfl ?_
      exact kZ
    refine GF X1 hx hZ hown (wq hw 81 rfl) e1 (obj_listener ha3) (hb hby d6_12) fun T2 X2 e2 => ?_
    refine Vi (T2.setTop (mkF m 29 #[sR o0, sI p1, sI p2, .unset, .unset] [])) (fun tZ kZ => ?_) ?_
    · refine XS.ifnullYes X2.here hx rfl (pc0 := 15) (pc' := 29) rfl (hb hby d6_15) rfl (by decide) (by decide) ?_
      exact kZ
    obtain ⟨hcl, hch⟩ := own_in2 hI hc6
    refine Vi (T2.setTop (mkF m 30 #[sR o0, sI p1, sI p2, .unset, .unset] [(.ref o0)])) (fun tZ kZ => ?_) ?_
    · refine XS.aloadN X2.here hx rfl (hb hby d6_29) rfl rfl ?_
      exact kZ
    refine GF X2 hx hZ hown (wq hw 35 rfl) e2 (obj_sizes ha3) (hb hby d6_30) fun T3 X3 e3 => ?_
    refine Vi (T3.setTop (mkF m 40 #[sR o0, sI p1, sI p2, sI ((sF p1.toNatClampNeg) - (1 : Int32)), .unset] [(.ref o0), (.int p2)])) (fun tZ kZ => ?_) ?_
    · refine XS.iloadN X3.here hx rfl (hb hby d6_33) rfl ?_
      refine AV.iaload ha6 X3 hx hZ e3 (j := p1) hxb (hb hby d6_34) ?_
      refine XS.iconst X3.here hx rfl (hb hby d6_35) ?_
      refine XS.isub X3.here hx rfl (hb hby d6_36) rfl ?_
      refine XS.istoreN X3.here hx rfl (hb hby d6_37) rfl (l' := #[sR o0, sI p1, sI p2, sI ((sF p1.toNatClampNeg) - (1 : Int32)), .unset]) rfl ?_
      refine XS.iloadN X3.here hx rfl (hb hby d6_38) rfl ?_
      refine XS.aloadN X3.here hx rfl (hb hby d6_39) rfl rfl ?_
      exact kZ
    refine GF X3 hx hZ hown (wq hw 37 rfl) e3 (obj_low ha3) (hb hby d6_40) fun T4 X4 e4 => ?_
    refine Vi (T4.setTop (mkF m 45 #[sR o0, sI p1, sI p2, sI ((sF p1.toNatClampNeg) - (1 : Int32)), .unset] [(.int (lF p1.toNatClampNeg)), (.int p2)])) (fun tZ kZ => ?_) ?_
    · refine XS.iloadN X4.here hx rfl (hb hby d6_43) rfl ?_
      refine AV.iaload ha7 X4 hx hZ e4 (j := p1) hxb (hb hby d6_44) ?_
      exact kZ
    by_cases hc45 : p2 = (lF p1.toNatClampNeg)
    · refine Vi (T4.setTop (mkF m 48 #[sR o0, sI p1, sI p2, sI ((sF p1.toNatClampNeg) - (1 : Int32)), .unset] [])) (fun tZ kZ => ?_) ?_
      · show Steps p.tables e below (T4.setTop (mkF m 45 #[sR o0, sI p1, sI p2, sI ((sF p1.toNatClampNeg) - (1 : Int32)), .unset] [(.int (lF p1.toNatClampNeg)), (.int p2)])) _
        refine XS.icmpNo X4.here hx rfl (hb hby d6_45) rfl (teq hc45).2 ?_
        exact kZ
      refine Vi (T4.setTop (mkF m 53 #[sR o0, sI p1, sI p2, sI ((sF p1.toNatClampNeg) - (1 : Int32)), .unset] [(.int (p2 + (1 : Int32))), (.int p1), (.ref o0)])) (fun tZ kZ => ?_) ?_
      · refine XS.aloadN X4.here hx rfl (hb hby d6_48) rfl rfl ?_
        refine XS.iloadN X4.here hx rfl (hb hby d6_49) rfl ?_
        refine XS.iloadN X4.here hx rfl (hb hby d6_50) rfl ?_
        refine XS.iconst X4.here hx rfl (hb hby d6_51) ?_
        refine XS.iadd X4.here hx rfl (hb hby d6_52) rfl ?_
        exact kZ
      obtain ⟨cq5, kq5, q5a, q5b, q5c⟩ := isOf hZ e4 ha0
      obtain ⟨_, _, ⟨T5, L5, k5, n5⟩, -, X5, ⟨Lc5, hQ5, l5, y5, z5⟩, st5⟩ := X4.virtualBack hx (y := y9) (z := y9) hown (wz hZ hw 83 rfl) (wz hZ hw 84 rfl) (notFace_of_selects (args := #[]) (wz hZ hw 86 rfl)) (wz hZ hw 86 rfl) (wz hZ hw 85 rfl) (by decide) (backOf (W := 0) (rm9 l Z a0 hw [] o0 p1 (p2 + (1 : Int32)) lA lF hA hF bA bF wA nW wF h0 n0 Z0 ha0 (obj_low ha3) ha7 (obj_high ha3) ha8 (obj_bits ha3) ha4 ha5 hxb hbx hB1a hB2a hTa) hZ (wq hw 87 rfl) (wq hw 3 rfl) (by decide) (by decide)) q5a q5c (g := (mkF m 53 #[sR o0, sI p1, sI p2, sI ((sF p1.toNatClampNeg) - (1 : Int32)), .unset] [(.int (p2 + (1 : Int32))), (.int p1), (.ref o0)])) rfl (by rw [hml]; rfl) (Steps.refl _) (argsL := [(.int p1), (.int (p2 + (1 : Int32)))]) (rest := []) (lenOf pd_6 rfl) rfl (leW rfl) (hb hby d6_53) (fun _ _ => ⟨rfl, e4, (by decide : 0 + 0 + 0 ≤ _), (by decide : 0 + 0 + 0 ≤ _)⟩)
      dsimp only [Pt.U, Pt.locs, Pt.cells, Pt.slots] at X5 l5 y5 z5 st5 hQ5
      subst l5 y5 z5
      obtain ⟨rfl, N5q, e5⟩ := hQ5
      have N5 := Fr.app N1 N5q
      refine Go.via (fun t k => st5.trans k) ?_
      refine Vi (T5.setTop (mkF m 74 #[sR o0, sI p1, sI p2, sI ((sF p1.toNatClampNeg) - (1 : Int32)), sI (f9 o0 p1 (p2 + (1 : Int32)) lA lF hA hF bA bF wA nW wF)] [(.ref o0), (.int (if (f9 o0 p1 (p2 + (1 : Int32)) lA lF hA hF bA bF wA nW wF) < (0 : Int32) then (p2 + (1 : Int32)) else (f9 o0 p1 (p2 + (1 : Int32)) lA lF hA hF bA bF wA nW wF))), (.int p1), (.ref o0)])) (fun tZ kZ => ?_) ?_
      · refine XS.istore X5.here hx rfl (hb hby d6_56) rfl (l' := #[sR o0, sI p1, sI p2, sI ((sF p1.toNatClampNeg) - (1 : Int32)), sI (f9 o0 p1 (p2 + (1 : Int32)) lA lF hA hF bA bF wA nW wF)]) rfl ?_
        refine XS.aloadN X5.here hx rfl (hb hby d6_58) rfl rfl ?_
        refine XS.iloadN X5.here hx rfl (hb hby d6_59) rfl ?_
        refine XS.iload X5.here hx rfl (hb hby d6_60) rfl ?_
        have sg62 : Steps p.tables e below (T5.setTop (mkF m 73 #[sR o0, sI p1, sI p2, sI ((sF p1.toNatClampNeg) - (1 : Int32)), sI (f9 o0 p1 (p2 + (1 : Int32)) lA lF hA hF bA bF wA nW wF)] [(.int (if (f9 o0 p1 (p2 + (1 : Int32)) lA lF hA hF bA bF wA nW wF) < (0 : Int32) then (p2 + (1 : Int32)) else (f9 o0 p1 (p2 + (1 : Int32)) lA lF hA hF bA bF wA nW wF))), (.int p1), (.ref o0)])) tZ → Steps p.tables e below (T5.setTop (mkF m 62 #[sR o0, sI p1, sI p2, sI ((sF p1.toNatClampNeg) - (1 : Int32)), sI (f9 o0 p1 (p2 + (1 : Int32)) lA lF hA hF bA bF wA nW wF)] [(.int (f9 o0 p1 (p2 + (1 : Int32)) lA lF hA hF bA bF wA nW wF)), (.int p1), (.ref o0)])) tZ := by
          intro kj
          by_cases hc62 : (f9 o0 p1 (p2 + (1 : Int32)) lA lF hA hF bA bF wA nW wF) < (0 : Int32)
          · try simp only [if_pos hc62] at kj
            refine XS.ifNo X5.here hx rfl (hb hby d6_62) rfl ((if0 _ _).trans (tlt hc62).2.1) ?_
            refine XS.iloadN X5.here hx rfl (hb hby d6_65) rfl ?_
            refine XS.iconst X5.here hx rfl (hb hby d6_66) ?_
            refine XS.iadd X5.here hx rfl (hb hby d6_67) rfl ?_
            refine XS.goto X5.here hx rfl (pc0 := 68) (pc' := 73) rfl (hb hby d6_68) (by decide) (by decide) ?_
            exact kj
          · try simp only [if_neg hc62] at kj
            refine XS.ifYes X5.here hx rfl (pc0 := 62) (pc' := 71) rfl (hb hby d6_62) rfl ((if0 _ _).trans (flt hc62).2.1) (by decide) (by decide) ?_
            refine XS.iload X5.here hx rfl (hb hby d6_71) rfl ?_
            exact kj
        refine sg62 ?_
        show Steps p.tables e below (T5.setTop (mkF m 73 #[sR o0, sI p1, sI p2, sI ((sF p1.toNatClampNeg) - (1 : Int32)), sI (f9 o0 p1 (p2 + (1 : Int32)) lA lF hA hF bA bF wA nW wF)] [(.int (if (f9 o0 p1 (p2 + (1 : Int32)) lA lF hA hF bA bF wA nW wF) < (0 : Int32) then (p2 + (1 : Int32)) else (f9 o0 p1 (p2 + (1 : Int32)) lA lF hA hF bA bF wA nW wF))), (.int p1), (.ref o0)])) _
        refine XS.aloadN X5.here hx rfl (hb hby d6_73) rfl rfl ?_
        exact kZ
      refine GF X5 hx hZ hown (wq hw 39 rfl) e5 (obj_high ha3) (hb hby d6_74) fun T6 X6 e6 => ?_
      refine Vi (T6.setTop (mkF m 80 #[sR o0, sI p1, sI p2, sI ((sF p1.toNatClampNeg) - (1 : Int32)), sI (f9 o0 p1 (p2 + (1 : Int32)) lA lF hA hF bA bF wA nW wF)] [(.int ((sF p1.toNatClampNeg) - (1 : Int32))), (.int (hF p1.toNatClampNeg)), (.int (if (f9 o0 p1 (p2 + (1 : Int32)) lA lF hA hF bA bF wA nW wF) < (0 : Int32) then (p2 + (1 : Int32)) else (f9 o0 p1 (p2 + (1 : Int32)) lA lF hA hF bA bF wA nW wF))), (.int p1), (.ref o0)])) (fun tZ kZ => ?_) ?_
      · refine XS.iloadN X6.here hx rfl (hb hby d6_77) rfl ?_
        refine AV.iaload ha8 X6 hx hZ e6 (j := p1) hxb (hb hby d6_78) ?_
        refine XS.iloadN X6.here hx rfl (hb hby d6_79) rfl ?_
        exact kZ
      obtain ⟨cq7, q7, q7'⟩ := ha0.cell
      obtain ⟨_, _, ⟨T7, L7, k7, n7⟩, -, X7, ⟨Lc7, hQ7, l7, y7, z7⟩, st7⟩ := X6.privateBack hx (y := y11) hown (wz hZ hw 92 rfl) (wz hZ hw 93 rfl) (mvT hZ (own_selp (y := y11) (wq hw 93 rfl) (wq hw 94 rfl) (wq hw 2 rfl) (by decide))) (Cond.privateMethod_at (mvP hZ (wq hw 94 rfl) (args := #[]))) (wz hZ hw 95 rfl) (by decide) (backOf (W := 0) (rm11 l Z a0 hw [] o0 p1 (if (f9 o0 p1 (p2 + (1 : Int32)) lA lF hA hF bA bF wA nW wF) < (0 : Int32) then (p2 + (1 : Int32)) else (f9 o0 p1 (p2 + (1 : Int32)) lA lF hA hF bA bF wA nW wF)) (hF p1.toNatClampNeg) ((sF p1.toNatClampNeg) - (1 : Int32)) tl cc lA hA sA cA chA icA bA tvA twA tsA tzA sF lF hF tvF twF tsF tzF h0 n0 Z0 ha0 ha1 ha2 ha3 ha6 ha7 ha8 ha11 ha12 ha13 ha14 ha15 ha17 ha18 ha19 ha22 ha23 ha24 ha25 hne_o0_sA hne_o0_lA hne_o0_hA hne_o0_tvA hne_o0_twA hne_o0_tsA hne_o0_tzA hne_sA_lA hne_sA_hA hne_sA_tvA hne_sA_twA hne_sA_tsA hne_sA_tzA hne_lA_hA hne_lA_tvA hne_lA_twA hne_lA_tsA hne_lA_tzA hne_hA_tvA hne_hA_twA hne_hA_tsA hne_hA_tzA hne_tvA_twA hne_tvA_tsA hne_tvA_tzA hne_twA_tsA hne_twA_tzA hne_tsA_tzA hxb htl htb) hZ (wq hw 95 rfl) (wq hw 3 rfl) (by decide) (by decide)) (g := (mkF m 80 #[sR o0, sI p1, sI p2, sI ((sF p1.toNatClampNeg) - (1 : Int32)), sI (f9 o0 p1 (p2 + (1 : Int32)) lA lF hA hF bA bF wA nW wF)] [(.int ((sF p1.toNatClampNeg) - (1 : Int32))), (.int (hF p1.toNatClampNeg)), (.int (if (f9 o0 p1 (p2 + (1 : Int32)) lA lF hA hF bA bF wA nW wF) < (0 : Int32) then (p2 + (1 : Int32)) else (f9 o0 p1 (p2 + (1 : Int32)) lA lF hA hF bA bF wA nW wF))), (.int p1), (.ref o0)])) rfl (by rw [hml]; rfl) (Steps.refl _) (a := o0) (by rw [e6]; exact q7) q7' (argsL := [(.int p1), (.int (if (f9 o0 p1 (p2 + (1 : Int32)) lA lF hA hF bA bF wA nW wF) < (0 : Int32) then (p2 + (1 : Int32)) else (f9 o0 p1 (p2 + (1 : Int32)) lA lF hA hF bA bF wA nW wF))), (.int (hF p1.toNatClampNeg)), (.int ((sF p1.toNatClampNeg) - (1 : Int32)))]) (rest := []) (lenOf pd_7 rfl) rfl (leW rfl) (hb hby d6_80) (fun _ _ => ⟨rfl, e6, (by decide : 0 + 0 + 0 + 0 ≤ _), (by decide : 0 + 0 + 0 + 0 ≤ _)⟩)
      dsimp only [Pt.U, Pt.locs, Pt.cells, Pt.slots] at X7 l7 y7 z7 st7 hQ7
      subst l7 y7 z7
      obtain ⟨rfl, N7q, Kq7, f7_0, f7_1, f7_2, f7_3, f7_4, f7_5, f7_6, f7_7, f7_8, f7_9, f7_10⟩ := hQ7
      have c8_4 := ha4.keep Kq7 (ninS hne_bA_tvA (ninS hne_bA_twA (ninS hne_bA_tsA (ninS hne_bA_tzA (ninS (Ne.symm hne_o0_bA) (ninS hne_bA_lA (ninS hne_bA_hA (ninS hne_bA_sA nin0))))))))
      have c8_5 := ha5.keep Kq7 (ninS hne_wA_tvA (ninS hne_wA_twA (ninS hne_wA_tsA (ninS hne_wA_tzA (ninS (Ne.symm hne_o0_wA) (ninS hne_wA_lA (ninS hne_wA_hA (ninS hne_wA_sA nin0))))))))
      have c8_9 := ha9.keep Kq7 (ninS hne_chA_tvA (ninS hne_chA_twA (ninS hne_chA_tsA (ninS hne_chA_tzA (ninS (Ne.symm hne_o0_chA) (ninS (Ne.symm hne_lA_chA) (ninS (Ne.symm hne_hA_chA) (ninS (Ne.symm hne_sA_chA) nin0))))))))
      have c8_10 := ha10.keep Kq7 (ninS hne_icA_tvA (ninS hne_icA_twA (ninS hne_icA_tsA (ninS hne_icA_tzA (ninS (Ne.symm hne_o0_icA) (ninS (Ne.symm hne_lA_icA) (ninS (Ne.symm hne_hA_icA) (ninS (Ne.symm hne_sA_icA) nin0))))))))
      have K7 : Keep h0 T7.heap [tvA, twA, tsA, tzA, o0, lA, hA, sA, icA, chA, wA] := (Keep.refl h0 [tvA, twA, tsA, tzA, o0, lA, hA, sA, icA, chA, wA]).trans Kq7 (allS (Or.inl (by simp)) (allS (Or.inl (by simp)) (allS (Or.inl (by simp)) (allS (Or.inl (by simp)) (allS (Or.inl (by simp)) (allS (Or.inl (by simp)) (allS (Or.inl (by simp)) (allS (Or.inl (by simp)) all0))))))))
      have Z7 := Nat.le_trans Z0 Kq7.1
      have N7 := Fr.app N5 N7q
      refine Go.via (fun t k => st7.trans k) ?_
      refine Vi (T7.setTop (mkF m 169 #[sR o0, sI p1, sI p2, sI ((sF p1.toNatClampNeg) - (1 : Int32)), sI (f9 o0 p1 (p2 + (1 : Int32)) lA lF hA hF bA bF wA nW wF)] [(.int p1), (.ref o0)])) (fun tZ kZ => ?_) ?_
      · refine XS.goto X7.here hx rfl (pc0 := 83) (pc' := 167) rfl (hb hby d6_83) (by decide) (by decide) ?_
        refine XS.aloadN X7.here hx rfl (hb hby d6_167) rfl rfl ?_
        refine XS.iloadN X7.here hx rfl (hb hby d6_168) rfl ?_
        exact kZ
      obtain ⟨cq9, q9, q9'⟩ := f7_0.cell
      obtain ⟨_, _, ⟨T9, L9, k9, n9⟩, -, X9, ⟨Lc9, hQ9, l9, y9, z9⟩, st9⟩ := X7.privateBack hx (y := y13) hown (wz hZ hw 101 rfl) (wz hZ hw 102 rfl) (mvT hZ (own_selp (y := y13) (wq hw 102 rfl) (wq hw 103 rfl) (wq hw 2 rfl) (by decide))) (Cond.privateMethod_at (mvP hZ (wq hw 103 rfl) (args := #[]))) (wz hZ hw 104 rfl) (by decide) (backOf (W := 0) (rm13 l Z a0 hw [] o0 p1 (tl + (1 : Int32)) cc lA hA sA cA chA icA bA tvA twA tsA tzA chF icF T7.heap n0 Z7 f7_0 f7_1 f7_2 f7_3 c8_9 c8_10 ha15 ha20 ha21 hne_o0_chA hne_o0_icA hne_chA_icA hx1 hNC) hZ (wq hw 104 rfl) (wq hw 3 rfl) (by decide) (by decide)) (g := (mkF m 169 #[sR o0, sI p1, sI p2, sI ((sF p1.toNatClampNeg) - (1 : Int32)), sI (f9 o0 p1 (p2 + (1 : Int32)) lA lF hA hF bA bF wA nW wF)] [(.int p1), (.ref o0)])) rfl (by rw [hml]; rfl) (Steps.refl _) (a := o0) q9 q9' (argsL := [(.int p1)]) (rest := []) (lenOf pd_9 rfl) rfl (leW rfl) (hb hby d6_169) (fun _ _ => ⟨rfl, rfl, (by decide : 0 + 0 + 0 + 0 + 0 ≤ _), (by decide : 0 + 0 + 0 + 0 + 0 ≤ _)⟩)
      dsimp only [Pt.U, Pt.locs, Pt.cells, Pt.slots] at X9 l9 y9 z9 st9 hQ9
      subst l9 y9 z9
      obtain ⟨chF_9, icF_9, cc_9, rr9, rfl, N9q, Kq9, f9_0, f9_1, f9_2, f9_3, f9_4, f9_5, rel9⟩ := hQ9
      have c10_4 := c8_4.keep Kq9 (ninS hne_bA_icA (ninS (Ne.symm hne_o0_bA) (ninS hne_bA_chA nin0)))
      have c10_5 := c8_5.keep Kq9 (ninS hne_wA_icA (ninS (Ne.symm hne_o0_wA) (ninS hne_wA_chA nin0)))
      have c10_6 := f7_4.keep Kq9 (ninS hne_sA_icA (ninS (Ne.symm hne_o0_sA) (ninS hne_sA_chA nin0)))
      have c10_7 := f7_5.keep Kq9 (ninS hne_lA_icA (ninS (Ne.symm hne_o0_lA) (ninS hne_lA_chA nin0)))
      have c10_8 := f7_6.keep Kq9 (ninS hne_hA_icA (ninS (Ne.symm hne_o0_hA) (ninS hne_hA_chA nin0)))
      have c10_11 := f7_7.keep Kq9 (ninS (Ne.symm hne_icA_tvA) (ninS (Ne.symm hne_o0_tvA) (ninS (Ne.symm hne_chA_tvA) nin0)))
      have c10_12 := f7_8.keep Kq9 (ninS (Ne.symm hne_icA_twA) (ninS (Ne.symm hne_o0_twA) (ninS (Ne.symm hne_chA_twA) nin0)))
      have c10_13 := f7_9.keep Kq9 (ninS (Ne.symm hne_icA_tsA) (ninS (Ne.symm hne_o0_tsA) (ninS (Ne.symm hne_chA_tsA) nin0)))
      have c10_14 := f7_10.keep Kq9 (ninS (Ne.symm hne_icA_tzA) (ninS (Ne.symm hne_o0_tzA) (ninS (Ne.symm hne_chA_tzA) nin0)))
      have K9 : Keep h0 T9.heap [tvA, twA, tsA, tzA, o0, lA, hA, sA, icA, chA, wA] := K7.trans Kq9 (allS (Or.inl (by simp)) (allS (Or.inl (by simp)) (allS (Or.inl (by simp)) all0)))
      have Z9 := Nat.le_trans Z7 Kq9.1
      have N9 := Fr.app N7 N9q
      refine Go.via (fun t k => st9.trans k) ?_
      refine Vi (T9.setTop (mkF m 181 #[sR o0, sI p1, sI p2, sI ((sF p1.toNatClampNeg) - (1 : Int32)), sI (f9 o0 p1 (p2 + (1 : Int32)) lA lF hA hF bA bF wA nW wF)] [(.int (if (0 : Int32) < ((sF p1.toNatClampNeg) - (1 : Int32)) then (1 : Int32) else (0 : Int32)))])) (fun tZ kZ => ?_) ?_
      · refine XS.iloadN X9.here hx rfl (hb hby d6_172) rfl ?_
        have sg173 : Steps p.tables e below (T9.setTop (mkF m 181 #[sR o0, sI p1, sI p2, sI ((sF p1.toNatClampNeg) - (1 : Int32)), sI (f9 o0 p1 (p2 + (1 : Int32)) lA lF hA hF bA bF wA nW wF)] [(.int (if (0 : Int32) < ((sF p1.toNatClampNeg) - (1 : Int32)) then (1 : Int32) else (0 : Int32)))])) tZ → Steps p.tables e below (T9.setTop (mkF m 173 #[sR o0, sI p1, sI p2, sI ((sF p1.toNatClampNeg) - (1 : Int32)), sI (f9 o0 p1 (p2 + (1 : Int32)) lA lF hA hF bA bF wA nW wF)] [(.int ((sF p1.toNatClampNeg) - (1 : Int32)))])) tZ := by
          intro kj
          by_cases hc173 : (0 : Int32) < ((sF p1.toNatClampNeg) - (1 : Int32))
          · try simp only [if_pos hc173] at kj
            refine XS.ifNo X9.here hx rfl (hb hby d6_173) rfl ((if0 _ _).trans (tlt hc173).2.2.2) ?_
            refine XS.iconst X9.here hx rfl (hb hby d6_176) ?_
            refine XS.goto X9.here hx rfl (pc0 := 177) (pc' := 181) rfl (hb hby d6_177) (by decide) (by decide) ?_
            exact kj
          · try simp only [if_neg hc173] at kj
            refine XS.ifYes X9.here hx rfl (pc0 := 173) (pc' := 180) rfl (hb hby d6_173) rfl ((if0 _ _).trans (flt hc173).2.2.2) (by decide) (by decide) ?_
            refine XS.iconst X9.here hx rfl (hb hby d6_180) ?_
            exact kj
        refine sg173 ?_
        show Steps p.tables e below (T9.setTop (mkF m 181 #[sR o0, sI p1, sI p2, sI ((sF p1.toNatClampNeg) - (1 : Int32)), sI (f9 o0 p1 (p2 + (1 : Int32)) lA lF hA hF bA bF wA nW wF)] [(.int (if (0 : Int32) < ((sF p1.toNatClampNeg) - (1 : Int32)) then (1 : Int32) else (0 : Int32)))])) _
        exact kZ
      refine Go.retN X9 hx Bd.notSynchronized (t := .boolean) Bd.returns (by simp) (hb hby d6_181) (by decide) (by decide) ?_
      exact ⟨((up lF p1.toNatClampNeg (if (f9 o0 p1 (p2 + (1 : Int32)) lA lF hA hF bA bF wA nW wF) < (0 : Int32) then (p2 + (1 : Int32)) else (f9 o0 p1 (p2 + (1 : Int32)) lA lF hA hF bA bF wA nW wF)))), ((up hF p1.toNatClampNeg (hF p1.toNatClampNeg))), ((up sF p1.toNatClampNeg ((sF p1.toNatClampNeg) - (1 : Int32)))), (chF_9), (icF_9), ((up tvF tl.toNatClampNeg p1)), ((up twF tl.toNatClampNeg (-1 : Int32))), ((up tsF tl.toNatClampNeg ((((lF p1.toNatClampNeg).toInt64) <<< ((32 : Int32) &&& 0x3f).toInt64) ||| (((hF p1.toNatClampNeg).toInt64) &&& (4294967295 : Int64))))), ((up tzF tl.toNatClampNeg (sF p1.toNatClampNeg))), ((tl + (1 : Int32))), (cc_9), (wF), _, rfl, N9, K9, f9_0, f9_1, f9_2, f9_3, c10_4, c10_5, c10_6, c10_7, c10_8, f9_4, f9_5, c10_11, c10_12, c10_13, c10_14, ⟨own_L2 hI hc6 hc45, rel9⟩⟩
    · refine Vi (T4.setTop (mkF m 86 #[sR o0, sI p1, sI p2, sI ((sF p1.toNatClampNeg) - (1 : Int32)), .unset] [])) (fun tZ kZ => ?_) ?_
      · show Steps p.tables e below (T4.setTop (mkF m 45 #[sR o0, sI p1, sI p2, sI ((sF p1.toNatClampNeg) - (1 : Int32)), .unset] [(.int (lF p1.toNatClampNeg)), (.int p2)])) _
        refine XS.icmpYes X4.here hx rfl (pc0 := 45) (pc' := 86) rfl (hb hby d6_45) rfl (feq hc45).2 (by decide) (by decide) ?_
        exact kZ
      refine Vi (T4.setTop (mkF m 88 #[sR o0, sI p1, sI p2, sI ((sF p1.toNatClampNeg) - (1 : Int32)), .unset] [(.ref o0), (.int p2)])) (fun tZ kZ => ?_) ?_
      · refine XS.iloadN X4.here hx rfl (hb hby d6_86) rfl ?_
        refine XS.aloadN X4.here hx rfl (hb hby d6_87) rfl rfl ?_
        exact kZ
      refine GF X4 hx hZ hown (wq hw 39 rfl) e4 (obj_high ha3) (hb hby d6_88) fun T11 X11 e11 => ?_
      refine Vi (T11.setTop (mkF m 93 #[sR o0, sI p1, sI p2, sI ((sF p1.toNatClampNeg) - (1 : Int32)), .unset] [(.int (hF p1.toNatClampNeg)), (.int p2)])) (fun tZ kZ => ?_) ?_
      · refine XS.iloadN X11.here hx rfl (hb hby d6_91) rfl ?_
        refine AV.iaload ha8 X11 hx hZ e11 (j := p1) hxb (hb hby d6_92) ?_
        exact kZ
      by_cases hc93 : p2 = (hF p1.toNatClampNeg)
      · refine Vi (T11.setTop (mkF m 96 #[sR o0, sI p1, sI p2, sI ((sF p1.toNatClampNeg) - (1 : Int32)), .unset] [])) (fun tZ kZ => ?_) ?_
        · show Steps p.tables e below (T11.setTop (mkF m 93 #[sR o0, sI p1, sI p2, sI ((sF p1.toNatClampNeg) - (1 : Int32)), .unset] [(.int (hF p1.toNatClampNeg)), (.int p2)])) _
          refine XS.icmpNo X11.here hx rfl (hb hby d6_93) rfl (teq hc93).2 ?_
          exact kZ
        refine Vi (T11.setTop (mkF m 99 #[sR o0, sI p1, sI p2, sI ((sF p1.toNatClampNeg) - (1 : Int32)), .unset] [(.ref o0), (.int p1), (.ref o0)])) (fun tZ kZ => ?_) ?_
        · refine XS.aloadN X11.here hx rfl (hb hby d6_96) rfl rfl ?_
          refine XS.iloadN X11.here hx rfl (hb hby d6_97) rfl ?_
          refine XS.aloadN X11.here hx rfl (hb hby d6_98) rfl rfl ?_
          exact kZ
        refine GF X11 hx hZ hown (wq hw 37 rfl) e11 (obj_low ha3) (hb hby d6_99) fun T12 X12 e12 => ?_
        refine Vi (T12.setTop (mkF m 109 #[sR o0, sI p1, sI p2, sI ((sF p1.toNatClampNeg) - (1 : Int32)), .unset] [(.int (p2 - (1 : Int32))), (.int p1), (.ref o0), (.int (lF p1.toNatClampNeg)), (.int p1), (.ref o0)])) (fun tZ kZ => ?_) ?_
        · refine XS.iloadN X12.here hx rfl (hb hby d6_102) rfl ?_
          refine AV.iaload ha7 X12 hx hZ e12 (j := p1) hxb (hb hby d6_103) ?_
          refine XS.aloadN X12.here hx rfl (hb hby d6_104) rfl rfl ?_
          refine XS.iloadN X12.here hx rfl (hb hby d6_105) rfl ?_
          refine XS.iloadN X12.here hx rfl (hb hby d6_106) rfl ?_
          refine XS.iconst X12.here hx rfl (hb hby d6_107) ?_
          refine XS.isub X12.here hx rfl (hb hby d6_108) rfl ?_
          exact kZ
        obtain ⟨cq13, kq13, q13a, q13b, q13c⟩ := isOf hZ e12 ha0
        obtain ⟨_, _, ⟨T13, L13, k13, n13⟩, -, X13, ⟨Lc13, hQ13, l13, y13, z13⟩, st13⟩ := X12.virtualBack hx (y := y18) (z := y18) hown (wz hZ hw 126 rfl) (wz hZ hw 127 rfl) (notFace_of_selects (args := #[]) (wz hZ hw 129 rfl)) (wz hZ hw 129 rfl) (wz hZ hw 128 rfl) (by decide) (backOf (W := 3) (rm18 l Z a0 hw [] o0 p1 (p2 - (1 : Int32)) lA lF hA hF bA bF wA nW wF h0 n0 Z0 ha0 (obj_low ha3) ha7 (obj_high ha3) ha8 (obj_bits ha3) ha4 ha5 hxb hbx hB1b hB2b hTb) hZ (wq hw 130 rfl) (wq hw 3 rfl) (by decide) (by decide)) q13a q13c (g := (mkF m 109 #[sR o0, sI p1, sI p2, sI ((sF p1.toNatClampNeg) - (1 : Int32)), .unset] [(.int (p2 - (1 : Int32))), (.int p1), (.ref o0), (.int (lF p1.toNatClampNeg)), (.int p1), (.ref o0)])) rfl (by rw [hml]; rfl) (Steps.refl _) (argsL := [(.int p1), (.int (p2 - (1 : Int32)))]) (rest := [(.int (lF p1.toNatClampNeg)), (.int p1), (.ref o0)]) (lenOf pd_6 rfl) rfl (leW rfl) (hb hby d6_109) (fun _ _ => ⟨rfl, e12, (by decide : 0 + 0 + 0 ≤ _), (by decide : 0 + 0 + 0 ≤ _)⟩)
        dsimp only [Pt.U, Pt.locs, Pt.cells, Pt.slots] at X13 l13 y13 z13 st13 hQ13
        subst l13 y13 z13
        obtain ⟨rfl, N13q, e13⟩ := hQ13
        have N13 := Fr.app N1 N13q
        refine Go.via (fun t k => st13.trans k) ?_
        refine Vi (T13.setTop (mkF m 113 #[sR o0, sI p1, sI p2, sI ((sF p1.toNatClampNeg) - (1 : Int32)), .unset] [(.int ((sF p1.toNatClampNeg) - (1 : Int32))), (.int (f18 o0 p1 (p2 - (1 : Int32)) lA lF hA hF bA bF wA nW wF)), (.int (lF p1.toNatClampNeg)), (.int p1), (.ref o0)])) (fun tZ kZ => ?_) ?_
        · refine XS.iloadN X13.here hx rfl (hb hby d6_112) rfl ?_
          exact kZ
        obtain ⟨cq14, q14, q14'⟩ := ha0.cell
        obtain ⟨_, _, ⟨T14, L14, k14, n14⟩, -, X14, ⟨Lc14, hQ14, l14, y14, z14⟩, st14⟩ := X13.privateBack hx (y := y11) hown (wz hZ hw 92 rfl) (wz hZ hw 93 rfl) (mvT hZ (own_selp (y := y11) (wq hw 93 rfl) (wq hw 94 rfl) (wq hw 2 rfl) (by decide))) (Cond.privateMethod_at (mvP hZ (wq hw 94 rfl) (args := #[]))) (wz hZ hw 95 rfl) (by decide) (backOf (W := 0) (rm11 l Z a0 hw [] o0 p1 (lF p1.toNatClampNeg) (f18 o0 p1 (p2 - (1 : Int32)) lA lF hA hF bA bF wA nW wF) ((sF p1.toNatClampNeg) - (1 : Int32)) tl cc lA hA sA cA chA icA bA tvA twA tsA tzA sF lF hF tvF twF tsF tzF h0 n0 Z0 ha0 ha1 ha2 ha3 ha6 ha7 ha8 ha11 ha12 ha13 ha14 ha15 ha17 ha18 ha19 ha22 ha23 ha24 ha25 hne_o0_sA hne_o0_lA hne_o0_hA hne_o0_tvA hne_o0_twA hne_o0_tsA hne_o0_tzA hne_sA_lA hne_sA_hA hne_sA_tvA hne_sA_twA hne_sA_tsA hne_sA_tzA hne_lA_hA hne_lA_tvA hne_lA_twA hne_lA_tsA hne_lA_tzA hne_hA_tvA hne_hA_twA hne_hA_tsA hne_hA_tzA hne_tvA_twA hne_tvA_tsA hne_tvA_tzA hne_twA_tsA hne_twA_tzA hne_tsA_tzA hxb htl htb) hZ (wq hw 95 rfl) (wq hw 3 rfl) (by decide) (by decide)) (g := (mkF m 113 #[sR o0, sI p1, sI p2, sI ((sF p1.toNatClampNeg) - (1 : Int32)), .unset] [(.int ((sF p1.toNatClampNeg) - (1 : Int32))), (.int (f18 o0 p1 (p2 - (1 : Int32)) lA lF hA hF bA bF wA nW wF)), (.int (lF p1.toNatClampNeg)), (.int p1), (.ref o0)])) rfl (by rw [hml]; rfl) (Steps.refl _) (a := o0) (by rw [e13]; exact q14) q14' (argsL := [(.int p1), (.int (lF p1.toNatClampNeg)), (.int (f18 o0 p1 (p2 - (1 : Int32)) lA lF hA hF bA bF wA nW wF)), (.int ((sF p1.toNatClampNeg) - (1 : Int32)))]) (rest := []) (lenOf pd_7 rfl) rfl (leW rfl) (hb hby d6_113) (fun _ _ => ⟨rfl, e13, (by decide : 0 + 0 + 0 + 0 ≤ _), (by decide : 0 + 0 + 0 + 0 ≤ _)⟩)
        dsimp only [Pt.U, Pt.locs, Pt.cells, Pt.slots] at X14 l14 y14 z14 st14 hQ14
        subst l14 y14 z14
        obtain ⟨rfl, N14q, Kq14, f14_0, f14_1, f14_2, f14_3, f14_4, f14_5, f14_6, f14_7, f14_8, f14_9, f14_10⟩ := hQ14
        have c15_4 := ha4.keep Kq14 (ninS hne_bA_tvA (ninS hne_bA_twA (ninS hne_bA_tsA (ninS hne_bA_tzA (ninS (Ne.symm hne_o0_bA) (ninS hne_bA_lA (ninS hne_bA_hA (ninS hne_bA_sA nin0))))))))
        have c15_5 := ha5.keep Kq14 (ninS hne_wA_tvA (ninS hne_wA_twA (ninS hne_wA_tsA (ninS hne_wA_tzA (ninS (Ne.symm hne_o0_wA) (ninS hne_wA_lA (ninS hne_wA_hA (ninS hne_wA_sA nin0))))))))
        have c15_9 := ha9.keep Kq14 (ninS hne_chA_tvA (ninS hne_chA_twA (ninS hne_chA_tsA (ninS hne_chA_tzA (ninS (Ne.symm hne_o0_chA) (ninS (Ne.symm hne_lA_chA) (ninS (Ne.symm hne_hA_chA) (ninS (Ne.symm hne_sA_chA) nin0))))))))
        have c15_10 := ha10.keep Kq14 (ninS hne_icA_tvA (ninS hne_icA_twA (ninS hne_icA_tsA (ninS hne_icA_tzA (ninS (Ne.symm hne_o0_icA) (ninS (Ne.symm hne_lA_icA) (ninS (Ne.symm hne_hA_icA) (ninS (Ne.symm hne_sA_icA) nin0))))))))
        have K14 : Keep h0 T14.heap [tvA, twA, tsA, tzA, o0, lA, hA, sA, icA, chA, wA] := (Keep.refl h0 [tvA, twA, tsA, tzA, o0, lA, hA, sA, icA, chA, wA]).trans Kq14 (allS (Or.inl (by simp)) (allS (Or.inl (by simp)) (allS (Or.inl (by simp)) (allS (Or.inl (by simp)) (allS (Or.inl (by simp)) (allS (Or.inl (by simp)) (allS (Or.inl (by simp)) (allS (Or.inl (by simp)) all0))))))))
        have Z14 := Nat.le_trans Z0 Kq14.1
        have N14 := Fr.app N13 N14q
        refine Go.via (fun t k => st14.trans k) ?_
        refine Vi (T14.setTop (mkF m 169 #[sR o0, sI p1, sI p2, sI ((sF p1.toNatClampNeg) - (1 : Int32)), .unset] [(.int p1), (.ref o0)])) (fun tZ kZ => ?_) ?_
        · refine XS.goto X14.here hx rfl (pc0 := 116) (pc' := 167) rfl (hb hby d6_116) (by decide) (by decide) ?_
          refine XS.aloadN X14.here hx rfl (hb hby d6_167) rfl rfl ?_
          refine XS.iloadN X14.here hx rfl (hb hby d6_168) rfl ?_
          exact kZ
        obtain ⟨cq16, q16, q16'⟩ := f14_0.cell
        obtain ⟨_, _, ⟨T16, L16, k16, n16⟩, -, X16, ⟨Lc16, hQ16, l16, y16, z16⟩, st16⟩ := X14.privateBack hx (y := y13) hown (wz hZ hw 101 rfl) (wz hZ hw 102 rfl) (mvT hZ (own_selp (y := y13) (wq hw 102 rfl) (wq hw 103 rfl) (wq hw 2 rfl) (by decide))) (Cond.privateMethod_at (mvP hZ (wq hw 103 rfl) (args := #[]))) (wz hZ hw 104 rfl) (by decide) (backOf (W := 0) (rm13 l Z a0 hw [] o0 p1 (tl + (1 : Int32)) cc lA hA sA cA chA icA bA tvA twA tsA tzA chF icF T14.heap n0 Z14 f14_0 f14_1 f14_2 f14_3 c15_9 c15_10 ha15 ha20 ha21 hne_o0_chA hne_o0_icA hne_chA_icA hx1 hNC) hZ (wq hw 104 rfl) (wq hw 3 rfl) (by decide) (by decide)) (g := (mkF m 169 #[sR o0, sI p1, sI p2, sI ((sF p1.toNatClampNeg) - (1 : Int32)), .unset] [(.int p1), (.ref o0)])) rfl (by rw [hml]; rfl) (Steps.refl _) (a := o0) q16 q16' (argsL := [(.int p1)]) (rest := []) (lenOf pd_9 rfl) rfl (leW rfl) (hb hby d6_169) (fun _ _ => ⟨rfl, rfl, (by decide : 0 + 0 + 0 + 0 + 0 ≤ _), (by decide : 0 + 0 + 0 + 0 + 0 ≤ _)⟩)
        dsimp only [Pt.U, Pt.locs, Pt.cells, Pt.slots] at X16 l16 y16 z16 st16 hQ16
        subst l16 y16 z16
        obtain ⟨chF_16, icF_16, cc_16, rr16, rfl, N16q, Kq16, f16_0, f16_1, f16_2, f16_3, f16_4, f16_5, rel16⟩ := hQ16
        have c17_4 := c15_4.keep Kq16 (ninS hne_bA_icA (ninS (Ne.symm hne_o0_bA) (ninS hne_bA_chA nin0)))
        have c17_5 := c15_5.keep Kq16 (ninS hne_wA_icA (ninS (Ne.symm hne_o0_wA) (ninS hne_wA_chA nin0)))
        have c17_6 := f14_4.keep Kq16 (ninS hne_sA_icA (ninS (Ne.symm hne_o0_sA) (ninS hne_sA_chA nin0)))
        have c17_7 := f14_5.keep Kq16 (ninS hne_lA_icA (ninS (Ne.symm hne_o0_lA) (ninS hne_lA_chA nin0)))
        have c17_8 := f14_6.keep Kq16 (ninS hne_hA_icA (ninS (Ne.symm hne_o0_hA) (ninS hne_hA_chA nin0)))
        have c17_11 := f14_7.keep Kq16 (ninS (Ne.symm hne_icA_tvA) (ninS (Ne.symm hne_o0_tvA) (ninS (Ne.symm hne_chA_tvA) nin0)))
        have c17_12 := f14_8.keep Kq16 (ninS (Ne.symm hne_icA_twA) (ninS (Ne.symm hne_o0_twA) (ninS (Ne.symm hne_chA_twA) nin0)))
        have c17_13 := f14_9.keep Kq16 (ninS (Ne.symm hne_icA_tsA) (ninS (Ne.symm hne_o0_tsA) (ninS (Ne.symm hne_chA_tsA) nin0)))
        have c17_14 := f14_10.keep Kq16 (ninS (Ne.symm hne_icA_tzA) (ninS (Ne.symm hne_o0_tzA) (ninS (Ne.symm hne_chA_tzA) nin0)))
        have K16 : Keep h0 T16.heap [tvA, twA, tsA, tzA, o0, lA, hA, sA, icA, chA, wA] := K14.trans Kq16 (allS (Or.inl (by simp)) (allS (Or.inl (by simp)) (allS (Or.inl (by simp)) all0)))
        have Z16 := Nat.le_trans Z14 Kq16.1
        have N16 := Fr.app N14 N16q
        refine Go.via (fun t k => st16.trans k) ?_
        refine Vi (T16.setTop (mkF m 181 #[sR o0, sI p1, sI p2, sI ((sF p1.toNatClampNeg) - (1 : Int32)), .unset] [(.int (if (0 : Int32) < ((sF p1.toNatClampNeg) - (1 : Int32)) then (1 : Int32) else (0 : Int32)))])) (fun tZ kZ => ?_) ?_
        · refine XS.iloadN X16.here hx rfl (hb hby d6_172) rfl ?_
          have sg173 : Steps p.tables e below (T16.setTop (mkF m 181 #[sR o0, sI p1, sI p2, sI ((sF p1.toNatClampNeg) - (1 : Int32)), .unset] [(.int (if (0 : Int32) < ((sF p1.toNatClampNeg) - (1 : Int32)) then (1 : Int32) else (0 : Int32)))])) tZ → Steps p.tables e below (T16.setTop (mkF m 173 #[sR o0, sI p1, sI p2, sI ((sF p1.toNatClampNeg) - (1 : Int32)), .unset] [(.int ((sF p1.toNatClampNeg) - (1 : Int32)))])) tZ := by
            intro kj
            by_cases hc173 : (0 : Int32) < ((sF p1.toNatClampNeg) - (1 : Int32))
            · try simp only [if_pos hc173] at kj
              refine XS.ifNo X16.here hx rfl (hb hby d6_173) rfl ((if0 _ _).trans (tlt hc173).2.2.2) ?_
              refine XS.iconst X16.here hx rfl (hb hby d6_176) ?_
              refine XS.goto X16.here hx rfl (pc0 := 177) (pc' := 181) rfl (hb hby d6_177) (by decide) (by decide) ?_
              exact kj
            · try simp only [if_neg hc173] at kj
              refine XS.ifYes X16.here hx rfl (pc0 := 173) (pc' := 180) rfl (hb hby d6_173) rfl ((if0 _ _).trans (flt hc173).2.2.2) (by decide) (by decide) ?_
              refine XS.iconst X16.here hx rfl (hb hby d6_180) ?_
              exact kj
          refine sg173 ?_
          show Steps p.tables e below (T16.setTop (mkF m 181 #[sR o0, sI p1, sI p2, sI ((sF p1.toNatClampNeg) - (1 : Int32)), .unset] [(.int (if (0 : Int32) < ((sF p1.toNatClampNeg) - (1 : Int32)) then (1 : Int32) else (0 : Int32)))])) _
          exact kZ
        refine Go.retN X16 hx Bd.notSynchronized (t := .boolean) Bd.returns (by simp) (hb hby d6_181) (by decide) (by decide) ?_
        exact ⟨((up lF p1.toNatClampNeg (lF p1.toNatClampNeg))), ((up hF p1.toNatClampNeg (f18 o0 p1 (p2 - (1 : Int32)) lA lF hA hF bA bF wA nW wF))), ((up sF p1.toNatClampNeg ((sF p1.toNatClampNeg) - (1 : Int32)))), (chF_16), (icF_16), ((up tvF tl.toNatClampNeg p1)), ((up twF tl.toNatClampNeg (-1 : Int32))), ((up tsF tl.toNatClampNeg ((((lF p1.toNatClampNeg).toInt64) <<< ((32 : Int32) &&& 0x3f).toInt64) ||| (((hF p1.toNatClampNeg).toInt64) &&& (4294967295 : Int64))))), ((up tzF tl.toNatClampNeg (sF p1.toNatClampNeg))), ((tl + (1 : Int32))), (cc_16), (wF), _, rfl, N16, K16, f16_0, f16_1, f16_2, f16_3, c17_4, c17_5, c17_6, c17_7, c17_8, f16_4, f16_5, c17_11, c17_12, c17_13, c17_14, ⟨own_L3 hI hc6 hc45 hc93, rel16⟩⟩
      · refine Vi (T11.setTop (mkF m 119 #[sR o0, sI p1, sI p2, sI ((sF p1.toNatClampNeg) - (1 : Int32)), .unset] [])) (fun tZ kZ => ?_) ?_
        · show Steps p.tables e below (T11.setTop (mkF m 93 #[sR o0, sI p1, sI p2, sI ((sF p1.toNatClampNeg) - (1 : Int32)), .unset] [(.int (hF p1.toNatClampNeg)), (.int p2)])) _
          refine XS.icmpYes X11.here hx rfl (pc0 := 93) (pc' := 119) rfl (hb hby d6_93) rfl (feq hc93).2 (by decide) (by decide) ?_
          exact kZ
        refine Vi (T11.setTop (mkF m 126 #[sR o0, sI p1, sI p2, sI ((sF p1.toNatClampNeg) - (1 : Int32)), .unset] [(.ref o0), (.int ((p2.toUInt32 >>> ((6 : Int32) &&& 31).toUInt32).toInt32)), (.int p1), (.ref o0)])) (fun tZ kZ => ?_) ?_
        · refine XS.aloadN X11.here hx rfl (hb hby d6_119) rfl rfl ?_
          refine XS.iloadN X11.here hx rfl (hb hby d6_120) rfl ?_
          refine XS.iloadN X11.here hx rfl (hb hby d6_121) rfl ?_
          refine XS.bipush X11.here hx rfl (hb hby d6_122) ?_
          refine XS.iushr X11.here hx rfl (hb hby d6_124) rfl ?_
          refine XS.aloadN X11.here hx rfl (hb hby d6_125) rfl rfl ?_
          exact kZ
        refine GF X11 hx hZ hown (wq hw 33 rfl) e11 (obj_bits ha3) (hb hby d6_126) fun T18 X18 e18 => ?_
        refine Vi (T18.setTop (mkF m 136 #[sR o0, sI p1, sI p2, sI ((sF p1.toNatClampNeg) - (1 : Int32)), .unset] [(.long (wF ((p2.toUInt32 >>> ((6 : Int32) &&& 31).toUInt32).toInt32).toNatClampNeg)), (.int ((p2.toUInt32 >>> ((6 : Int32) &&& 31).toUInt32).toInt32)), (.int p1), (.ref o0)])) (fun tZ kZ => ?_) ?_
        · refine XS.iloadN X18.here hx rfl (hb hby d6_129) rfl ?_
          refine AV.aaload ha4 rfl X18 hx hZ e18 (j := p1) hxb (hb hby d6_130) ?_
          rw [hbx]
          refine XS.iloadN X18.here hx rfl (hb hby d6_131) rfl ?_
          refine XS.bipush X18.here hx rfl (hb hby d6_132) ?_
          refine XS.iushr X18.here hx rfl (hb hby d6_134) rfl ?_
          refine AV.laload ha5 X18 hx hZ e18 (j := ((p2.toUInt32 >>> ((6 : Int32) &&& 31).toUInt32).toInt32)) (hB hcl hch) (hb hby d6_135) ?_
          exact kZ
        obtain ⟨cq19, q19, q19'⟩ := ha0.cell
        obtain ⟨_, _, ⟨T19, L19, k19, n19⟩, -, X19, ⟨Lc19, hQ19, l19, y19, z19⟩, st19⟩ := X18.privateBack hx (y := y12) hown (wz hZ hw 97 rfl) (wz hZ hw 98 rfl) (mvT hZ (own_selp (y := y12) (wq hw 98 rfl) (wq hw 99 rfl) (wq hw 2 rfl) (by decide))) (Cond.privateMethod_at (mvP hZ (wq hw 99 rfl) (args := #[]))) (wz hZ hw 100 rfl) (by decide) (backOf (W := 0) (rm12 l Z a0 hw [] o0 p1 ((p2.toUInt32 >>> ((6 : Int32) &&& 31).toUInt32).toInt32) (wF ((p2.toUInt32 >>> ((6 : Int32) &&& 31).toUInt32).toInt32).toNatClampNeg) tl cc lA hA sA cA chA icA bA tvA twA tsA tzA sF tvF twF tsF tzF h0 n0 Z0 ha0 ha1 ha2 ha3 ha6 ha11 ha12 ha13 ha14 ha15 ha22 ha23 ha24 ha25 hne_o0_sA hne_o0_tvA hne_o0_twA hne_o0_tsA hne_o0_tzA hne_sA_tvA hne_sA_twA hne_sA_tsA hne_sA_tzA hne_tvA_twA hne_tvA_tsA hne_tvA_tzA hne_twA_tsA hne_twA_tzA hne_tsA_tzA hxb htl htb) hZ (wq hw 100 rfl) (wq hw 3 rfl) (by decide) (by decide)) (g := (mkF m 136 #[sR o0, sI p1, sI p2, sI ((sF p1.toNatClampNeg) - (1 : Int32)), .unset] [(.long (wF ((p2.toUInt32 >>> ((6 : Int32) &&& 31).toUInt32).toInt32).toNatClampNeg)), (.int ((p2.toUInt32 >>> ((6 : Int32) &&& 31).toUInt32).toInt32)), (.int p1), (.ref o0)])) rfl (by rw [hml]; rfl) (Steps.refl _) (a := o0) (by rw [e18]; exact q19) q19' (argsL := [(.int p1), (.int ((p2.toUInt32 >>> ((6 : Int32) &&& 31).toUInt32).toInt32)), (.long (wF ((p2.toUInt32 >>> ((6 : Int32) &&& 31).toUInt32).toInt32).toNatClampNeg))]) (rest := []) (lenOf pd_8 rfl) rfl (leW rfl) (hb hby d6_136) (fun _ _ => ⟨rfl, e18, (by decide : 0 + 0 + 0 ≤ _), (by decide : 0 + 0 + 0 ≤ _)⟩)
        dsimp only [Pt.U, Pt.locs, Pt.cells, Pt.slots] at X19 l19 y19 z19 st19 hQ19
        subst l19 y19 z19
        obtain ⟨rfl, N19q, Kq19, f19_0, f19_1, f19_2, f19_3, f19_4, f19_5, f19_6, f19_7, f19_8⟩ := hQ19
        have c20_4 := ha4.keep Kq19 (ninS hne_bA_tvA (ninS hne_bA_twA (ninS hne_bA_tsA (ninS hne_bA_tzA (ninS (Ne.symm hne_o0_bA) nin0)))))
        have c20_5 := ha5.keep Kq19 (ninS hne_wA_tvA (ninS hne_wA_twA (ninS hne_wA_tsA (ninS hne_wA_tzA (ninS (Ne.symm hne_o0_wA) nin0)))))
        have c20_7 := ha7.keep Kq19 (ninS hne_lA_tvA (ninS hne_lA_twA (ninS hne_lA_tsA (ninS hne_lA_tzA (ninS (Ne.symm hne_o0_lA) nin0)))))
        have c20_8 := ha8.keep Kq19 (ninS hne_hA_tvA (ninS hne_hA_twA (ninS hne_hA_tsA (ninS hne_hA_tzA (ninS (Ne.symm hne_o0_hA) nin0)))))
        have c20_9 := ha9.keep Kq19 (ninS hne_chA_tvA (ninS hne_chA_twA (ninS hne_chA_tsA (ninS hne_chA_tzA (ninS (Ne.symm hne_o0_chA) nin0)))))
        have c20_10 := ha10.keep Kq19 (ninS hne_icA_tvA (ninS hne_icA_twA (ninS hne_icA_tsA (ninS hne_icA_tzA (ninS (Ne.symm hne_o0_icA) nin0)))))
        have K19 : Keep h0 T19.heap [tvA, twA, tsA, tzA, o0, lA, hA, sA, icA, chA, wA] := (Keep.refl h0 [tvA, twA, tsA, tzA, o0, lA, hA, sA, icA, chA, wA]).trans Kq19 (allS (Or.inl (by simp)) (allS (Or.inl (by simp)) (allS (Or.inl (by simp)) (allS (Or.inl (by simp)) (allS (Or.inl (by simp)) all0)))))
        have Z19 := Nat.le_trans Z0 Kq19.1
        have N19 := Fr.app N1 N19q
        refine Go.via (fun t k => st19.trans k) ?_
        refine Vi (T19.setTop (mkF m 140 #[sR o0, sI p1, sI p2, sI ((sF p1.toNatClampNeg) - (1 : Int32)), .unset] [(.ref o0)])) (fun tZ kZ => ?_) ?_
        · refine XS.aloadN X19.here hx rfl (hb hby d6_139) rfl rfl ?_
          exact kZ
        refine GF X19 hx hZ hown (wq hw 33 rfl) rfl (obj_bits f19_3) (hb hby d6_140) fun T21 X21 e21 => ?_
        refine Vi (T21.setTop (mkF m 159 #[sR o0, sI p1, sI p2, sI ((sF p1.toNatClampNeg) - (1 : Int32)), .unset] [(.long ((wF ((p2.toUInt32 >>> ((6 : Int32) &&& 31).toUInt32).toInt32).toNatClampNeg) &&& (((1 : Int64) <<< (p2 &&& 0x3f).toInt64) ^^^ (-1 : Int64)))), (.int ((p2.toUInt32 >>> ((6 : Int32) &&& 31).toUInt32).toInt32)), (.ref wA)])) (fun tZ kZ => ?_) ?_
        · refine XS.iloadN X21.here hx rfl (hb hby d6_143) rfl ?_
          refine AV.aaload c20_4 rfl X21 hx hZ e21 (j := p1) hxb (hb hby d6_144) ?_
          rw [hbx]
          refine XS.iloadN X21.here hx rfl (hb hby d6_145) rfl ?_
          refine XS.bipush X21.here hx rfl (hb hby d6_146) ?_
          refine XS.iushr X21.here hx rfl (hb hby d6_148) rfl ?_
          refine Jvm.Free.XT.dup2 X21.here hx rfl (hb hby d6_149) rfl rfl rfl ?_
          refine AV.laload c20_5 X21 hx hZ e21 (j := ((p2.toUInt32 >>> ((6 : Int32) &&& 31).toUInt32).toInt32)) (hB hcl hch) (hb hby d6_150) ?_
          refine XS.lconst X21.here hx rfl (hb hby d6_151) ?_
          refine XS.iloadN X21.here hx rfl (hb hby d6_152) rfl ?_
          refine XS.lshl X21.here hx rfl (hb hby d6_153) rfl ?_
          refine X21.ldc2Long hx hown (wz hZ hw 52 rfl) (g := (mkF m 154 #[sR o0, sI p1, sI p2, sI ((sF p1.toNatClampNeg) - (1 : Int32)), .unset] [(.long ((1 : Int64) <<< (p2 &&& 0x3f).toInt64)), (.long (wF ((p2.toUInt32 >>> ((6 : Int32) &&& 31).toUInt32).toInt32).toNatClampNeg)), (.int ((p2.toUInt32 >>> ((6 : Int32) &&& 31).toUInt32).toInt32)), (.ref wA)])) rfl (hb hby d6_154) _ ?_
          refine XS.lxor X21.here hx rfl (hb hby d6_157) rfl ?_
          refine XS.land X21.here hx rfl (hb hby d6_158) rfl ?_
          exact kZ
        obtain ⟨T22, h22, X22, e22, W22, V22, st22⟩ := AV.lastore c20_5 X21 hx hZ e21 (j := ((p2.toUInt32 >>> ((6 : Int32) &&& 31).toUInt32).toInt32)) (hB hcl hch) (Ls := #[sR o0, sI p1, sI p2, sI ((sF p1.toNatClampNeg) - (1 : Int32)), .unset]) (rest := []) (hb hby d6_159) (x := ((wF ((p2.toUInt32 >>> ((6 : Int32) &&& 31).toUInt32).toInt32).toNatClampNeg) &&& (((1 : Int64) <<< (p2 &&& 0x3f).toInt64) ^^^ (-1 : Int64))))
        have N22 := Fr.snoc X22 N19 ha16
        have c23_0 := f19_0.wr W22
        have c23_1 := f19_1.other W22 (Or.inl hne_o0_wA)
        have c23_2 := f19_2.other W22 (Or.inl hne_o0_wA)
        have c23_3 := obj_oth f19_3 W22 hne_o0_wA
        have c23_4 := c20_4.other W22 hne_bA_wA
        have c23_6 := f19_4.other W22 (Ne.symm hne_wA_sA)
        have c23_7 := c20_7.other W22 (Ne.symm hne_wA_lA)
        have c23_8 := c20_8.other W22 (Ne.symm hne_wA_hA)
        have c23_9 := c20_9.other W22 (Ne.symm hne_wA_chA)
        have c23_10 := c20_10.other W22 (Ne.symm hne_wA_icA)
        have c23_11 := f19_5.other W22 (Ne.symm hne_wA_tvA)
        have c23_12 := f19_6.other W22 (Ne.symm hne_wA_twA)
        have c23_13 := f19_7.other W22 (Ne.symm hne_wA_tsA)
        have c23_14 := f19_8.other W22 (Ne.symm hne_wA_tzA)
        have K22 : Keep h0 h22 [tvA, twA, tsA, tzA, o0, lA, hA, sA, icA, chA, wA] := K19.wr W22 (Or.inl (by simp))
        have Z22 := Nat.le_trans Z19 (Keep.of_wr W22).1
        refine Go.via st22 ?_
        refine Vi (T22.setTop (mkF m 161 #[sR o0, sI p1, sI p2, sI ((sF p1.toNatClampNeg) - (1 : Int32)), .unset] [(.ref o0)])) (fun tZ kZ => ?_) ?_
        · refine XS.aloadN X22.here hx rfl (hb hby d6_160) rfl rfl ?_
          exact kZ
        refine GF X22 hx hZ hown (wq hw 35 rfl) e22 (obj_sizes c23_3) (hb hby d6_161) fun T24 X24 e24 => ?_
        refine Vi (T24.setTop (mkF m 166 #[sR o0, sI p1, sI p2, sI ((sF p1.toNatClampNeg) - (1 : Int32)), .unset] [(.int ((sF p1.toNatClampNeg) - (1 : Int32))), (.int p1), (.ref sA)])) (fun tZ kZ => ?_) ?_
        · refine XS.iloadN X24.here hx rfl (hb hby d6_164) rfl ?_
          refine XS.iloadN X24.here hx rfl (hb hby d6_165) rfl ?_
          exact kZ
        obtain ⟨T25, h25, X25, e25, W25, V25, st25⟩ := AV.iastore c23_6 X24 hx hZ e24 (j := p1) hxb (Ls := #[sR o0, sI p1, sI p2, sI ((sF p1.toNatClampNeg) - (1 : Int32)), .unset]) (rest := []) (hb hby d6_166) (x := ((sF p1.toNatClampNeg) - (1 : Int32)))
        have N25 := Fr.snoc X25 N22 ha17
        have c26_0 := c23_0.wr W25
        have c26_1 := c23_1.other W25 (Or.inl hne_o0_sA)
        have c26_2 := c23_2.other W25 (Or.inl hne_o0_sA)
        have c26_3 := obj_oth c23_3 W25 hne_o0_sA
        have c26_4 := c23_4.other W25 hne_bA_sA
        have c26_5 := V22.other W25 hne_wA_sA
        have c26_7 := c23_7.other W25 (Ne.symm hne_sA_lA)
        have c26_8 := c23_8.other W25 (Ne.symm hne_sA_hA)
        have c26_9 := c23_9.other W25 (Ne.symm hne_sA_chA)
        have c26_10 := c23_10.other W25 (Ne.symm hne_sA_icA)
        have c26_11 := c23_11.other W25 (Ne.symm hne_sA_tvA)
        have c26_12 := c23_12.other W25 (Ne.symm hne_sA_twA)
        have c26_13 := c23_13.other W25 (Ne.symm hne_sA_tsA)
        have c26_14 := c23_14.other W25 (Ne.symm hne_sA_tzA)
        have K25 : Keep h0 h25 [tvA, twA, tsA, tzA, o0, lA, hA, sA, icA, chA, wA] := K22.wr W25 (Or.inl (by simp))
        have Z25 := Nat.le_trans Z22 (Keep.of_wr W25).1
        refine Go.via st25 ?_
        refine Vi (T25.setTop (mkF m 169 #[sR o0, sI p1, sI p2, sI ((sF p1.toNatClampNeg) - (1 : Int32)), .unset] [(.int p1), (.ref o0)])) (fun tZ kZ => ?_) ?_
        · refine XS.aloadN X25.here hx rfl (hb hby d6_167) rfl rfl ?_
          refine XS.iloadN X25.here hx rfl (hb hby d6_168) rfl ?_
          exact kZ
        obtain ⟨cq27, q27, q27'⟩ := c26_0.cell
        obtain ⟨_, _, ⟨T27, L27, k27, n27⟩, -, X27, ⟨Lc27, hQ27, l27, y27, z27⟩, st27⟩ := X25.privateBack hx (y := y13) hown (wz hZ hw 101 rfl) (wz hZ hw 102 rfl) (mvT hZ (own_selp (y := y13) (wq hw 102 rfl) (wq hw 103 rfl) (wq hw 2 rfl) (by decide))) (Cond.privateMethod_at (mvP hZ (wq hw 103 rfl) (args := #[]))) (wz hZ hw 104 rfl) (by decide) (backOf (W := 0) (rm13 l Z a0 hw [] o0 p1 (tl + (1 : Int32)) cc lA hA sA cA chA icA bA tvA twA tsA tzA chF icF h25 n0 Z25 c26_0 c26_1 c26_2 c26_3 c26_9 c26_10 ha15 ha20 ha21 hne_o0_chA hne_o0_icA hne_chA_icA hx1 hNC) hZ (wq hw 104 rfl) (wq hw 3 rfl) (by decide) (by decide)) (g := (mkF m 169 #[sR o0, sI p1, sI p2, sI ((sF p1.toNatClampNeg) - (1 : Int32)), .unset] [(.int p1), (.ref o0)])) rfl (by rw [hml]; rfl) (Steps.refl _) (a := o0) (by rw [e25]; exact q27) q27' (argsL := [(.int p1)]) (rest := []) (lenOf pd_9 rfl) rfl (leW rfl) (hb hby d6_169) (fun _ _ => ⟨rfl, e25, (by decide : 0 + 0 + 0 + 0 ≤ _), (by decide : 0 + 0 + 0 + 0 ≤ _)⟩)
        dsimp only [Pt.U, Pt.locs, Pt.cells, Pt.slots] at X27 l27 y27 z27 st27 hQ27
        subst l27 y27 z27
        obtain ⟨chF_27, icF_27, cc_27, rr27, rfl, N27q, Kq27, f27_0, f27_1, f27_2, f27_3, f27_4, f27_5, rel27⟩ := hQ27
        have c28_4 := c26_4.keep Kq27 (ninS hne_bA_icA (ninS (Ne.symm hne_o0_bA) (ninS hne_bA_chA nin0)))
        have c28_5 := c26_5.keep Kq27 (ninS hne_wA_icA (ninS (Ne.symm hne_o0_wA) (ninS hne_wA_chA nin0)))
        have c28_6 := V25.keep Kq27 (ninS hne_sA_icA (ninS (Ne.symm hne_o0_sA) (ninS hne_sA_chA nin0)))
        have c28_7 := c26_7.keep Kq27 (ninS hne_lA_icA (ninS (Ne.symm hne_o0_lA) (ninS hne_lA_chA nin0)))
        have c28_8 := c26_8.keep Kq27 (ninS hne_hA_icA (ninS (Ne.symm hne_o0_hA) (ninS hne_hA_chA nin0)))
        have c28_11 := c26_11.keep Kq27 (ninS (Ne.symm hne_icA_tvA) (ninS (Ne.symm hne_o0_tvA) (ninS (Ne.symm hne_chA_tvA) nin0)))
        have c28_12 := c26_12.keep Kq27 (ninS (Ne.symm hne_icA_twA) (ninS (Ne.symm hne_o0_twA) (ninS (Ne.symm hne_chA_twA) nin0)))
        have c28_13 := c26_13.keep Kq27 (ninS (Ne.symm hne_icA_tsA) (ninS (Ne.symm hne_o0_tsA) (ninS (Ne.symm hne_chA_tsA) nin0)))
        have c28_14 := c26_14.keep Kq27 (ninS (Ne.symm hne_icA_tzA) (ninS (Ne.symm hne_o0_tzA) (ninS (Ne.symm hne_chA_tzA) nin0)))
        have K27 : Keep h0 T27.heap [tvA, twA, tsA, tzA, o0, lA, hA, sA, icA, chA, wA] := K25.trans Kq27 (allS (Or.inl (by simp)) (allS (Or.inl (by simp)) (allS (Or.inl (by simp)) all0)))
        have Z27 := Nat.le_trans Z25 Kq27.1
        have N27 := Fr.app N25 N27q
        refine Go.via (fun t k => st27.trans k) ?_
        refine Vi (T27.setTop (mkF m 181 #[sR o0, sI p1, sI p2, sI ((sF p1.toNatClampNeg) - (1 : Int32)), .unset] [(.int (if (0 : Int32) < ((sF p1.toNatClampNeg) - (1 : Int32)) then (1 : Int32) else (0 : Int32)))])) (fun tZ kZ => ?_) ?_
        · refine XS.iloadN X27.here hx rfl (hb hby d6_172) rfl ?_
          have sg173 : Steps p.tables e below (T27.setTop (mkF m 181 #[sR o0, sI p1, sI p2, sI ((sF p1.toNatClampNeg) - (1 : Int32)), .unset] [(.int (if (0 : Int32) < ((sF p1.toNatClampNeg) - (1 : Int32)) then (1 : Int32) else (0 : Int32)))])) tZ → Steps p.tables e below (T27.setTop (mkF m 173 #[sR o0, sI p1, sI p2, sI ((sF p1.toNatClampNeg) - (1 : Int32)), .unset] [(.int ((sF p1.toNatClampNeg) - (1 : Int32)))])) tZ := by
            intro kj
            by_cases hc173 : (0 : Int32) < ((sF p1.toNatClampNeg) - (1 : Int32))
            · try simp only [if_pos hc173] at kj
              refine XS.ifNo X27.here hx rfl (hb hby d6_173) rfl ((if0 _ _).trans (tlt hc173).2.2.2) ?_
              refine XS.iconst X27.here hx rfl (hb hby d6_176) ?_
              refine XS.goto X27.here hx rfl (pc0 := 177) (pc' := 181) rfl (hb hby d6_177) (by decide) (by decide) ?_
              exact kj
            · try simp only [if_neg hc173] at kj
              refine XS.ifYes X27.here hx rfl (pc0 := 173) (pc' := 180) rfl (hb hby d6_173) rfl ((if0 _ _).trans (flt hc173).2.2.2) (by decide) (by decide) ?_
              refine XS.iconst X27.here hx rfl (hb hby d6_180) ?_
              exact kj
          refine sg173 ?_
          show Steps p.tables e below (T27.setTop (mkF m 181 #[sR o0, sI p1, sI p2, sI ((sF p1.toNatClampNeg) - (1 : Int32)), .unset] [(.int (if (0 : Int32) < ((sF p1.toNatClampNeg) - (1 : Int32)) then (1 : Int32) else (0 : Int32)))])) _
          exact kZ
        refine Go.retN X27 hx Bd.notSynchronized (t := .boolean) Bd.returns (by simp) (hb hby d6_181) (by decide) (by decide) ?_
        exact ⟨(lF), (hF), ((up sF p1.toNatClampNeg ((sF p1.toNatClampNeg) - (1 : Int32)))), (chF_27), (icF_27), ((up tvF tl.toNatClampNeg p1)), ((up twF tl.toNatClampNeg ((p2.toUInt32 >>> ((6 : Int32) &&& 31).toUInt32).toInt32))), ((up tsF tl.toNatClampNeg (wF ((p2.toUInt32 >>> ((6 : Int32) &&& 31).toUInt32).toInt32).toNatClampNeg))), ((up tzF tl.toNatClampNeg (sF p1.toNatClampNeg))), ((tl + (1 : Int32))), (cc_27), ((up wF ((p2.toUInt32 >>> ((6 : Int32) &&& 31).toUInt32).toInt32).toNatClampNeg ((wF ((p2.toUInt32 >>> ((6 : Int32) &&& 31).toUInt32).toInt32).toNatClampNeg) &&& (((1 : Int64) <<< (p2 &&& 0x3f).toInt64) ^^^ (-1 : Int64))))), _, rfl, N27, K27, f27_0, f27_1, f27_2, f27_3, c28_4, c28_5, c28_6, c28_7, c28_8, f27_4, f27_5, c28_11, c28_12, c28_13, c28_14, ⟨own_L4 hI hc6 hc45 hc93, rel27⟩⟩
theorem d5_0 : DC B5 0 (.iconst 0) 1 := by decide +kernel
theorem d5_1 : DC B5 1 (.istore_n 1) 1 := by decide +kernel
theorem d5_2 : DC B5 2 (.iload_n 1) 1 := by decide +kernel
theorem d5_3 : DC B5 3 (.aload_n 0) 1 := by decide +kernel
theorem d5_4 : DC B5 4 (.getfield 128) 3 := by decide +kernel
theorem d5_7 : DC B5 7 (.if_icmp .ge 21) 3 := by decide +kernel
theorem d5_28 : DC B5 28 (.aload_n 0) 1 := by decide +kernel
theorem d5_29 : DC B5 29 (.iconst 0) 1 := by decide +kernel
theorem d5_30 : DC B5 30 (.putfield 128) 3 := by decide +kernel
theorem d5_33 : DC B5 33 (.return_) 1 := by decide +kernel
def Q5 (Z : State) (o0 : Addr) (tl : Int32) (lA : Addr) (hA : Addr) (sA : Addr) (cA : Addr) (chA : Addr) (icA : Addr) (bA : Addr) (tvA : Addr) (twA : Addr) (tsA : Addr) (tzA : Addr) (h0 : Heap) (n0 : Nat) (v : Option Value) (h : Heap) (L : List Loc) : Prop := v = none ∧ Fr n0 L ∧ Keep h0 h [o0] ∧ Exa Z h o0 Dn ∧ Fld Z h o0 Dn "trailLength" "I" (.int tl) ∧ Fld Z h o0 Dn "changedCount" "I" (.int 0) ∧ Obj Z h o0 lA hA sA cA chA icA bA tvA twA tsA tzA
theorem ef_5_a (m : MethodId) (x0 : Addr) : entryFrame m #[(.ref x0)] 2 = mkF m 0 #[.val (.ref x0), .unset] [] := by first | (simp [entryFrame, mkF, argsToLocals, Value.category]; done) | rfl
theorem rm5 (l : Launch) (Z : State) (a0 : Array Value) (hw : HW a0 Z) (ws : List Jvm.Cond) (o0 : Addr) (tl : Int32) (lA : Addr) (hA : Addr) (sA : Addr) (cA : Addr) (chA : Addr) (icA : Addr) (bA : Addr) (tvA : Addr) (twA : Addr) (tsA : Addr) (tzA : Addr) (h0 : Heap) (n0 : Nat) (Z0 : n0 ≤ h0.size) (ha0 : Exa Z h0 o0 Dn) (ha1 : Fld Z h0 o0 Dn "trailLength" "I" (.int tl)) (ha2 : Fld Z h0 o0 Dn "changedCount" "I" (.int 0)) (ha3 : Obj Z h0 o0 lA hA sA cA chA icA bA tvA twA tsA tzA) (ha4 : n0 ≤ o0) :
    MetFree l y5 (head1 (Jvm.Cond.code y5 prog_22_method_18_code 2 none :: ws) RM_0_0_0_0) (fun a U => a = #[(.ref o0)] ∧ Z.Warmed39 U.vm ∧ U.heap = h0) (fun _ _ _ _ _ => True) (fun _ U o U' => ∃ v L, o = .returned v ∧ Q5 Z o0 tl lA hA sA cA chA icA bA tvA twA tsA tzA h0 n0 v U'.heap L ∧ FrameEnd U o U' L RM_0_0_0_0.cells RM_0_0_0_0.slots) := by
  refine MetFree.of_bodySF (plainFor_of_name pn_2) hisR ?_
  intro p e s m args below meth c s₁ Bd hml0 hP hK
  obtain ⟨rfl, hZ, hh⟩ := hP
  have hx := Bd.exec
  have hby := Bd.bytes
  have hml : c.maxLocals = 2 := hml0
  have hown : s.vm.findClass Dn = some m.cls := findClass_of_methodNamed Bd.named
  have X0 : Stand p l e RM_0_0_0_0 s m _ below meth c s₁ [] 0 0 := Stand.of_body Bd
  have e0 : s₁.heap = h0 := by rw [← hh, Bd.state]; rfl
  have N0 := Fr.nil n0
  refine Go.into (P := fun oo uu => ∃ v L, oo = .returned v ∧ Q5 Z o0 tl lA hA sA cA chA icA bA tvA twA tsA tzA h0 n0 v uu.heap L ∧ FrameEnd s oo uu L RM_0_0_0_0.cells RM_0_0_0_0.slots) (ef_5_a m o0) ?_
  show Go p e below _ (s₁.setTop (mkF m 0 #[sR o0, .unset] []))
  refine Vi (s₁.setTop (mkF m 4 #[sR o0, sI 0] [(.ref o0), (.int 0)])) (fun tZ kZ => ?_) ?_
  · refine XS.iconst X0.here hx rfl (hb hby d5_0) ?_
    refine XS.istoreN X0.here hx rfl (hb hby d5_1) rfl (l' := #[sR o0, sI 0]) rfl ?_
    refine XS.iloadN X0.here hx rfl (hb hby d5_2) rfl ?_
    refine XS.aloadN X0.here hx rfl (hb hby d5_3) rfl rfl ?_
    exact kZ
  refine GF X0 hx hZ hown (wq hw 64 rfl) e0 ha2 (hb hby d5_4) fun T1 X1 e1 => ?_
  refine Vi (T1.setTop (mkF m 30 #[sR o0, sI 0] [(.int 0), (.ref o0)])) (fun tZ kZ => ?_) ?_
  · refine XS.icmpYes X1.here hx rfl (pc0 := 7) (pc' := 28) rfl (hb hby d5_7) rfl (flt (by decide)).2.1 (by decide) (by decide) ?_
    refine XS.aloadN X1.here hx rfl (hb hby d5_28) rfl rfl ?_
    refine XS.iconst X1.here hx rfl (hb hby d5_29) ?_
    exact kZ
  obtain ⟨T2, h2, X2, e2, W2, st2⟩ := putF X1 hx hZ hown (host := "") (Or.inl (wq hw 64 rfl)) Via.refl e1 ha2 ha0 (Or.inl (wq hw 65 rfl)) (wq hw 2 rfl) (ty := .int) (by decide) rfl rfl (g := (mkF m 30 #[sR o0, sI 0] [(.int 0), (.ref o0)])) rfl rfl (hb hby d5_30)
  have N2 := Fr.snoc X2 N0 ha4
  have c3_0 := ha0.wr W2
  have c3_1 := ha1.other W2 (sn (Or.inl (wq hw 58 rfl)) (Or.inl (wq hw 65 rfl)))
  have c3_3 := obj_w_changedCount hw ha3 W2
  have K2 : Keep h0 h2 [o0] := (Keep.refl h0 [o0]).wr W2 (Or.inl (by simp))
  have Z2 := Nat.le_trans Z0 (Keep.of_wr W2).1
  have Fw2 := ha2.same W2
  refine Go.via st2 ?_
  refine Go.retV X2 hx Bd.notSynchronized Bd.returns (hb hby d5_33) (by decide) (by decide) ?_
  rw [e2]
  exact ⟨rfl, N2, K2, c3_0, c3_1, Fw2, c3_3⟩
theorem d1_0 : DC B1 0 (.aload_n 0) 1 := by decide +kernel
theorem d1_1 : DC B1 1 (.invokespecial 1) 3 := by decide +kernel
theorem d1_4 : DC B1 4 (.aload_n 0) 1 := by decide +kernel
theorem d1_5 : DC B1 5 (.sipush 1024) 3 := by decide +kernel
theorem d1_8 : DC B1 8 (.newarray .int) 2 := by decide +kernel
theorem d1_10 : DC B1 10 (.putfield 7) 3 := by decide +kernel
theorem d1_13 : DC B1 13 (.aload_n 0) 1 := by decide +kernel
theorem d1_14 : DC B1 14 (.sipush 1024) 3 := by decide +kernel
theorem d1_17 : DC B1 17 (.newarray .int) 2 := by decide +kernel
theorem d1_19 : DC B1 19 (.putfield 13) 3 := by decide +kernel
theorem d1_22 : DC B1 22 (.aload_n 0) 1 := by decide +kernel
theorem d1_23 : DC B1 23 (.sipush 1024) 3 := by decide +kernel
theorem d1_26 : DC B1 26 (.newarray .long) 2 := by decide +kernel
theorem d1_28 : DC B1 28 (.putfield 16) 3 := by decide +kernel
theorem d1_31 : DC B1 31 (.aload_n 0) 1 := by decide +kernel
theorem d1_32 : DC B1 32 (.sipush 1024) 3 := by decide +kernel
theorem d1_35 : DC B1 35 (.newarray .int) 2 := by decide +kernel
theorem d1_37 : DC B1 37 (.putfield 20) 3 := by decide +kernel
theorem d1_40 : DC B1 40 (.aload_n 0) 1 := by decide +kernel
theorem d1_41 : DC B1 41 (.aload_n 1) 1 := by decide +kernel
theorem d1_42 : DC B1 42 (.invokevirtual 23) 3 := by decide +kernel
theorem d1_45 : DC B1 45 (.checkcast 24) 3 := by decide +kernel
theorem d1_48 : DC B1 48 (.putfield 28) 3 := by decide +kernel
theorem d1_51 : DC B1 51 (.aload_n 0) 1 := by decide +kernel
theorem d1_52 : DC B1 52 (.aload_n 1) 1 := by decide +kernel
theorem d1_53 : DC B1 53 (.arraylength) 1 := by decide +kernel
theorem d1_54 : DC B1 54 (.anewarray 31) 3 := by decide +kernel
theorem d1_57 : DC B1 57 (.putfield 32) 3 := by decide +kernel
theorem d1_60 : DC B1 60 (.aload_n 0) 1 := by decide +kernel
theorem d1_61 : DC B1 61 (.aload_n 1) 1 := by decide +kernel
theorem d1_62 : DC B1 62 (.arraylength) 1 := by decide +kernel
theorem d1_63 : DC B1 63 (.newarray .int) 2 := by decide +kernel
theorem d1_65 : DC B1 65 (.putfield 36) 3 := by decide +kernel
theorem d1_68 : DC B1 68 (.aload_n 0) 1 := by decide +kernel
theorem d1_69 : DC B1 69 (.aload_n 1) 1 := by decide +kernel
theorem d1_70 : DC B1 70 (.arraylength) 1 := by decide +kernel
theorem d1_71 : DC B1 71 (.newarray .int) 2 := by decide +kernel
theorem d1_73 : DC B1 73 (.putfield 39) 3 := by decide +kernel
theorem d1_76 : DC B1 76 (.aload_n 0) 1 := by decide +kernel
theorem d1_77 : DC B1 77 (.aload_n 1) 1 := by decide +kernel
theorem d1_78 : DC B1 78 (.arraylength) 1 := by decide +kernel
theorem d1_79 : DC B1 79 (.newarray .int) 2 := by decide +kernel
theorem d1_81 : DC B1 81 (.putfield 42) 3 := by decide +kernel
theorem d1_84 : DC B1 84 (.iconst 0) 1 := by decide +kernel
theorem d1_85 : DC B1 85 (.istore_n 2) 1 := by decide +kernel
theorem d1_86 : DC B1 86 (.iload_n 2) 1 := by decide +kernel
theorem d1_87 : DC B1 87 (.aload_n 1) 1 := by decide +kernel
theorem d1_88 : DC B1 88 (.arraylength) 1 := by decide +kernel
theorem d1_89 : DC B1 89 (.if_icmp .ge 26) 3 := by decide +kernel
theorem d1_92 : DC B1 92 (.aload_n 0) 1 := by decide +kernel
theorem d1_93 : DC B1 93 (.getfield 32) 3 := by decide +kernel
theorem d1_96 : DC B1 96 (.iload_n 2) 1 := by decide +kernel
theorem d1_97 : DC B1 97 (.aload_n 1) 1 := by decide +kernel
theorem d1_98 : DC B1 98 (.iload_n 2) 1 := by decide +kernel
theorem d1_99 : DC B1 99 (.iaload) 1 := by decide +kernel
theorem d1_100 : DC B1 100 (.bipush 63) 2 := by decide +kernel
theorem d1_102 : DC B1 102 (.iadd) 1 := by decide +kernel
theorem d1_103 : DC B1 103 (.bipush 6) 2 := by decide +kernel
theorem d1_105 : DC B1 105 (.iushr) 1 := by decide +kernel
theorem d1_106 : DC B1 106 (.newarray .long) 2 := by decide +kernel
theorem d1_108 : DC B1 108 (.aastore) 1 := by decide +kernel
theorem d1_109 : DC B1 109 (.iinc 2 1) 3 := by decide +kernel
theorem d1_112 : DC B1 112 (.goto (-26)) 3 := by decide +kernel
theorem d1_115 : DC B1 115 (.aload_n 0) 1 := by decide +kernel
theorem d1_116 : DC B1 116 (.aload_n 1) 1 := by decide +kernel
theorem d1_117 : DC B1 117 (.arraylength) 1 := by decide +kernel
theorem d1_118 : DC B1 118 (.newarray .int) 2 := by decide +kernel
theorem d1_120 : DC B1 120 (.putfield 45) 3 := by decide +kernel
theorem d1_123 : DC B1 123 (.aload_n 0) 1 := by decide +kernel
theorem d1_124 : DC B1 124 (.aload_n 1) 1 := by decide +kernel
theorem d1_125 : DC B1 125 (.arraylength) 1 := by decide +kernel
theorem d1_126 : DC B1 126 (.newarray .boolean) 2 := by decide +kernel
theorem d1_128 : DC B1 128 (.putfield 48) 3 := by decide +kernel
theorem d1_131 : DC B1 131 (.return_) 1 := by decide +kernel
def Q1 (Z : State) (o0 : Addr) (o1 : Addr) (cF : Nat → Int32) (nU : Nat) (nV : Nat) (h0 : Heap) (n0 : Nat) (v : Option Value) (h : Heap) (L : List Loc) : Prop := v = none ∧ Fr n0 L ∧ ∃ b2 : Addr, ∃ b6 : Addr, ∃ b10 : Addr, ∃ b14 : Addr, ∃ b18 : Addr, ∃ b23 : Addr, ∃ b27 : Addr, ∃ b31 : Addr, ∃ b35 : Addr, ∃ b40 : Addr, ∃ b45 : Addr, ∃ b49 : Addr, ∃ b53 : Addr, h0.size ≤ b2 ∧ h0.size ≤ b6 ∧ h0.size ≤ b10 ∧ h0.size ≤ b14 ∧ h0.size ≤ b18 ∧ h0.size ≤ b23 ∧ h0.size ≤ b27 ∧ h0.size ≤ b31 ∧ h0.size ≤ b35 ∧ h0.size ≤ b40 ∧ h0.size ≤ b45 ∧ h0.size ≤ b49 ∧ h0.size ≤ b53 ∧ b2 ≠ b6 ∧ b2 ≠ b10 ∧ b2 ≠ b14 ∧ b2 ≠ b18 ∧ b2 ≠ b23 ∧ b2 ≠ b27 ∧ b2 ≠ b31 ∧ b2 ≠ b35 ∧ b2 ≠ b40 ∧ b2 ≠ b45 ∧ b2 ≠ b49 ∧ b2 ≠ b53 ∧ b6 ≠ b10 ∧ b6 ≠ b14 ∧ b6 ≠ b18 ∧ b6 ≠ b23 ∧ b6 ≠ b27 ∧ b6 ≠ b31 ∧ b6 ≠ b35 ∧ b6 ≠ b40 ∧ b6 ≠ b45 ∧ b6 ≠ b49 ∧ b6 ≠ b53 ∧ b10 ≠ b14 ∧ b10 ≠ b18 ∧ b10 ≠ b23 ∧ b10 ≠ b27 ∧ b10 ≠ b31 ∧ b10 ≠ b35 ∧ b10 ≠ b40 ∧ b10 ≠ b45 ∧ b10 ≠ b49 ∧ b10 ≠ b53 ∧ b14 ≠ b18 ∧ b14 ≠ b23 ∧ b14 ≠ b27 ∧ b14 ≠ b31 ∧ b14 ≠ b35 ∧ b14 ≠ b40 ∧ b14 ≠ b45 ∧ b14 ≠ b49 ∧ b14 ≠ b53 ∧ b18 ≠ b23 ∧ b18 ≠ b27 ∧ b18 ≠ b31 ∧ b18 ≠ b35 ∧ b18 ≠ b40 ∧ b18 ≠ b45 ∧ b18 ≠ b49 ∧ b18 ≠ b53 ∧ b23 ≠ b27 ∧ b23 ≠ b31 ∧ b23 ≠ b35 ∧ b23 ≠ b40 ∧ b23 ≠ b45 ∧ b23 ≠ b49 ∧ b23 ≠ b53 ∧ b27 ≠ b31 ∧ b27 ≠ b35 ∧ b27 ≠ b40 ∧ b27 ≠ b45 ∧ b27 ≠ b49 ∧ b27 ≠ b53 ∧ b31 ≠ b35 ∧ b31 ≠ b40 ∧ b31 ≠ b45 ∧ b31 ≠ b49 ∧ b31 ≠ b53 ∧ b35 ≠ b40 ∧ b35 ≠ b45 ∧ b35 ≠ b49 ∧ b35 ≠ b53 ∧ b40 ≠ b45 ∧ b40 ≠ b49 ∧ b40 ≠ b53 ∧ b45 ≠ b49 ∧ b45 ≠ b53 ∧ b49 ≠ b53 ∧ Keep h0 h [o0] ∧ Exa Z h o0 Dn ∧ Fld Z h o0 Dn "trailLength" "I" (.int 0) ∧ Fld Z h o0 Dn "changedCount" "I" (.int 0) ∧ Fld Z h o0 Dn "listener" "Lcom/example/whittle/whittle/engine/Domains$RemovalListener;" .null ∧ Fld Z h o0 Dn "low" "[I" (.ref b31) ∧ Fld Z h o0 Dn "high" "[I" (.ref b35) ∧ Fld Z h o0 Dn "sizes" "[I" (.ref b27) ∧ Fld Z h o0 Dn "capacities" "[I" (.ref b18) ∧ Fld Z h o0 Dn "changed" "[I" (.ref b49) ∧ Fld Z h o0 Dn "isChanged" "[Z" (.ref b53) ∧ Fld Z h o0 Dn "bits" "[[J" (.ref b23) ∧ Fld Z h o0 Dn "trailVariable" "[I" (.ref b2) ∧ Fld Z h o0 Dn "trailWord" "[I" (.ref b6) ∧ Fld Z h o0 Dn "trailSaved" "[J" (.ref b10) ∧ Fld Z h o0 Dn "trailSize" "[I" (.ref b14) ∧ Exa Z h o1 "[I" ∧ AV Z h o1 .int 2 (fun k => .int (cF k)) ∧ Exa Z h b2 "[I" ∧ AV Z h b2 .int 1024 (fun k => .int ((fun _ => (0 : Int32)) k)) ∧ Exa Z h b6 "[I" ∧ AV Z h b6 .int 1024 (fun k => .int ((fun _ => (0 : Int32)) k)) ∧ Exa Z h b10 "[J" ∧ AV Z h b10 .long 1024 (fun k => .long ((fun _ => (0 : Int64)) k)) ∧ Exa Z h b14 "[I" ∧ AV Z h b14 .int 1024 (fun k => .int ((fun _ => (0 : Int32)) k)) ∧ AV Z h b18 .int 2 (fun k => .int (cF k)) ∧ Exa Z h b18 "[I" ∧ AV Z h b23 (.array .long) 2 (up (up (fun _ => Value.null) (0 : Int32).toNatClampNeg (.ref b40)) (1 : Int32).toNatClampNeg (.ref b45)) ∧ Exa Z h b23 "[[J" ∧ OV Z h b23 .long "[J" ∧ Exa Z h b27 "[I" ∧ AV Z h b27 .int 2 (fun k => .int ((fun _ => (0 : Int32)) k)) ∧ Exa Z h b31 "[I" ∧ AV Z h b31 .int 2 (fun k => .int ((fun _ => (0 : Int32)) k)) ∧ Exa Z h b35 "[I" ∧ AV Z h b35 .int 2 (fun k => .int ((fun _ => (0 : Int32)) k)) ∧ Exa Z h b40 "[J" ∧ AV Z h b40 .long nU (fun k => .long ((fun _ => (0 : Int64)) k)) ∧ Exa Z h b45 "[J" ∧ AV Z h b45 .long nV (fun k => .long ((fun _ => (0 : Int64)) k)) ∧ Exa Z h b49 "[I" ∧ AV Z h b49 .int 2 (fun k => .int ((fun _ => (0 : Int32)) k)) ∧ Exa Z h b53 "[Z" ∧ AV Z h b53 .boolean 2 (fun k => .int ((fun _ => (0 : Int32)) k))
abbrev RM_1_13_4114_15 : Room := { frames := 1, cells := 13, slots := 4114, locals := 15 }
theorem ef_1_aa (m : MethodId) (x0 : Addr) (x1 : Addr) : entryFrame m #[(.ref x0), (.ref x1)] 3 = mkF m 0 #[.val (.ref x0), .val (.ref x1), .unset] [] := by first | (simp [entryFrame, mkF, argsToLocals, Value.category]; done) | rfl
theorem rm1 (l : Launch) (Z : State) (a0 : Array Value) (hw : HW a0 Z) (ws : List Jvm.Cond) (o0 : Addr) (o1 : Addr) (cF : Nat → Int32) (nU : Nat) (nV : Nat) (h0 : Heap) (n0 : Nat) (Z0 : n0 ≤ h0.size) (ha0 : Exa Z h0 o0 Dn) (ha1 : Fld Z h0 o0 Dn "trailLength" "I" (.int 0)) (ha2 : Fld Z h0 o0 Dn "changedCount" "I" (.int 0)) (ha3 : Fld Z h0 o0 Dn "listener" "Lcom/example/whittle/whittle/engine/Domains$RemovalListener;" .null) (ha4 : Fld Z h0 o0 Dn "low" "[I" .null) (ha5 : Fld Z h0 o0 Dn "high" "[I" .null) (ha6 : Fld Z h0 o0 Dn "sizes" "[I" .null) (ha7 : Fld Z h0 o0 Dn "capacities" "[I" .null) (ha8 : Fld Z h0 o0 Dn "changed" "[I" .null) (ha9 : Fld Z h0 o0 Dn "isChanged" "[Z" .null) (ha10 : Fld Z h0 o0 Dn "bits" "[[J" .null) (ha11 : Fld Z h0 o0 Dn "trailVariable" "[I" .null) (ha12 : Fld Z h0 o0 Dn "trailWord" "[I" .null) (ha13 : Fld Z h0 o0 Dn "trailSaved" "[J" .null) (ha14 : Fld Z h0 o0 Dn "trailSize" "[I" .null) (ha15 : n0 ≤ o0) (ha16 : Exa Z h0 o1 "[I") (ha17 : AV Z h0 o1 .int 2 (fun k => .int (cF k))) (hne_o0_o1 : o0 ≠ o1) (hn0a : ¬ ((((cF (0 : Int32).toNatClampNeg) + (63 : Int32)).toUInt32 >>> ((6 : Int32) &&& 31).toUInt32).toInt32) < 0) (hn1a : ((((cF (0 : Int32).toNatClampNeg) + (63 : Int32)).toUInt32 >>> ((6 : Int32) &&& 31).toUInt32).toInt32).toNatClampNeg ≤ 2) (hn2a : ((((cF (0 : Int32).toNatClampNeg) + (63 : Int32)).toUInt32 >>> ((6 : Int32) &&& 31).toUInt32).toInt32).toNatClampNeg = nU) (hn0b : ¬ ((((cF (1 : Int32).toNatClampNeg) + (63 : Int32)).toUInt32 >>> ((6 : Int32) &&& 31).toUInt32).toInt32) < 0) (hn1b : ((((cF (1 : Int32).toNatClampNeg) + (63 : Int32)).toUInt32 >>> ((6 : Int32) &&& 31).toUInt32).toInt32).toNatClampNeg ≤ 2) (hn2b : ((((cF (1 : Int32).toNatClampNeg) + (63 : Int32)).toUInt32 >>> ((6 : Int32) &&& 31).toUInt32).toInt32).toNatClampNeg = nV) :
    MetFree l y1 (head1 (Jvm.Cond.code y1 prog_22_method_1_code 3 none :: ws) RM_1_13_4114_15) (fun a U => a = #[(.ref o0), (.ref o1)] ∧ Z.Warmed39 U.vm ∧ U.heap = h0) (fun _ _ _ _ _ => True) (fun _ U o U' => ∃ v L, o = .returned v ∧ Q1 Z o0 o1 cF nU nV h0 n0 v U'.heap L ∧ FrameEnd U o U' L RM_1_13_4114_15.cells RM_1_13_4114_15.slots) := by
  refine MetFree.of_bodySF (plainFor_of_name pn_2) hisR ?_
  intro p e s m args below meth c s₁ Bd hml0 hP hK
  obtain ⟨rfl, hZ, hh⟩ := hP
  have hx := Bd.exec
  have hby := Bd.bytes
  have hml : c.maxLocals = 3 := hml0
  have hown : s.vm.findClass Dn = some m.cls := findClass_of_methodNamed Bd.named
  have hnm := (name_of_methodNamed Bd.named Bd.method).1
  have X0 : Stand p l e RM_1_13_4114_15 s m _ below meth c s₁ [] 0 0 := Stand.of_body Bd
  have e0 : s₁.heap = h0 := by rw [← hh, Bd.state]; rfl
  have N0 := Fr.nil n0
  refine Go.into (P := fun oo uu => ∃ v L, oo = .returned v ∧ Q1 Z o0 o1 cF nU nV h0 n0 v uu.heap L ∧ FrameEnd s oo uu L RM_1_13_4114_15.cells RM_1_13_4114_15.slots) (ef_1_aa m o0 o1) ?_
  show Go p e below _ (s₁.setTop (mkF m 0 #[sR o0, sR o1, .unset] []))
  refine Vi (s₁.setTop (mkF m 1 #[sR o0, sR o1, .unset] [(.ref o0)])) (fun tZ kZ => ?_) ?_
  · refine XS.aloadN X0.here hx rfl (hb hby d1_0) rfl rfl ?_
    exact kZ
  obtain ⟨T1, X1, e1, st1⟩ := initO X0 hx hZ hown (wq hw 8 rfl) (wq hw 9 rfl) (wq hw 10 rfl) e0 (g := (mkF m 1 #[sR o0, sR o1, .unset] [(.ref o0)])) rfl (by rw [hml]; rfl) rfl (hb hby d1_1) (by decide) (W := 0) (by show 2 * 0 + _ ≤ _; exact Nat.le_of_eq rfl) (by decide)
  refine Go.via st1 ?_
  refine Vi (T1.setTop (mkF m 8 #[sR o0, sR o1, .unset] [(.int 1024), (.ref o0)])) (fun tZ kZ => ?_) ?_
  · refine XS.aloadN X1.here hx rfl (hb hby d1_4) rfl rfl ?_
    refine XS.sipush X1.here hx rfl (hb hby d1_5) ?_
    exact kZ
  obtain ⟨T2, h2, k2, X2, e2, E2, A2, B2, st2⟩ := newPE X1 hx hZ (wq hw 4 rfl) e1 (g := (mkF m 8 #[sR o0, sR o1, .unset] [(.int 1024), (.ref o0)])) rfl (hb hby d1_8) rfl (by decide) (cap := 1024) (by decide) (by decide) (by decide) (by decide) (ad := "[I") rfl
  obtain ⟨b2, g2⟩ : ∃ z, z = h0.size := ⟨_, rfl⟩
  rw [← g2] at A2 B2 st2
  have g_b2 : n0 ≤ b2 := Nat.le_trans Z0 (Nat.le_of_eq g2.symm)
  have sz_b2 : h0.size ≤ b2 := Nat.le_trans ((Keep.refl h0 [o0])).1 (Nat.le_of_eq g2.symm)
  have ne_o0_b2 : o0 ≠ b2 := Nat.ne_of_lt (Nat.lt_of_lt_of_le ha0.lt (Nat.le_of_eq g2.symm))
  have ne_o1_b2 : o1 ≠ b2 := Nat.ne_of_lt (Nat.lt_of_lt_of_le ha16.lt (Nat.le_of_eq g2.symm))
  have c3_0 := ha0.ext E2
  have c3_1 := ha1.ext E2
  have c3_2 := ha2.ext E2
  have c3_3 := ha3.ext E2
  have c3_4 := ha4.ext E2
  have c3_5 := ha5.ext E2
  have c3_6 := ha6.ext E2
  have c3_7 := ha7.ext E2
  have c3_8 := ha8.ext E2
  have c3_9 := ha9.ext E2
  have c3_10 := ha10.ext E2
  have c3_11 := ha11.ext E2
  have c3_12 := ha12.ext E2
  have c3_13 := ha13.ext E2
  have c3_14 := ha14.ext E2
  have c3_16 := ha16.ext E2
  have c3_17 := ha17.ext E2
  have K2 : Keep h0 h2 [o0] := (Keep.refl h0 [o0]).ext E2
  have Z2 := Nat.le_trans Z0 E2.1
  have V2 : AV Z h2 b2 .int 1024 (fun k => .int ((fun _ => (0 : Int32)) k)) := by have q := AV.new A2; exact q
  refine Go.via st2 ?_
  obtain ⟨T4, h4, X4, e4, W4, st4⟩ := putF X2 hx hZ hown (host := "") (Or.inl (wq hw 11 rfl)) Via.refl e2 c3_11 c3_0 (Or.inl (wq hw 12 rfl)) (wq hw 2 rfl) (ty := (.array .int)) (by decide) rfl rfl (g := (mkF m 10 #[sR o0, sR o1, .unset] [(.ref b2), (.ref o0)])) rfl rfl (hb hby d1_10)
  have N4 := Fr.snoc X4 N0 ha15
  have c5_0 := c3_0.wr W4
  have c5_1 := c3_1.other W4 (sn (Or.inl (wq hw 58 rfl)) (Or.inl (wq hw 12 rfl)))
  have c5_2 := c3_2.other W4 (sn (Or.inl (wq hw 65 rfl)) (Or.inl (wq hw 12 rfl)))
  have c5_3 := c3_3.other W4 (sn (Or.inl (wq hw 82 rfl)) (Or.inl (wq hw 12 rfl)))
  have c5_4 := c3_4.other W4 (sn (Or.inr (wq hw 38 rfl)) (Or.inl (wq hw 12 rfl)))
  have c5_5 := c3_5.other W4 (sn (Or.inr (wq hw 40 rfl)) (Or.inl (wq hw 12 rfl)))
  have c5_6 := c3_6.other W4 (sn (Or.inr (wq hw 36 rfl)) (Or.inl (wq hw 12 rfl)))
  have c5_7 := c3_7.other W4 (sn (Or.inr (wq hw 30 rfl)) (Or.inl (wq hw 12 rfl)))
  have c5_8 := c3_8.other W4 (sn (Or.inr (wq hw 43 rfl)) (Or.inl (wq hw 12 rfl)))
  have c5_9 := c3_9.other W4 (sn (Or.inr (wq hw 46 rfl)) (Or.inl (wq hw 12 rfl)))
  have c5_10 := c3_10.other W4 (sn (Or.inr (wq hw 34 rfl)) (Or.inl (wq hw 12 rfl)))
  have c5_12 := c3_12.other W4 (sn (Or.inl (wq hw 14 rfl)) (Or.inl (wq hw 12 rfl)))
  have c5_13 := c3_13.other W4 (sn (Or.inl (wq hw 17 rfl)) (Or.inl (wq hw 12 rfl)))
  have c5_14 := c3_14.other W4 (sn (Or.inl (wq hw 19 rfl)) (Or.inl (wq hw 12 rfl)))
  have c5_16 := c3_16.wr W4
  have c5_17 := c3_17.other W4 (Ne.symm hne_o0_o1)
  have c5_19 := B2.wr W4
  have c5_20 := V2.other W4 (Ne.symm ne_o0_b2)
  have K4 : Keep h0 h4 [o0] := K2.wr W4 (Or.inl (by simp))
  have Z4 := Nat.le_trans Z2 (Keep.of_wr W4).1
  have Fw4 := c3_11.same W4
  refine Go.via st4 ?_
  refine Vi (T4.setTop (mkF m 17 #[sR o0, sR o1, .unset] [(.int 1024), (.ref o0)])) (fun tZ kZ => ?_) ?_
  · refine XS.aloadN X4.here hx rfl (hb hby d1_13) rfl rfl ?_
    refine XS.sipush X4.here hx rfl (hb hby d1_14) ?_
    exact kZ
  obtain ⟨T6, h6, k6, X6, e6, E6, A6, B6, st6⟩ := newPE X4 hx hZ (wq hw 4 rfl) e4 (g := (mkF m 17 #[sR o0, sR o1, .unset] [(.int 1024), (.ref o0)])) rfl (hb hby d1_17) rfl (by decide) (cap := 1024) (by decide) (by decide) (by decide) (by decide) (ad := "[I") rfl
  obtain ⟨b6, g6⟩ : ∃ z, z = h4.size := ⟨_, rfl⟩
  rw [← g6] at A6 B6 st6
  have g_b6 : n0 ≤ b6 := Nat.le_trans Z4 (Nat.le_of_eq g6.symm)
  have sz_b6 : h0.size ≤ b6 := Nat.le_trans (K4).1 (Nat.le_of_eq g6.symm)
  have ne_o0_b6 : o0 ≠ b6 := Nat.ne_of_lt (Nat.lt_of_lt_of_le c5_0.lt (Nat.le_of_eq g6.symm))
  have ne_o1_b6 : o1 ≠ b6 := Nat.ne_of_lt (Nat.lt_of_lt_of_le c5_16.lt (Nat.le_of_eq g6.symm))
  have ne_b2_b6 : b2 ≠ b6 := Nat.ne_of_lt (Nat.lt_of_lt_of_le c5_19.lt (Nat.le_of_eq g6.symm))
  have c7_0 := c5_0.ext E6
  have c7_1 := c5_1.ext E6
  have c7_2 := c5_2.ext E6
  have c7_3 := c5_3.ext E6
  have c7_4 := c5_4.ext E6
  have c7_5 := c5_5.ext E6
  have c7_6 := c5_6.ext E6
  have c7_7 := c5_7.ext E6
  have c7_8 := c5_8.ext E6
  have c7_9 := c5_9.ext E6
  have c7_10 := c5_10.ext E6
  have c7_11 := Fw4.ext E6
  have c7_12 := c5_12.ext E6
  have c7_13 := c5_13.ext E6
  have c7_14 := c5_14.ext E6
  have c7_16 := c5_16.ext E6
  have c7_17 := c5_17.ext E6
  have c7_19 := c5_19.ext E6
  have c7_20 := c5_20.ext E6
  have K6 : Keep h0 h6 [o0] := K4.ext E6
  have Z6 := Nat.le_trans Z4 E6.1
  have V6 : AV Z h6 b6 .int 1024 (fun k => .int ((fun _ => (0 : Int32)) k)) := by have q := AV.new A6; exact q
  refine Go.via st6 ?_
  obtain ⟨T8, h8, X8, e8, W8, st8⟩ := putF X6 hx hZ hown (host := "") (Or.inl (wq hw 13 rfl)) Via.refl e6 c7_12 c7_0 (Or.inl (wq hw 14 rfl)) (wq hw 2 rfl) (ty := (.array .int)) (by decide) rfl rfl (g := (mkF m 19 #[sR o0, sR o1, .unset] [(.ref b6), (.ref o0)])) rfl rfl (hb hby d1_19)
  have N8 := Fr.snoc X8 N4 ha15
  have c9_0 := c7_0.wr W8
  have c9_1 := c7_1.other W8 (sn (Or.inl (wq hw 58 rfl)) (Or.inl (wq hw 14 rfl)))
  have c9_2 := c7_2.other W8 (sn (Or.inl (wq hw 65 rfl)) (Or.inl (wq hw 14 rfl)))
  have c9_3 := c7_3.other W8 (sn (Or.inl (wq hw 82 rfl)) (Or.inl (wq hw 14 rfl)))
  have c9_4 := c7_4.other W8 (sn (Or.inr (wq hw 38 rfl)) (Or.inl (wq hw 14 rfl)))
  have c9_5 := c7_5.other W8 (sn (Or.inr (wq hw 40 rfl)) (Or.inl (wq hw 14 rfl)))
  have c9_6 := c7_6.other W8 (sn (Or.inr (wq hw 36 rfl)) (Or.inl (wq hw 14 rfl)))
  have c9_7 := c7_7.other W8 (sn (Or.inr (wq hw 30 rfl)) (Or.inl (wq hw 14 rfl)))
  have c9_8 := c7_8.other W8 (sn (Or.inr (wq hw 43 rfl)) (Or.inl (wq hw 14 rfl)))
  have c9_9 := c7_9.other W8 (sn (Or.inr (wq hw 46 rfl)) (Or.inl (wq hw 14 rfl)))
  have c9_10 := c7_10.other W8 (sn (Or.inr (wq hw 34 rfl)) (Or.inl (wq hw 14 rfl)))
  have c9_11 := c7_11.other W8 (sn (Or.inl (wq hw 12 rfl)) (Or.inl (wq hw 14 rfl)))
  have c9_13 := c7_13.other W8 (sn (Or.inl (wq hw 17 rfl)) (Or.inl (wq hw 14 rfl)))
  have c9_14 := c7_14.other W8 (sn (Or.inl (wq hw 19 rfl)) (Or.inl (wq hw 14 rfl)))
  have c9_16 := c7_16.wr W8
  have c9_17 := c7_17.other W8 (Ne.symm hne_o0_o1)
  have c9_19 := c7_19.wr W8
  have c9_20 := c7_20.other W8 (Ne.symm ne_o0_b2)
  have c9_22 := B6.wr W8
  have c9_23 := V6.other W8 (Ne.symm ne_o0_b6)
  have K8 : Keep h0 h8 [o0] := K6.wr W8 (Or.inl (by simp))
  have Z8 := Nat.le_trans Z6 (Keep.of_wr W8).1
  have Fw8 := c7_12.same W8
  refine Go.via st8 ?_
  refine Vi (T8.setTop (mkF m 26 #[sR o0, sR o1, .unset] [(.int 1024), (.ref o0)])) (fun tZ kZ => ?_) ?_
  · refine XS.aloadN X8.here hx rfl (hb hby d1_22) rfl rfl ?_
    refine XS.sipush X8.here hx rfl (hb hby d1_23) ?_
    exact kZ
  obtain ⟨T10, h10, k10, X10, e10, E10, A10, B10, st10⟩ := newPE X8 hx hZ (wq hw 15 rfl) e8 (g := (mkF m 26 #[sR o0, sR o1, .unset] [(.int 1024), (.ref o0)])) rfl (hb hby d1_26) rfl (by decide) (cap := 1024) (by decide) (by decide) (by decide) (by decide) (ad := "[J") rfl
  obtain ⟨b10, g10⟩ : ∃ z, z = h8.size := ⟨_, rfl⟩
  rw [← g10] at A10 B10 st10
  have g_b10 : n0 ≤ b10 := Nat.le_trans Z8 (Nat.le_of_eq g10.symm)
  have sz_b10 : h0.size ≤ b10 := Nat.le_trans (K8).1 (Nat.le_of_eq g10.symm)
  have ne_o0_b10 : o0 ≠ b10 := Nat.ne_of_lt (Nat.lt_of_lt_of_le c9_0.lt (Nat.le_of_eq g10.symm))
  have ne_o1_b10 : o1 ≠ b10 := Nat.ne_of_lt (Nat.lt_of_lt_of_le c9_16.lt (Nat.le_of_eq g10.symm))
  have ne_b2_b10 : b2 ≠ b10 := Nat.ne_of_lt (Nat.lt_of_lt_of_le c9_19.lt (Nat.le_of_eq g10.symm))
  have ne_b6_b10 : b6 ≠ b10 := Nat.ne_of_lt (Nat.lt_of_lt_of_le c9_22.lt (Nat.le_of_eq g10.symm))
  have c11_0 := c9_0.ext E10
  have c11_1 := c9_1.ext E10
  have c11_2 := c9_2.ext E10
  have c11_3 := c9_3.ext E10
  have c11_4 := c9_4.ext E10
  have c11_5 := c9_5.ext E10
  have c11_6 := c9_6.ext E10
  have c11_7 := c9_7.ext E10
  have c11_8 := c9_8.ext E10
  have c11_9 := c9_9.ext E10
  have c11_10 := c9_10.ext E10
  have c11_11 := c9_11.ext E10
  have c11_12 := Fw8.ext E10
  have c11_13 := c9_13.ext E10
  have c11_14 := c9_14.ext E10
  have c11_16 := c9_16.ext E10
  have c11_17 := c9_17.ext E10
  have c11_19 := c9_19.ext E10
  have c11_20 := c9_20.ext E10
  have c11_22 := c9_22.ext E10
  have c11_23 := c9_23.ext E10
  have K10 : Keep h0 h10 [o0] := K8.ext E10
  have Z10 := Nat.le_trans Z8 E10.1
  have V10 : AV Z h10 b10 .long 1024 (fun k => .long ((fun _ => (0 : Int64)) k)) := by have q := AV.new A10; exact q
  refine Go.via st10 ?_
  obtain ⟨T12, h12, X12, e12, W12, st12⟩ := putF X10 hx hZ hown (host := "") (Or.inl (wq hw 16 rfl)) Via.refl e10 c11_13 c11_0 (Or.inl (wq hw 17 rfl)) (wq hw 2 rfl) (ty := (.array .long)) (by decide) rfl rfl (g := (mkF m 28 #[sR o0, sR o1, .unset] [(.ref b10), (.ref o0)])) rfl rfl (hb hby d1_28)
  have N12 := Fr.snoc X12 N8 ha15
  have c13_0 := c11_0.wr W12
  have c13_1 := c11_1.other W12 (sn (Or.inl (wq hw 58 rfl)) (Or.inl (wq hw 17 rfl)))
  have c13_2 := c11_2.other W12 (sn (Or.inl (wq hw 65 rfl)) (Or.inl (wq hw 17 rfl)))
  have c13_3 := c11_3.other W12 (sn (Or.inl (wq hw 82 rfl)) (Or.inl (wq hw 17 rfl)))
  have c13_4 := c11_4.other W12 (sn (Or.inr (wq hw 38 rfl)) (Or.inl (wq hw 17 rfl)))
  have c13_5 := c11_5.other W12 (sn (Or.inr (wq hw 40 rfl)) (Or.inl (wq hw 17 rfl)))
  have c13_6 := c11_6.other W12 (sn (Or.inr (wq hw 36 rfl)) (Or.inl (wq hw 17 rfl)))
  have c13_7 := c11_7.other W12 (sn (Or.inr (wq hw 30 rfl)) (Or.inl (wq hw 17 rfl)))
  have c13_8 := c11_8.other W12 (sn (Or.inr (wq hw 43 rfl)) (Or.inl (wq hw 17 rfl)))
  have c13_9 := c11_9.other W12 (sn (Or.inr (wq hw 46 rfl)) (Or.inl (wq hw 17 rfl)))
  have c13_10 := c11_10.other W12 (sn (Or.inr (wq hw 34 rfl)) (Or.inl (wq hw 17 rfl)))
  have c13_11 := c11_11.other W12 (sn (Or.inl (wq hw 12 rfl)) (Or.inl (wq hw 17 rfl)))
  have c13_12 := c11_12.other W12 (sn (Or.inl (wq hw 14 rfl)) (Or.inl (wq hw 17 rfl)))
  have c13_14 := c11_14.other W12 (sn (Or.inl (wq hw 19 rfl)) (Or.inl (wq hw 17 rfl)))
  have c13_16 := c11_16.wr W12
  have c13_17 := c11_17.other W12 (Ne.symm hne_o0_o1)
  have c13_19 := c11_19.wr W12
  have c13_20 := c11_20.other W12 (Ne.symm ne_o0_b2)
  have c13_22 := c11_22.wr W12
  have c13_23 := c11_23.other W12 (Ne.symm ne_o0_b6)
  have c13_25 := B10.wr W12
  have c13_26 := V10.other W12 (Ne.symm ne_o0_b10)
  have K12 : Keep h0 h12 [o0] := K10.wr W12 (Or.inl (by simp))
  have Z12 := Nat.le_trans Z10 (Keep.of_wr W12).1
  have Fw12 := c11_13.same W12
  refine Go.via st12 ?_
  refine Vi (T12.setTop (mkF m 35 #[sR o0, sR o1, .unset] [(.int 1024), (.ref o0)])) (fun tZ kZ => ?_) ?_
  · refine XS.aloadN X12.here hx rfl (hb hby d1_31) rfl rfl ?_
    refine XS.sipush X12.here hx rfl (hb hby d1_32) ?_
    exact kZ
  obtain ⟨T14, h14, k14, X14, e14, E14, A14, B14, st14⟩ := newPE X12 hx hZ (wq hw 4 rfl) e12 (g := (mkF m 35 #[sR o0, sR o1, .unset] [(.int 1024), (.ref o0)])) rfl (hb hby d1_35) rfl (by decide) (cap := 1024) (by decide) (by decide) (by decide) (by decide) (ad := "[I") rfl
  obtain ⟨b14, g14⟩ : ∃ z, z = h12.size := ⟨_, rfl⟩
  rw [← g14] at A14 B14 st14
  have g_b14 : n0 ≤ b14 := Nat.le_trans Z12 (Nat.le_of_eq g14.symm)
  have sz_b14 : h0.size ≤ b14 := Nat.le_trans (K12).1 (Nat.le_of_eq g14.symm)
  have ne_o0_b14 : o0 ≠ b14 := Nat.ne_of_lt (Nat.lt_of_lt_of_le c13_0.lt (Nat.le_of_eq g14.symm))
  have ne_o1_b14 : o1 ≠ b14 := Nat.ne_of_lt (Nat.lt_of_lt_of_le c13_16.lt (Nat.le_of_eq g14.symm))
  have ne_b2_b14 : b2 ≠ b14 := Nat.ne_of_lt (Nat.lt_of_lt_of_le c13_19.lt (Nat.le_of_eq g14.symm))
  have ne_b6_b14 : b6 ≠ b14 := Nat.ne_of_lt (Nat.lt_of_lt_of_le c13_22.lt (Nat.le_of_eq g14.symm))
  have ne_b10_b14 : b10 ≠ b14 := Nat.ne_of_lt (Nat.lt_of_lt_of_le c13_25.lt (Nat.le_of_eq g14.symm))
  have c15_0 := c13_0.ext E14
  have c15_1 := c13_1.ext E14
  have c15_2 := c13_2.ext E14
  have c15_3 := c13_3.ext E14
  have c15_4 := c13_4.ext E14
  have c15_5 := c13_5.ext E14
  have c15_6 := c13_6.ext E14
  have c15_7 := c13_7.ext E14
  have c15_8 := c13_8.ext E14
  have c15_9 := c13_9.ext E14
  have c15_10 := c13_10.ext E14
  have c15_11 := c13_11.ext E14
  have c15_12 := c13_12.ext E14
  have c15_13 := Fw12.ext E14
  have c15_14 := c13_14.ext E14
  have c15_16 := c13_16.ext E14
  have c15_17 := c13_17.ext E14
  have c15_19 := c13_19.ext E14
  have c15_20 := c13_20.ext E14
  have c15_22 := c13_22.ext E14
  have c15_23 := c13_23.ext E14
  have c15_25 := c13_25.ext E14
  have c15_26 := c13_26.ext E14
  have K14 : Keep h0 h14 [o0] := K12.ext E14
  have Z14 := Nat.le_trans Z12 E14.1
  have V14 : AV Z h14 b14 .int 1024 (fun k => .int ((fun _ => (0 : Int32)) k)) := by have q := AV.new A14; exact q
  refine Go.via st14 ?_
  obtain ⟨T16, h16, X16, e16, W16, st16⟩ := putF X14 hx hZ hown (host := "") (Or.inl (wq hw 18 rfl)) Via.refl e14 c15_14 c15_0 (Or.inl (wq hw 19 rfl)) (wq hw 2 rfl) (ty := (.array .int)) (by decide) rfl rfl (g := (mkF m 37 #[sR o0, sR o1, .unset] [(.ref b14), (.ref o0)])) rfl rfl (hb hby d1_37)
  have N16 := Fr.snoc X16 N12 ha15
  have c17_0 := c15_0.wr W16
  have c17_1 := c15_1.other W16 (sn (Or.inl (wq hw 58 rfl)) (Or.inl (wq hw 19 rfl)))
  have c17_2 := c15_2.other W16 (sn (Or.inl (wq hw 65 rfl)) (Or.inl (wq hw 19 rfl)))
  have c17_3 := c15_3.other W16 (sn (Or.inl (wq hw 82 rfl)) (Or.inl (wq hw 19 rfl)))
  have c17_4 := c15_4.other W16 (sn (Or.inr (wq hw 38 rfl)) (Or.inl (wq hw 19 rfl)))
  have c17_5 := c15_5.other W16 (sn (Or.inr (wq hw 40 rfl)) (Or.inl (wq hw 19 rfl)))
  have c17_6 := c15_6.other W16 (sn (Or.inr (wq hw 36 rfl)) (Or.inl (wq hw 19 rfl)))
  have c17_7 := c15_7.other W16 (sn (Or.inr (wq hw 30 rfl)) (Or.inl (wq hw 19 rfl)))
  have c17_8 := c15_8.other W16 (sn (Or.inr (wq hw 43 rfl)) (Or.inl (wq hw 19 rfl)))
  have c17_9 := c15_9.other W16 (sn (Or.inr (wq hw 46 rfl)) (Or.inl (wq hw 19 rfl)))
  have c17_10 := c15_10.other W16 (sn (Or.inr (wq hw 34 rfl)) (Or.inl (wq hw 19 rfl)))
  have c17_11 := c15_11.other W16 (sn (Or.inl (wq hw 12 rfl)) (Or.inl (wq hw 19 rfl)))
  have c17_12 := c15_12.other W16 (sn (Or.inl (wq hw 14 rfl)) (Or.inl (wq hw 19 rfl)))
  have c17_13 := c15_13.other W16 (sn (Or.inl (wq hw 17 rfl)) (Or.inl (wq hw 19 rfl)))
  have c17_16 := c15_16.wr W16
  have c17_17 := c15_17.other W16 (Ne.symm hne_o0_o1)
  have c17_19 := c15_19.wr W16
  have c17_20 := c15_20.other W16 (Ne.symm ne_o0_b2)
  have c17_22 := c15_22.wr W16
  have c17_23 := c15_23.other W16 (Ne.symm ne_o0_b6)
  have c17_25 := c15_25.wr W16
  have c17_26 := c15_26.other W16 (Ne.symm ne_o0_b10)
  have c17_28 := B14.wr W16
  have c17_29 := V14.other W16 (Ne.symm ne_o0_b14)
  have K16 : Keep h0 h16 [o0] := K14.wr W16 (Or.inl (by simp))
  have Z16 := Nat.le_trans Z14 (Keep.of_wr W16).1
  have Fw16 := c15_14.same W16
  refine Go.via st16 ?_
  refine Vi (T16.setTop (mkF m 42 #[sR o0, sR o1, .unset] [(.ref o1), (.ref o0)])) (fun tZ kZ => ?_) ?_
  · refine XS.aloadN X16.here hx rfl (hb hby d1_40) rfl rfl ?_
    refine XS.aloadN X16.here hx rfl (hb hby d1_41) rfl rfl ?_
    exact kZ
  obtain ⟨T18, h18, X18, e18, E18, V18, B18, st18⟩ := AV.clone c17_17 (fun _ _ => rfl) X16 hx hZ hown (wq hw 20 rfl) (wq hw 21 rfl) (wq hw 25 rfl) (wq hw 23 rfl) (wq hw 24 rfl) (wq hw 26 rfl) e16 c17_16 (g := (mkF m 42 #[sR o0, sR o1, .unset] [(.ref o1), (.ref o0)])) rfl (by rw [hml]; rfl) (rest := [(.ref o0)]) rfl (hb hby d1_42) (by decide) (W := 1) (cap := 2) (by show 2 * 0 + _ ≤ _; exact Nat.le_of_eq rfl) (by decide) (by decide) (by decide) (by decide)
  obtain ⟨b18, g18⟩ : ∃ z, z = h16.size := ⟨_, rfl⟩
  rw [← g18] at V18 B18 st18
  have g_b18 : n0 ≤ b18 := Nat.le_trans Z16 (Nat.le_of_eq g18.symm)
  have sz_b18 : h0.size ≤ b18 := Nat.le_trans (K16).1 (Nat.le_of_eq g18.symm)
  have ne_o0_b18 : o0 ≠ b18 := Nat.ne_of_lt (Nat.lt_of_lt_of_le c17_0.lt (Nat.le_of_eq g18.symm))
  have ne_o1_b18 : o1 ≠ b18 := Nat.ne_of_lt (Nat.lt_of_lt_of_le c17_16.lt (Nat.le_of_eq g18.symm))
  have ne_b2_b18 : b2 ≠ b18 := Nat.ne_of_lt (Nat.lt_of_lt_of_le c17_19.lt (Nat.le_of_eq g18.symm))
  have ne_b6_b18 : b6 ≠ b18 := Nat.ne_of_lt (Nat.lt_of_lt_of_le c17_22.lt (Nat.le_of_eq g18.symm))
  have ne_b10_b18 : b10 ≠ b18 := Nat.ne_of_lt (Nat.lt_of_lt_of_le c17_25.lt (Nat.le_of_eq g18.symm))
  have ne_b14_b18 : b14 ≠ b18 := Nat.ne_of_lt (Nat.lt_of_lt_of_le c17_28.lt (Nat.le_of_eq g18.symm))
  have c19_0 := c17_0.ext E18
  have c19_1 := c17_1.ext E18
  have c19_2 := c17_2.ext E18
  have c19_3 := c17_3.ext E18
  have c19_4 := c17_4.ext E18
  have c19_5 := c17_5.ext E18
  have c19_6 := c17_6.ext E18
  have c19_7 := c17_7.ext E18
  have c19_8 := c17_8.ext E18
  have c19_9 := c17_9.ext E18
  have c19_10 := c17_10.ext E18
  have c19_11 := c17_11.ext E18
  have c19_12 := c17_12.ext E18
  have c19_13 := c17_13.ext E18
  have c19_14 := Fw16.ext E18
  have c19_16 := c17_16.ext E18
  have c19_17 := c17_17.ext E18
  have c19_19 := c17_19.ext E18
  have c19_20 := c17_20.ext E18
  have c19_22 := c17_22.ext E18
  have c19_23 := c17_23.ext E18
  have c19_25 := c17_25.ext E18
  have c19_26 := c17_26.ext E18
  have c19_28 := c17_28.ext E18
  have c19_29 := c17_29.ext E18
  have K18 : Keep h0 h18 [o0] := K16.ext E18
  have Z18 := Nat.le_trans Z16 E18.1
  refine Go.via st18 ?_
  obtain ⟨T20, X20, e20, st20⟩ := castY X18 hx hZ hown (wq hw 27 rfl) e18 (Ins.self B18) (g := (mkF m 45 #[sR o0, sR o1, .unset] [(.ref b18), (.ref o0)])) rfl rfl (hb hby d1_45)
  refine Go.via st20 ?_
  obtain ⟨T21, h21, X21, e21, W21, st21⟩ := putF X20 hx hZ hown (host := "") (Or.inl (wq hw 29 rfl)) Via.refl e20 c19_7 c19_0 (Or.inr ⟨(wq hw 30 rfl), rfl, hnm⟩) (wq hw 2 rfl) (ty := (.array .int)) (by decide) rfl rfl (g := (mkF m 48 #[sR o0, sR o1, .unset] [(.ref b18), (.ref o0)])) rfl rfl (hb hby d1_48)
  have N21 := Fr.snoc X21 N16 ha15
  have c22_0 := c19_0.wr W21
  have c22_1 := c19_1.other W21 (sn (Or.inl (wq hw 58 rfl)) (Or.inr (wq hw 30 rfl)))
  have c22_2 := c19_2.other W21 (sn (Or.inl (wq hw 65 rfl)) (Or.inr (wq hw 30 rfl)))
  have c22_3 := c19_3.other W21 (sn (Or.inl (wq hw 82 rfl)) (Or.inr (wq hw 30 rfl)))
  have c22_4 := c19_4.other W21 (sn (Or.inr (wq hw 38 rfl)) (Or.inr (wq hw 30 rfl)))
  have c22_5 := c19_5.other W21 (sn (Or.inr (wq hw 40 rfl)) (Or.inr (wq hw 30 rfl)))
  have c22_6 := c19_6.other W21 (sn (Or.inr (wq hw 36 rfl)) (Or.inr (wq hw 30 rfl)))
  have c22_8 := c19_8.other W21 (sn (Or.inr (wq hw 43 rfl)) (Or.inr (wq hw 30 rfl)))
  have c22_9 := c19_9.other W21 (sn (Or.inr (wq hw 46 rfl)) (Or.inr (wq hw 30 rfl)))
  have c22_10 := c19_10.other W21 (sn (Or.inr (wq hw 34 rfl)) (Or.inr (wq hw 30 rfl)))
  have c22_11 := c19_11.other W21 (sn (Or.inl (wq hw 12 rfl)) (Or.inr (wq hw 30 rfl)))
  have c22_12 := c19_12.other W21 (sn (Or.inl (wq hw 14 rfl)) (Or.inr (wq hw 30 rfl)))
  have c22_13 := c19_13.other W21 (sn (Or.inl (wq hw 17 rfl)) (Or.inr (wq hw 30 rfl)))
  have c22_14 := c19_14.other W21 (sn (Or.inl (wq hw 19 rfl)) (Or.inr (wq hw 30 rfl)))
  have c22_16 := c19_16.wr W21
  have c22_17 := c19_17.other W21 (Ne.symm hne_o0_o1)
  have c22_19 := c19_19.wr W21
  have c22_20 := c19_20.other W21 (Ne.symm ne_o0_b2)
  have c22_22 := c19_22.wr W21
  have c22_23 := c19_23.other W21 (Ne.symm ne_o0_b6)
  have c22_25 := c19_25.wr W21
  have c22_26 := c19_26.other W21 (Ne.symm ne_o0_b10)
  have c22_28 := c19_28.wr W21
  have c22_29 := c19_29.other W21 (Ne.symm ne_o0_b14)
  have c22_31 := V18.other W21 (Ne.symm ne_o0_b18)
  have c22_32 := B18.wr W21
  have K21 : Keep h0 h21 [o0] := K18.wr W21 (Or.inl (by simp))
  have Z21 := Nat.le_trans Z18 (Keep.of_wr W21).1
  have Fw21 := c19_7.same W21
  refine Go.via st21 ?_
  refine Vi (T21.setTop (mkF m 54 #[sR o0, sR o1, .unset] [(.int 2), (.ref o0)])) (fun tZ kZ => ?_) ?_
  · refine XS.aloadN X21.here hx rfl (hb hby d1_51) rfl rfl ?_
    refine XS.aloadN X21.here hx rfl (hb hby d1_52) rfl rfl ?_
    refine AV.len c22_17 X21 hx hZ e21 (hb hby d1_53) ?_
    exact kZ
  obtain ⟨T23, h23, k23, X23, e23, E23, A23, B23, O23, st23⟩ := newRA X21 hx hZ hown (C := "[J") (ty := .long) rfl (wq hw 31 rfl) (wq hw 32 rfl) e21 (g := (mkF m 54 #[sR o0, sR o1, .unset] [(.int 2), (.ref o0)])) rfl (hb hby d1_54) rfl (by decide) (cap := 2) (by decide) (by decide) (by decide) (by decide) (ad := "[[J") rfl
  obtain ⟨b23, g23⟩ : ∃ z, z = h21.size := ⟨_, rfl⟩
  rw [← g23] at A23 B23 st23
  have g_b23 : n0 ≤ b23 := Nat.le_trans Z21 (Nat.le_of_eq g23.symm)
  have sz_b23 : h0.size ≤ b23 := Nat.le_trans (K21).1 (Nat.le_of_eq g23.symm)
  have ne_o0_b23 : o0 ≠ b23 := Nat.ne_of_lt (Nat.lt_of_lt_of_le c22_0.lt (Nat.le_of_eq g23.symm))
  have ne_o1_b23 : o1 ≠ b23 := Nat.ne_of_lt (Nat.lt_of_lt_of_le c22_16.lt (Nat.le_of_eq g23.symm))
  have ne_b2_b23 : b2 ≠ b23 := Nat.ne_of_lt (Nat.lt_of_lt_of_le c22_19.lt (Nat.le_of_eq g23.symm))
  have ne_b6_b23 : b6 ≠ b23 := Nat.ne_of_lt (Nat.lt_of_lt_of_le c22_22.lt (Nat.le_of_eq g23.symm))
  have ne_b10_b23 : b10 ≠ b23 := Nat.ne_of_lt (Nat.lt_of_lt_of_le c22_25.lt (Nat.le_of_eq g23.symm))
  have ne_b14_b23 : b14 ≠ b23 := Nat.ne_of_lt (Nat.lt_of_lt_of_le c22_28.lt (Nat.le_of_eq g23.symm))
  have ne_b18_b23 : b18 ≠ b23 := Nat.ne_of_lt (Nat.lt_of_lt_of_le c22_31.lt (Nat.le_of_eq g23.symm))
  have c24_0 := c22_0.ext E23
  have c24_1 := c22_1.ext E23
  have c24_2 := c22_2.ext E23
  have c24_3 := c22_3.ext E23
  have c24_4 := c22_4.ext E23
  have c24_5 := c22_5.ext E23
  have c24_6 := c22_6.ext E23
  have c24_7 := Fw21.ext E23
  have c24_8 := c22_8.ext E23
  have c24_9 := c22_9.ext E23
  have c24_10 := c22_10.ext E23
  have c24_11 := c22_11.ext E23
  have c24_12 := c22_12.ext E23
  have c24_13 := c22_13.ext E23
  have c24_14 := c22_14.ext E23
  have c24_16 := c22_16.ext E23
  have c24_17 := c22_17.ext E23
  have c24_19 := c22_19.ext E23
  have c24_20 := c22_20.ext E23
  have c24_22 := c22_22.ext E23
  have c24_23 := c22_23.ext E23
  have c24_25 := c22_25.ext E23
  have c24_26 := c22_26.ext E23
  have c24_28 := c22_28.ext E23
  have c24_29 := c22_29.ext E23
  have c24_31 := c22_31.ext E23
  have c24_32 := c22_32.ext E23
  have K23 : Keep h0 h23 [o0] := K21.ext E23
  have Z23 := Nat.le_trans Z21 E23.1
  have V23 : AV Z h23 b23 (.array .long) 2 (fun _ => Value.null) := by have q := AV.new A23; exact q
  have OV23 : OV Z h23 b23 .long "[J" := ⟨_, A23.1, O23⟩
  refine Go.via st23 ?_
  obtain ⟨T25, h25, X25, e25, W25, st25⟩ := putF X23 hx hZ hown (host := "") (Or.inl (wq hw 33 rfl)) Via.refl e23 c24_10 c24_0 (Or.inr ⟨(wq hw 34 rfl), rfl, hnm⟩) (wq hw 2 rfl) (ty := (.array (.array .long))) (by decide) rfl rfl (g := (mkF m 57 #[sR o0, sR o1, .unset] [(.ref b23), (.ref o0)])) rfl rfl (hb hby d1_57)
  have N25 := Fr.snoc X25 N21 ha15
  have c26_0 := c24_0.wr W25
  have c26_1 := c24_1.other W25 (sn (Or.inl (wq hw 58 rfl)) (Or.inr (wq hw 34 rfl)))
  have c26_2 := c24_2.other W25 (sn (Or.inl (wq hw 65 rfl)) (Or.inr (wq hw 34 rfl)))
  have c26_3 := c24_3.other W25 (sn (Or.inl (wq hw 82 rfl)) (Or.inr (wq hw 34 rfl)))
  have c26_4 := c24_4.other W25 (sn (Or.inr (wq hw 38 rfl)) (Or.inr (wq hw 34 rfl)))
  have c26_5 := c24_5.other W25 (sn (Or.inr (wq hw 40 rfl)) (Or.inr (wq hw 34 rfl)))
  have c26_6 := c24_6.other W25 (sn (Or.inr (wq hw 36 rfl)) (Or.inr (wq hw 34 rfl)))
  have c26_7 := c24_7.other W25 (sn (Or.inr (wq hw 30 rfl)) (Or.inr (wq hw 34 rfl)))
  have c26_8 := c24_8.other W25 (sn (Or.inr (wq hw 43 rfl)) (Or.inr (wq hw 34 rfl)))
  have c26_9 := c24_9.other W25 (sn (Or.inr (wq hw 46 rfl)) (Or.inr (wq hw 34 rfl)))
  have c26_11 := c24_11.other W25 (sn (Or.inl (wq hw 12 rfl)) (Or.inr (wq hw 34 rfl)))
  have c26_12 := c24_12.other W25 (sn (Or.inl (wq hw 14 rfl)) (Or.inr (wq hw 34 rfl)))
  have c26_13 := c24_13.other W25 (sn (Or.inl (wq hw 17 rfl)) (Or.inr (wq hw 34 rfl)))
  have c26_14 := c24_14.other W25 (sn (Or.inl (wq hw 19 rfl)) (Or.inr (wq hw 34 rfl)))
  have c26_16 := c24_16.wr W25
  have c26_17 := c24_17.other W25 (Ne.symm hne_o0_o1)
  have c26_19 := c24_19.wr W25
  have c26_20 := c24_20.other W25 (Ne.symm ne_o0_b2)
  have c26_22 := c24_22.wr W25
  have c26_23 := c24_23.other W25 (Ne.symm ne_o0_b6)
  have c26_25 := c24_25.wr W25
  have c26_26 := c24_26.other W25 (Ne.symm ne_o0_b10)
  have c26_28 := c24_28.wr W25
  have c26_29 := c24_29.other W25 (Ne.symm ne_o0_b14)
  have c26_31 := c24_31.other W25 (Ne.symm ne_o0_b18)
  have c26_32 := c24_32.wr W25
  have c26_34 := V23.other W25 (Ne.symm ne_o0_b23)
  have c26_35 := B23.wr W25
  have c26_36 := OV23.wr W25
  have K25 : Keep h0 h25 [o0] := K23.wr W25 (Or.inl (by simp))
  have Z25 := Nat.le_trans Z23 (Keep.of_wr W25).1
  have Fw25 := c24_10.same W25
  refine Go.via st25 ?_
  refine Vi (T25.setTop (mkF m 63 #[sR o0, sR o1, .unset] [(.int 2), (.ref o0)])) (fun tZ kZ => ?_) ?_
  · refine XS.aloadN X25.here hx rfl (hb hby d1_60) rfl rfl ?_
    refine XS.aloadN X25.here hx rfl (hb hby d1_61) rfl rfl ?_
    refine AV.len c26_17 X25 hx hZ e25 (hb hby d1_62) ?_
    exact kZ
  obtain ⟨T27, h27, k27, X27, e27, E27, A27, B27, st27⟩ := newPE X25 hx hZ (wq hw 4 rfl) e25 (g := (mkF m 63 #[sR o0, sR o1, .unset] [(.int 2), (.ref o0)])) rfl (hb hby d1_63) rfl (by decide) (cap := 2) (by decide) (by decide) (by decide) (by decide) (ad := "[I") rfl
  obtain ⟨b27, g27⟩ : ∃ z, z = h25.size := ⟨_, rfl⟩
  rw [← g27] at A27 B27 st27
  have g_b27 : n0 ≤ b27 := Nat.le_trans Z25 (Nat.le_of_eq g27.symm)
  have sz_b27 : h0.size ≤ b27 := Nat.le_trans (K25).1 (Nat.le_of_eq g27.symm)
  have ne_o0_b27 : o0 ≠ b27 := Nat.ne_of_lt (Nat.lt_of_lt_of_le c26_0.lt (Nat.le_of_eq g27.symm))
  have ne_o1_b27 : o1 ≠ b27 := Nat.ne_of_lt (Nat.lt_of_lt_of_le c26_16.lt (Nat.le_of_eq g27.symm))
  have ne_b2_b27 : b2 ≠ b27 := Nat.ne_of_lt (Nat.lt_of_lt_of_le c26_19.lt (Nat.le_of_eq g27.symm))
  have ne_b6_b27 : b6 ≠ b27 := Nat.ne_of_lt (Nat.lt_of_lt_of_le c26_22.lt (Nat.le_of_eq g27.symm))
  have ne_b10_b27 : b10 ≠ b27 := Nat.ne_of_lt (Nat.lt_of_lt_of_le c26_25.lt (Nat.le_of_eq g27.symm))
  have ne_b14_b27 : b14 ≠ b27 := Nat.ne_of_lt (Nat.lt_of_lt_of_le c26_28.lt (Nat.le_of_eq g27.symm))
  have ne_b18_b27 : b18 ≠ b27 := Nat.ne_of_lt (Nat.lt_of_lt_of_le c26_31.lt (Nat.le_of_eq g27.symm))
  have ne_b23_b27 : b23 ≠ b27 := Nat.ne_of_lt (Nat.lt_of_lt_of_le c26_34.lt (Nat.le_of_eq g27.symm))
  have c28_0 := c26_0.ext E27
  have c28_1 := c26_1.ext E27
  have c28_2 := c26_2.ext E27
  have c28_3 := c26_3.ext E27
  have c28_4 := c26_4.ext E27
  have c28_5 := c26_5.ext E27
  have c28_6 := c26_6.ext E27
  have c28_7 := c26_7.ext E27
  have c28_8 := c26_8.ext E27
  have c28_9 := c26_9.ext E27
  have c28_10 := Fw25.ext E27
  have c28_11 := c26_11.ext E27
  have c28_12 := c26_12.ext E27
  have c28_13 := c26_13.ext E27
  have c28_14 := c26_14.ext E27
  have c28_16 := c26_16.ext E27
  have c28_17 := c26_17.ext E27
  have c28_19 := c26_19.ext E27
  have c28_20 := c26_20.ext E27
  have c28_22 := c26_22.ext E27
  have c28_23 := c26_23.ext E27
  have c28_25 := c26_25.ext E27
  have c28_26 := c26_26.ext E27
  have c28_28 := c26_28.ext E27
  have c28_29 := c26_29.ext E27
  have c28_31 := c26_31.ext E27
  have c28_32 := c26_32.ext E27
  have c28_34 := c26_34.ext E27
  have c28_35 := c26_35.ext E27
  have c28_36 := c26_36.ext E27
  have K27 : Keep h0 h27 [o0] := K25.ext E27
  have Z27 := Nat.le_trans Z25 E27.1
  have V27 : AV Z h27 b27 .int 2 (fun k => .int ((fun _ => (0 : Int32)) k)) := by have q := AV.new A27; exact q
  refine Go.via st27 ?_
  obtain ⟨T29, h29, X29, e29, W29, st29⟩ := putF X27 hx hZ hown (host := "") (Or.inl (wq hw 35 rfl)) Via.refl e27 c28_6 c28_0 (Or.inr ⟨(wq hw 36 rfl), rfl, hnm⟩) (wq hw 2 rfl) (ty := (.array .int)) (by decide) rfl rfl (g := (mkF m 65 #[sR o0, sR o1, .unset] [(.ref b27), (.ref o0)])) rfl rfl (hb hby d1_65)
  have N29 := Fr.snoc X29 N25 ha15
  have c30_0 := c28_0.wr W29
  have c30_1 := c28_1.other W29 (sn (Or.inl (wq hw 58 rfl)) (Or.inr (wq hw 36 rfl)))
  have c30_2 := c28_2.other W29 (sn (Or.inl (wq hw 65 rfl)) (Or.inr (wq hw 36 rfl)))
  have c30_3 := c28_3.other W29 (sn (Or.inl (wq hw 82 rfl)) (Or.inr (wq hw 36 rfl)))
  have c30_4 := c28_4.other W29 (sn (Or.inr (wq hw 38 rfl)) (Or.inr (wq hw 36 rfl)))
  have c30_5 := c28_5.other W29 (sn (Or.inr (wq hw 40 rfl)) (Or.inr (wq hw 36 rfl)))
  have c30_7 := c28_7.other W29 (sn (Or.inr (wq hw 30 rfl)) (Or.inr (wq hw 36 rfl)))
  have c30_8 := c28_8.other W29 (sn (Or.inr (wq hw 43 rfl)) (Or.inr (wq hw 36 rfl)))
  have c30_9 := c28_9.other W29 (sn (Or.inr (wq hw 46 rfl)) (Or.inr (wq hw 36 rfl)))
  have c30_10 := c28_10.other W29 (sn (Or.inr (wq hw 34 rfl)) (Or.inr (wq hw 36 rfl)))
  have c30_11 := c28_11.other W29 (sn (Or.inl (wq hw 12 rfl)) (Or.inr (wq hw 36 rfl)))
  have c30_12 := c28_12.other W29 (sn (Or.inl (wq hw 14 rfl)) (Or.inr (wq hw 36 rfl)))
  have c30_13 := c28_13.other W29 (sn (Or.inl (wq hw 17 rfl)) (Or.inr (wq hw 36 rfl)))
  have c30_14 := c28_14.other W29 (sn (Or.inl (wq hw 19 rfl)) (Or.inr (wq hw 36 rfl)))
  have c30_16 := c28_16.wr W29
  have c30_17 := c28_17.other W29 (Ne.symm hne_o0_o1)
  have c30_19 := c28_19.wr W29
  have c30_20 := c28_20.other W29 (Ne.symm ne_o0_b2)
  have c30_22 := c28_22.wr W29
  have c30_23 := c28_23.other W29 (Ne.symm ne_o0_b6)
  have c30_25 := c28_25.wr W29
  have c30_26 := c28_26.other W29 (Ne.symm ne_o0_b10)
  have c30_28 := c28_28.wr W29
  have c30_29 := c28_29.other W29 (Ne.symm ne_o0_b14)
  have c30_31 := c28_31.other W29 (Ne.symm ne_o0_b18)
  have c30_32 := c28_32.wr W29
  have c30_34 := c28_34.other W29 (Ne.symm ne_o0_b23)
  have c30_35 := c28_35.wr W29
  have c30_36 := c28_36.wr W29
  have c30_38 := B27.wr W29
  have c30_39 := V27.other W29 (Ne.symm ne_o0_b27)
  have K29 : Keep h0 h29 [o0] := K27.wr W29 (Or.inl (by simp))
  have Z29 := Nat.le_trans Z27 (Keep.of_wr W29).1
  have Fw29 := c28_6.same W29
  refine Go.via st29 ?_
  refine Vi (T29.setTop (mkF m 71 #[sR o0, sR o1, .unset] [(.int 2), (.ref o0)])) (fun tZ kZ => ?_) ?_
  · refine XS.aloadN X29.here hx rfl (hb hby d1_68) rfl rfl ?_
    refine XS.aloadN X29.here hx rfl (hb hby d1_69) rfl rfl ?_
    refine AV.len c30_17 X29 hx hZ e29 (hb hby d1_70) ?_
    exact kZ
  obtain ⟨T31, h31, k31, X31, e31, E31, A31, B31, st31⟩ := newPE X29 hx hZ (wq hw 4 rfl) e29 (g := (mkF m 71 #[sR o0, sR o1, .unset] [(.int 2), (.ref o0)])) rfl (hb hby d1_71) rfl (by decide) (cap := 2) (by decide) (by decide) (by decide) (by decide) (ad := "[I") rfl
  obtain ⟨b31, g31⟩ : ∃ z, z = h29.size := ⟨_, rfl⟩
  rw [← g31] at A31 B31 st31
  have g_b31 : n0 ≤ b31 := Nat.le_trans Z29 (Nat.le_of_eq g31.symm)
  have sz_b31 : h0.size ≤ b31 := Nat.le_trans (K29).1 (Nat.le_of_eq g31.symm)
  have ne_o0_b31 : o0 ≠ b31 := Nat.ne_of_lt (Nat.lt_of_lt_of_le c30_0.lt (Nat.le_of_eq g31.symm))
  have ne_o1_b31 : o1 ≠ b31 := Nat.ne_of_lt (Nat.lt_of_lt_of_le c30_16.lt (Nat.le_of_eq g31.symm))
  have ne_b2_b31 : b2 ≠ b31 := Nat.ne_of_lt (Nat.lt_of_lt_of_le c30_19.lt (Nat.le_of_eq g31.symm))
  have ne_b6_b31 : b6 ≠ b31 := Nat.ne_of_lt (Nat.lt_of_lt_of_le c30_22.lt (Nat.le_of_eq g31.symm))
  have ne_b10_b31 : b10 ≠ b31 := Nat.ne_of_lt (Nat.lt_of_lt_of_le c30_25.lt (Nat.le_of_eq g31.symm))
  have ne_b14_b31 : b14 ≠ b31 := Nat.ne_of_lt (Nat.lt_of_lt_of_le c30_28.lt (Nat.le_of_eq g31.symm))
  have ne_b18_b31 : b18 ≠ b31 := Nat.ne_of_lt (Nat.lt_of_lt_of_le c30_31.lt (Nat.le_of_eq g31.symm))
  have ne_b23_b31 : b23 ≠ b31 := Nat.ne_of_lt (Nat.lt_of_lt_of_le c30_34.lt (Nat.le_of_eq g31.symm))
  have ne_b27_b31 : b27 ≠ b31 := Nat.ne_of_lt (Nat.lt_of_lt_of_le c30_38.lt (Nat.le_of_eq g31.symm))
  have c32_0 := c30_0.ext E31
  have c32_1 := c30_1.ext E31
  have c32_2 := c30_2.ext E31
  have c32_3 := c30_3.ext E31
  have c32_4 := c30_4.ext E31
  have c32_5 := c30_5.ext E31
  have c32_6 := Fw29.ext E31
  have c32_7 := c30_7.ext E31
  have c32_8 := c30_8.ext E31
  have c32_9 := c30_9.ext E31
  have c32_10 := c30_10.ext E31
  have c32_11 := c30_11.ext E31
  have c32_12 := c30_12.ext E31
  have c32_13 := c30_13.ext E31
  have c32_14 := c30_14.ext E31
  have c32_16 := c30_16.ext E31
  have c32_17 := c30_17.ext E31
  have c32_19 := c30_19.ext E31
  have c32_20 := c30_20.ext E31
  have c32_22 := c30_22.ext E31
  have c32_23 := c30_23.ext E31
  have c32_25 := c30_25.ext E31
  have c32_26 := c30_26.ext E31
  have c32_28 := c30_28.ext E31
  have c32_29 := c30_29.ext E31
  have c32_31 := c30_31.ext E31
  have c32_32 := c30_32.ext E31
  have c32_34 := c30_34.ext E31
  have c32_35 := c30_35.ext E31
  have c32_36 := c30_36.ext E31
  have c32_38 := c30_38.ext E31
  have c32_39 := c30_39.ext E31
  have K31 : Keep h0 h31 [o0] := K29.ext E31
  have Z31 := Nat.le_trans Z29 E31.1
  have V31 : AV Z h31 b31 .int 2 (fun k => .int ((fun _ => (0 : Int32)) k)) := by have q := AV.new A31; exact q
  refine Go.via st31 ?_
  obtain ⟨T33, h33, X33, e33, W33, st33⟩ := putF X31 hx hZ hown (host := "") (Or.inl (wq hw 37 rfl)) Via.refl e31 c32_4 c32_0 (Or.inr ⟨(wq hw 38 rfl), rfl, hnm⟩) (wq hw 2 rfl) (ty := (.array .int)) (by decide) rfl rfl (g := (mkF m 73 #[sR o0, sR o1, .unset] [(.ref b31), (.ref o0)])) rfl rfl (hb hby d1_73)
  have N33 := Fr.snoc X33 N29 ha15
  have c34_0 := c32_0.wr W33
  have c34_1 := c32_1.other W33 (sn (Or.inl (wq hw 58 rfl)) (Or.inr (wq hw 38 rfl)))
  have c34_2 := c32_2.other W33 (sn (Or.inl (wq hw 65 rfl)) (Or.inr (wq hw 38 rfl)))
  have c34_3 := c32_3.other W33 (sn (Or.inl (wq hw 82 rfl)) (Or.inr (wq hw 38 rfl)))
  have c34_5 := c32_5.other W33 (sn (Or.inr (wq hw 40 rfl)) (Or.inr (wq hw 38 rfl)))
  have c34_6 := c32_6.other W33 (sn (Or.inr (wq hw 36 rfl)) (Or.inr (wq hw 38 rfl)))
  have c34_7 := c32_7.other W33 (sn (Or.inr (wq hw 30 rfl)) (Or.inr (wq hw 38 rfl)))
  have c34_8 := c32_8.other W33 (sn (Or.inr (wq hw 43 rfl)) (Or.inr (wq hw 38 rfl)))
  have c34_9 := c32_9.other W33 (sn (Or.inr (wq hw 46 rfl)) (Or.inr (wq hw 38 rfl)))
  have c34_10 := c32_10.other W33 (sn (Or.inr (wq hw 34 rfl)) (Or.inr (wq hw 38 rfl)))
  have c34_11 := c32_11.other W33 (sn (Or.inl (wq hw 12 rfl)) (Or.inr (wq hw 38 rfl)))
  have c34_12 := c32_12.other W33 (sn (Or.inl (wq hw 14 rfl)) (Or.inr (wq hw 38 rfl)))
  have c34_13 := c32_13.other W33 (sn (Or.inl (wq hw 17 rfl)) (Or.inr (wq hw 38 rfl)))
  have c34_14 := c32_14.other W33 (sn (Or.inl (wq hw 19 rfl)) (Or.inr (wq hw 38 rfl)))
  have c34_16 := c32_16.wr W33
  have c34_17 := c32_17.other W33 (Ne.symm hne_o0_o1)
  have c34_19 := c32_19.wr W33
  have c34_20 := c32_20.other W33 (Ne.symm ne_o0_b2)
  have c34_22 := c32_22.wr W33
  have c34_23 := c32_23.other W33 (Ne.symm ne_o0_b6)
  have c34_25 := c32_25.wr W33
  have c34_26 := c32_26.other W33 (Ne.symm ne_o0_b10)
  have c34_28 := c32_28.wr W33
  have c34_29 := c32_29.other W33 (Ne.symm ne_o0_b14)
  have c34_31 := c32_31.other W33 (Ne.symm ne_o0_b18)
  have c34_32 := c32_32.wr W33
  have c34_34 := c32_34.other W33 (Ne.symm ne_o0_b23)
  have c34_35 := c32_35.wr W33
  have c34_36 := c32_36.wr W33
  have c34_38 := c32_38.wr W33
  have c34_39 := c32_39.other W33 (Ne.symm ne_o0_b27)
  have c34_41 := B31.wr W33
  have c34_42 := V31.other W33 (Ne.symm ne_o0_b31)
  have K33 : Keep h0 h33 [o0] := K31.wr W33 (Or.inl (by simp))
  have Z33 := Nat.le_trans Z31 (Keep.of_wr W33).1
  have Fw33 := c32_4.same W33
  refine Go.via st33 ?_
  refine Vi (T33.setTop (mkF m 79 #[sR o0, sR o1, .unset] [(.int 2), (.ref o0)])) (fun tZ kZ => ?_) ?_
  · refine XS.aloadN X33.here hx rfl (hb hby d1_76) rfl rfl ?_
    refine XS.aloadN X33.here hx rfl (hb hby d1_77) rfl rfl ?_
    refine AV.len c34_17 X33 hx hZ e33 (hb hby d1_78) ?_
    exact kZ
  obtain ⟨T35, h35, k35, X35, e35, E35, A35, B35, st35⟩ := newPE X33 hx hZ (wq hw 4 rfl) e33 (g := (mkF m 79 #[sR o0, sR o1, .unset] [(.int 2), (.ref o0)])) rfl (hb hby d1_79) rfl (by decide) (cap := 2) (by decide) (by decide) (by decide) (by decide) (ad := "[I") rfl
  obtain ⟨b35, g35⟩ : ∃ z, z = h33.size := ⟨_, rfl⟩
  rw [← g35] at A35 B35 st35
  have g_b35 : n0 ≤ b35 := Nat.le_trans Z33 (Nat.le_of_eq g35.symm)
  have sz_b35 : h0.size ≤ b35 := Nat.le_trans (K33).1 (Nat.le_of_eq g35.symm)
  have ne_o0_b35 : o0 ≠ b35 := Nat.ne_of_lt (Nat.lt_of_lt_of_le c34_0.lt (Nat.le_of_eq g35.symm))
  have ne_o1_b35 : o1 ≠ b35 := Nat.ne_of_lt (Nat.lt_of_lt_of_le c34_16.lt (Nat.le_of_eq g35.symm))
  have ne_b2_b35 : b2 ≠ b35 := Nat.ne_of_lt (Nat.lt_of_lt_of_le c34_19.lt (Nat.le_of_eq g35.symm))
  have ne_b6_b35 : b6 ≠ b35 := Nat.ne_of_lt (Nat.lt_of_lt_of_le c34_22.lt (Nat.le_of_eq g35.symm))
  have ne_b10_b35 : b10 ≠ b35 := Nat.ne_of_lt (Nat.lt_of_lt_of_le c34_25.lt (Nat.le_of_eq g35.symm))
  have ne_b14_b35 : b14 ≠ b35 := Nat.ne_of_lt (Nat.lt_of_lt_of_le c34_28.lt (Nat.le_of_eq g35.symm))
  have ne_b18_b35 : b18 ≠ b35 := Nat.ne_of_lt (Nat.lt_of_lt_of_le c34_31.lt (Nat.le_of_eq g35.symm))
  have ne_b23_b35 : b23 ≠ b35 := Nat.ne_of_lt (Nat.lt_of_lt_of_le c34_34.lt (Nat.le_of_eq g35.symm))
  have ne_b27_b35 : b27 ≠ b35 := Nat.ne_of_lt (Nat.lt_of_lt_of_le c34_38.lt (Nat.le_of_eq g35.symm))
  have ne_b31_b35 : b31 ≠ b35 := Nat.ne_of_lt (Nat.lt_of_lt_of_le c34_41.lt (Nat.le_of_eq g35.symm))
  have c36_0 := c34_0.ext E35
  have c36_1 := c34_1.ext E35
  have c36_2 := c34_2.ext E35
  have c36_3 := c34_3.ext E35
  have c36_4 := Fw33.ext E35
  have c36_5 := c34_5.ext E35
  have c36_6 := c34_6.ext E35
  have c36_7 := c34_7.ext E35
  have c36_8 := c34_8.ext E35
  have c36_9 := c34_9.ext E35
  have c36_10 := c34_10.ext E35
  have c36_11 := c34_11.ext E35
  have c36_12 := c34_12.ext E35
  have c36_13 := c34_13.ext E35
  have c36_14 := c34_14.ext E35
  have c36_16 := c34_16.ext E35
  have c36_17 := c34_17.ext E35
  have c36_19 := c34_19.ext E35
  have c36_20 := c34_20.ext E35
  have c36_22 := c34_22.ext E35
  have c36_23 := c34_23.ext E35
  have c36_25 := c34_25.ext E35
  have c36_26 := c34_26.ext E35
  have c36_28 := c34_28.ext E35
  have c36_29 := c34_29.ext E35
  have c36_31 := c34_31.ext E35
  have c36_32 := c34_32.ext E35
  have c36_34 := c34_34.ext E35
  have c36_35 := c34_35.ext E35
  have c36_36 := c34_36.ext E35
  have c36_38 := c34_38.ext E35
  have c36_39 := c34_39.ext E35
  have c36_41 := c34_41.ext E35
  have c36_42 := c34_42.ext E35
  have K35 : Keep h0 h35 [o0] := K33.ext E35
  have Z35 := Nat.le_trans Z33 E35.1
  have V35 : AV Z h35 b35 .int 2 (fun k => .int ((fun _ => (0 : Int32)) k)) := by have q := AV.new A35; exact q
  refine Go.via st35 ?_
  obtain ⟨T37, h37, X37, e37, W37, st37⟩ := putF X35 hx hZ hown (host := "") (Or.inl (wq hw 39 rfl)) Via.refl e35 c36_5 c36_0 (Or.inr ⟨(wq hw 40 rfl), rfl, hnm⟩) (wq hw 2 rfl) (ty := (.array .int)) (by decide) rfl rfl (g := (mkF m 81 #[sR o0, sR o1, .unset] [(.ref b35), (.ref o0)])) rfl rfl (hb hby d1_81)
  have N37 := Fr.snoc X37 N33 ha15
  have c38_0 := c36_0.wr W37
  have c38_1 := c36_1.other W37 (sn (Or.inl (wq hw 58 rfl)) (Or.inr (wq hw 40 rfl)))
  have c38_2 := c36_2.other W37 (sn (Or.inl (wq hw 65 rfl)) (Or.inr (wq hw 40 rfl)))
  have c38_3 := c36_3.other W37 (sn (Or.inl (wq hw 82 rfl)) (Or.inr (wq hw 40 rfl)))
  have c38_4 := c36_4.other W37 (sn (Or.inr (wq hw 38 rfl)) (Or.inr (wq hw 40 rfl)))
  have c38_6 := c36_6.other W37 (sn (Or.inr (wq hw 36 rfl)) (Or.inr (wq hw 40 rfl)))
  have c38_7 := c36_7.other W37 (sn (Or.inr (wq hw 30 rfl)) (Or.inr (wq hw 40 rfl)))
  have c38_8 := c36_8.other W37 (sn (Or.inr (wq hw 43 rfl)) (Or.inr (wq hw 40 rfl)))
  have c38_9 := c36_9.other W37 (sn (Or.inr (wq hw 46 rfl)) (Or.inr (wq hw 40 rfl)))
  have c38_10 := c36_10.other W37 (sn (Or.inr (wq hw 34 rfl)) (Or.inr (wq hw 40 rfl)))
  have c38_11 := c36_11.other W37 (sn (Or.inl (wq hw 12 rfl)) (Or.inr (wq hw 40 rfl)))
  have c38_12 := c36_12.other W37 (sn (Or.inl (wq hw 14 rfl)) (Or.inr (wq hw 40 rfl)))
  have c38_13 := c36_13.other W37 (sn (Or.inl (wq hw 17 rfl)) (Or.inr (wq hw 40 rfl)))
  have c38_14 := c36_14.other W37 (sn (Or.inl (wq hw 19 rfl)) (Or.inr (wq hw 40 rfl)))
  have c38_16 := c36_16.wr W37
  have c38_17 := c36_17.other W37 (Ne.symm hne_o0_o1)
  have c38_19 := c36_19.wr W37
  have c38_20 := c36_20.other W37 (Ne.symm ne_o0_b2)
  have c38_22 := c36_22.wr W37
  have c38_23 := c36_23.other W37 (Ne.symm ne_o0_b6)
  have c38_25 := c36_25.wr W37
  have c38_26 := c36_26.other W37 (Ne.symm ne_o0_b10)
  have c38_28 := c36_28.wr W37
  have c38_29 := c36_29.other W37 (Ne.symm ne_o0_b14)
  have c38_31 := c36_31.other W37 (Ne.symm ne_o0_b18)
  have c38_32 := c36_32.wr W37
  have c38_34 := c36_34.other W37 (Ne.symm ne_o0_b23)
  have c38_35 := c36_35.wr W37
  have c38_36 := c36_36.wr W37
  have c38_38 := c36_38.wr W37
  have c38_39 := c36_39.other W37 (Ne.symm ne_o0_b27)
  have c38_41 := c36_41.wr W37
  have c38_42 := c36_42.other W37 (Ne.symm ne_o0_b31)
  have c38_44 := B35.wr W37
  have c38_45 := V35.other W37 (Ne.symm ne_o0_b35)
  have K37 : Keep h0 h37 [o0] := K35.wr W37 (Or.inl (by simp))
  have Z37 := Nat.le_trans Z35 (Keep.of_wr W37).1
  have Fw37 := c36_5.same W37
  refine Go.via st37 ?_
  refine Vi (T37.setTop (mkF m 93 #[sR o0, sR o1, sI 0] [(.ref o0)])) (fun tZ kZ => ?_) ?_
  · refine XS.iconst X37.here hx rfl (hb hby d1_84) ?_
    refine XS.istoreN X37.here hx rfl (hb hby d1_85) rfl (l' := #[sR o0, sR o1, sI 0]) rfl ?_
    refine XS.iloadN X37.here hx rfl (hb hby d1_86) rfl ?_
    refine XS.aloadN X37.here hx rfl (hb hby d1_87) rfl rfl ?_
    refine AV.len c38_17 X37 hx hZ e37 (hb hby d1_88) ?_
    refine XS.icmpNo X37.here hx rfl (hb hby d1_89) rfl (tlt (by decide)).2.1 ?_
    refine XS.aloadN X37.here hx rfl (hb hby d1_92) rfl rfl ?_
    exact kZ
  refine GF X37 hx hZ hown (wq hw 33 rfl) e37 c38_10 (hb hby d1_93) fun T39 X39 e39 => ?_
  refine Vi (T39.setTop (mkF m 106 #[sR o0, sR o1, sI 0] [(.int ((((cF (0 : Int32).toNatClampNeg) + (63 : Int32)).toUInt32 >>> ((6 : Int32) &&& 31).toUInt32).toInt32)), (.int 0), (.ref b23)])) (fun tZ kZ => ?_) ?_
  · refine XS.iloadN X39.here hx rfl (hb hby d1_96) rfl ?_
    refine XS.aloadN X39.here hx rfl (hb hby d1_97) rfl rfl ?_
    refine XS.iloadN X39.here hx rfl (hb hby d1_98) rfl ?_
    refine AV.iaload c38_17 X39 hx hZ e39 (j := (0 : Int32)) (by decide) (hb hby d1_99) ?_
    refine XS.bipush X39.here hx rfl (hb hby d1_100) ?_
    refine XS.iadd X39.here hx rfl (hb hby d1_102) rfl ?_
    refine XS.bipush X39.here hx rfl (hb hby d1_103) ?_
    refine XS.iushr X39.here hx rfl (hb hby d1_105) rfl ?_
    exact kZ
  obtain ⟨T40, h40, k40, X40, e40, E40, A40, B40, st40⟩ := newPE X39 hx hZ (wq hw 15 rfl) e39 (g := (mkF m 106 #[sR o0, sR o1, sI 0] [(.int ((((cF (0 : Int32).toNatClampNeg) + (63 : Int32)).toUInt32 >>> ((6 : Int32) &&& 31).toUInt32).toInt32)), (.int 0), (.ref b23)])) rfl (hb hby d1_106) rfl hn0a (cap := 2) hn1a (by decide) (by decide) (by decide) (ad := "[J") rfl
  obtain ⟨b40, g40⟩ : ∃ z, z = h37.size := ⟨_, rfl⟩
  rw [← g40] at A40 B40 st40
  have g_b40 : n0 ≤ b40 := Nat.le_trans Z37 (Nat.le_of_eq g40.symm)
  have sz_b40 : h0.size ≤ b40 := Nat.le_trans (K37).1 (Nat.le_of_eq g40.symm)
  have ne_o0_b40 : o0 ≠ b40 := Nat.ne_of_lt (Nat.lt_of_lt_of_le c38_0.lt (Nat.le_of_eq g40.symm))
  have ne_o1_b40 : o1 ≠ b40 := Nat.ne_of_lt (Nat.lt_of_lt_of_le c38_16.lt (Nat.le_of_eq g40.symm))
  have ne_b2_b40 : b2 ≠ b40 := Nat.ne_of_lt (Nat.lt_of_lt_of_le c38_19.lt (Nat.le_of_eq g40.symm))
  have ne_b6_b40 : b6 ≠ b40 := Nat.ne_of_lt (Nat.lt_of_lt_of_le c38_22.lt (Nat.le_of_eq g40.symm))
  have ne_b10_b40 : b10 ≠ b40 := Nat.ne_of_lt (Nat.lt_of_lt_of_le c38_25.lt (Nat.le_of_eq g40.symm))
  have ne_b14_b40 : b14 ≠ b40 := Nat.ne_of_lt (Nat.lt_of_lt_of_le c38_28.lt (Nat.le_of_eq g40.symm))
  have ne_b18_b40 : b18 ≠ b40 := Nat.ne_of_lt (Nat.lt_of_lt_of_le c38_31.lt (Nat.le_of_eq g40.symm))
  have ne_b23_b40 : b23 ≠ b40 := Nat.ne_of_lt (Nat.lt_of_lt_of_le c38_34.lt (Nat.le_of_eq g40.symm))
  have ne_b27_b40 : b27 ≠ b40 := Nat.ne_of_lt (Nat.lt_of_lt_of_le c38_38.lt (Nat.le_of_eq g40.symm))
  have ne_b31_b40 : b31 ≠ b40 := Nat.ne_of_lt (Nat.lt_of_lt_of_le c38_41.lt (Nat.le_of_eq g40.symm))
  have ne_b35_b40 : b35 ≠ b40 := Nat.ne_of_lt (Nat.lt_of_lt_of_le c38_44.lt (Nat.le_of_eq g40.symm))
  have c41_0 := c38_0.ext E40
  have c41_1 := c38_1.ext E40
  have c41_2 := c38_2.ext E40
  have c41_3 := c38_3.ext E40
  have c41_4 := c38_4.ext E40
  have c41_5 := Fw37.ext E40
  have c41_6 := c38_6.ext E40
  have c41_7 := c38_7.ext E40
  have c41_8 := c38_8.ext E40
  have c41_9 := c38_9.ext E40
  have c41_10 := c38_10.ext E40
  have c41_11 := c38_11.ext E40
  have c41_12 := c38_12.ext E40
  have c41_13 := c38_13.ext E40
  have c41_14 := c38_14.ext E40
  have c41_16 := c38_16.ext E40
  have c41_17 := c38_17.ext E40
  have c41_19 := c38_19.ext E40
  have c41_20 := c38_20.ext E40
  have c41_22 := c38_22.ext E40
  have c41_23 := c38_23.ext E40
  have c41_25 := c38_25.ext E40
  have c41_26 := c38_26.ext E40
  have c41_28 := c38_28.ext E40
  have c41_29 := c38_29.ext E40
  have c41_31 := c38_31.ext E40
  have c41_32 := c38_32.ext E40
  have c41_34 := c38_34.ext E40
  have c41_35 := c38_35.ext E40
  have c41_36 := c38_36.ext E40
  have c41_38 := c38_38.ext E40
  have c41_39 := c38_39.ext E40
  have c41_41 := c38_41.ext E40
  have c41_42 := c38_42.ext E40
  have c41_44 := c38_44.ext E40
  have c41_45 := c38_45.ext E40
  have K40 : Keep h0 h40 [o0] := K37.ext E40
  have Z40 := Nat.le_trans Z37 E40.1
  have V40 : AV Z h40 b40 .long nU (fun k => .long ((fun _ => (0 : Int64)) k)) := by have q := AV.new A40; rw [hn2a] at q; exact q
  refine Go.via st40 ?_
  obtain ⟨T42, h42, X42, e42, W42, V42, st42⟩ := AV.aastore c41_34 rfl (OV.sto c41_36 c41_34 (Ins.self B40)) X40 hx hZ e40 (j := (0 : Int32)) (by decide) (Ls := #[sR o0, sR o1, sI 0]) (rest := []) (hb hby d1_108) (v := (.ref b40))
  have N42 := Fr.snoc X42 N37 g_b23
  have c43_0 := c41_0.wr W42
  have c43_1 := c41_1.other W42 (Or.inl ne_o0_b23)
  have c43_2 := c41_2.other W42 (Or.inl ne_o0_b23)
  have c43_3 := c41_3.other W42 (Or.inl ne_o0_b23)
  have c43_4 := c41_4.other W42 (Or.inl ne_o0_b23)
  have c43_5 := c41_5.other W42 (Or.inl ne_o0_b23)
  have c43_6 := c41_6.other W42 (Or.inl ne_o0_b23)
  have c43_7 := c41_7.other W42 (Or.inl ne_o0_b23)
  have c43_8 := c41_8.other W42 (Or.inl ne_o0_b23)
  have c43_9 := c41_9.other W42 (Or.inl ne_o0_b23)
  have c43_10 := c41_10.other W42 (Or.inl ne_o0_b23)
  have c43_11 := c41_11.other W42 (Or.inl ne_o0_b23)
  have c43_12 := c41_12.other W42 (Or.inl ne_o0_b23)
  have c43_13 := c41_13.other W42 (Or.inl ne_o0_b23)
  have c43_14 := c41_14.other W42 (Or.inl ne_o0_b23)
  have c43_16 := c41_16.wr W42
  have c43_17 := c41_17.other W42 ne_o1_b23
  have c43_19 := c41_19.wr W42
  have c43_20 := c41_20.other W42 ne_b2_b23
  have c43_22 := c41_22.wr W42
  have c43_23 := c41_23.other W42 ne_b6_b23
  have c43_25 := c41_25.wr W42
  have c43_26 := c41_26.other W42 ne_b10_b23
  have c43_28 := c41_28.wr W42
  have c43_29 := c41_29.other W42 ne_b14_b23
  have c43_31 := c41_31.other W42 ne_b18_b23
  have c43_32 := c41_32.wr W42
  have c43_35 := c41_35.wr W42
  have c43_36 := c41_36.wr W42
  have c43_38 := c41_38.wr W42
  have c43_39 := c41_39.other W42 (Ne.symm ne_b23_b27)
  have c43_41 := c41_41.wr W42
  have c43_42 := c41_42.other W42 (Ne.symm ne_b23_b31)
  have c43_44 := c41_44.wr W42
  have c43_45 := c41_45.other W42 (Ne.symm ne_b23_b35)
  have c43_47 := B40.wr W42
  have c43_48 := V40.other W42 (Ne.symm ne_b23_b40)
  have K42 : Keep h0 h42 [o0] := K40.wr W42 (Or.inr sz_b23)
  have Z42 := Nat.le_trans Z40 (Keep.of_wr W42).1
  refine Go.via st42 ?_
  refine Vi (T42.setTop (mkF m 93 #[sR o0, sR o1, sI 1] [(.ref o0)])) (fun tZ kZ => ?_) ?_
  · refine XS.iinc X42.here hx rfl (hb hby d1_109) rfl (l' := #[sR o0, sR o1, sI 1]) rfl ?_
    refine XS.goto X42.here hx rfl (pc0 := 112) (pc' := 86) rfl (hb hby d1_112) (by decide) (by decide) ?_
    refine XS.iloadN X42.here hx rfl (hb hby d1_86) rfl ?_
    refine XS.aloadN X42.here hx rfl (hb hby d1_87) rfl rfl ?_
    refine AV.len c43_17 X42 hx hZ e42 (hb hby d1_88) ?_
    refine XS.icmpNo X42.here hx rfl (hb hby d1_89) rfl (tlt (by decide)).2.1 ?_
    refine XS.aloadN X42.here hx rfl (hb hby d1_92) rfl rfl ?_
    exact kZ
  refine GF X42 hx hZ hown (wq hw 33 rfl) e42 c43_10 (hb hby d1_93) fun T44 X44 e44 => ?_
  refine Vi (T44.setTop (mkF m 106 #[sR o0, sR o1, sI 1] [(.int ((((cF (1 : Int32).toNatClampNeg) + (63 : Int32)).toUInt32 >>> ((6 : Int32) &&& 31).toUInt32).toInt32)), (.int 1), (.ref b23)])) (fun tZ kZ => ?_) ?_
  · refine XS.iloadN X44.here hx rfl (hb hby d1_96) rfl ?_
    refine XS.aloadN X44.here hx rfl (hb hby d1_97) rfl rfl ?_
    refine XS.iloadN X44.here hx rfl (hb hby d1_98) rfl ?_
    refine AV.iaload c43_17 X44 hx hZ e44 (j := (1 : Int32)) (by decide) (hb hby d1_99) ?_
    refine XS.bipush X44.here hx rfl (hb hby d1_100) ?_
    refine XS.iadd X44.here hx rfl (hb hby d1_102) rfl ?_
    refine XS.bipush X44.here hx rfl (hb hby d1_103) ?_
    refine XS.iushr X44.here hx rfl (hb hby d1_105) rfl ?_
    exact kZ
  obtain ⟨T45, h45, k45, X45, e45, E45, A45, B45, st45⟩ := newPE X44 hx hZ (wq hw 15 rfl) e44 (g := (mkF m 106 #[sR o0, sR o1, sI 1] [(.int ((((cF (1 : Int32).toNatClampNeg) + (63 : Int32)).toUInt32 >>> ((6 : Int32) &&& 31).toUInt32).toInt32)), (.int 1), (.ref b23)])) rfl (hb hby d1_106) rfl hn0b (cap := 2) hn1b (by decide) (by decide) (by decide) (ad := "[J") rfl
  obtain ⟨b45, g45⟩ : ∃ z, z = h42.size := ⟨_, rfl⟩
  rw [← g45] at A45 B45 st45
  have g_b45 : n0 ≤ b45 := Nat.le_trans Z42 (Nat.le_of_eq g45.symm)
  have sz_b45 : h0.size ≤ b45 := Nat.le_trans (K42).1 (Nat.le_of_eq g45.symm)
  have ne_o0_b45 : o0 ≠ b45 := Nat.ne_of_lt (Nat.lt_of_lt_of_le c43_0.lt (Nat.le_of_eq g45.symm))
  have ne_o1_b45 : o1 ≠ b45 := Nat.ne_of_lt (Nat.lt_of_lt_of_le c43_16.lt (Nat.le_of_eq g45.symm))
  have ne_b2_b45 : b2 ≠ b45 := Nat.ne_of_lt (Nat.lt_of_lt_of_le c43_19.lt (Nat.le_of_eq g45.symm))
  have ne_b6_b45 : b6 ≠ b45 := Nat.ne_of_lt (Nat.lt_of_lt_of_le c43_22.lt (Nat.le_of_eq g45.symm))
  have ne_b10_b45 : b10 ≠ b45 := Nat.ne_of_lt (Nat.lt_of_lt_of_le c43_25.lt (Nat.le_of_eq g45.symm))
  have ne_b14_b45 : b14 ≠ b45 := Nat.ne_of_lt (Nat.lt_of_lt_of_le c43_28.lt (Nat.le_of_eq g45.symm))
  have ne_b18_b45 : b18 ≠ b45 := Nat.ne_of_lt (Nat.lt_of_lt_of_le c43_31.lt (Nat.le_of_eq g45.symm))
  have ne_b23_b45 : b23 ≠ b45 := Nat.ne_of_lt (Nat.lt_of_lt_of_le V42.lt (Nat.le_of_eq g45.symm))
  have ne_b27_b45 : b27 ≠ b45 := Nat.ne_of_lt (Nat.lt_of_lt_of_le c43_38.lt (Nat.le_of_eq g45.symm))
  have ne_b31_b45 : b31 ≠ b45 := Nat.ne_of_lt (Nat.lt_of_lt_of_le c43_41.lt (Nat.le_of_eq g45.symm))
  have ne_b35_b45 : b35 ≠ b45 := Nat.ne_of_lt (Nat.lt_of_lt_of_le c43_44.lt (Nat.le_of_eq g45.symm))
  have ne_b40_b45 : b40 ≠ b45 := Nat.ne_of_lt (Nat.lt_of_lt_of_le c43_47.lt (Nat.le_of_eq g45.symm))
  have c46_0 := c43_0.ext E45
  have c46_1 := c43_1.ext E45
  have c46_2 := c43_2.ext E45
  have c46_3 := c43_3.ext E45
  have c46_4 := c43_4.ext E45
  have c46_5 := c43_5.ext E45
  have c46_6 := c43_6.ext E45
  have c46_7 := c43_7.ext E45
  have c46_8 := c43_8.ext E45
  have c46_9 := c43_9.ext E45
  have c46_10 := c43_10.ext E45
  have c46_11 := c43_11.ext E45
  have c46_12 := c43_12.ext E45
  have c46_13 := c43_13.ext E45
  have c46_14 := c43_14.ext E45
  have c46_16 := c43_16.ext E45
  have c46_17 := c43_17.ext E45
  have c46_19 := c43_19.ext E45
  have c46_20 := c43_20.ext E45
  have c46_22 := c43_22.ext E45
  have c46_23 := c43_23.ext E45
  have c46_25 := c43_25.ext E45
  have c46_26 := c43_26.ext E45
  have c46_28 := c43_28.ext E45
  have c46_29 := c43_29.ext E45
  have c46_31 := c43_31.ext E45
  have c46_32 := c43_32.ext E45
  have c46_34 := V42.ext E45
  have c46_35 := c43_35.ext E45
  have c46_36 := c43_36.ext E45
  have c46_38 := c43_38.ext E45
  have c46_39 := c43_39.ext E45
  have c46_41 := c43_41.ext E45
  have c46_42 := c43_42.ext E45
  have c46_44 := c43_44.ext E45
  have c46_45 := c43_45.ext E45
  have c46_47 := c43_47.ext E45
  have c46_48 := c43_48.ext E45
  have K45 : Keep h0 h45 [o0] := K42.ext E45
  have Z45 := Nat.le_trans Z42 E45.1
  have V45 : AV Z h45 b45 .long nV (fun k => .long ((fun _ => (0 : Int64)) k)) := by have q := AV.new A45; rw [hn2b] at q; exact q
  refine Go.via st45 ?_
  obtain ⟨T47, h47, X47, e47, W47, V47, st47⟩ := AV.aastore c46_34 rfl (OV.sto c46_36 c46_34 (Ins.self B45)) X45 hx hZ e45 (j := (1 : Int32)) (by decide) (Ls := #[sR o0, sR o1, sI 1]) (rest := []) (hb hby d1_108) (v := (.ref b45))
  have N47 := Fr.snoc X47 N42 g_b23
  have c48_0 := c46_0.wr W47
  have c48_1 := c46_1.other W47 (Or.inl ne_o0_b23)
  have c48_2 := c46_2.other W47 (Or.inl ne_o0_b23)
  have c48_3 := c46_3.other W47 (Or.inl ne_o0_b23)
  have c48_4 := c46_4.other W47 (Or.inl ne_o0_b23)
  have c48_5 := c46_5.other W47 (Or.inl ne_o0_b23)
  have c48_6 := c46_6.other W47 (Or.inl ne_o0_b23)
  have c48_7 := c46_7.other W47 (Or.inl ne_o0_b23)
  have c48_8 := c46_8.other W47 (Or.inl ne_o0_b23)
  have c48_9 := c46_9.other W47 (Or.inl ne_o0_b23)
  have c48_10 := c46_10.other W47 (Or.inl ne_o0_b23)
  have c48_11 := c46_11.other W47 (Or.inl ne_o0_b23)
  have c48_12 := c46_12.other W47 (Or.inl ne_o0_b23)
  have c48_13 := c46_13.other W47 (Or.inl ne_o0_b23)
  have c48_14 := c46_14.other W47 (Or.inl ne_o0_b23)
  have c48_16 := c46_16.wr W47
  have c48_17 := c46_17.other W47 ne_o1_b23
  have c48_19 := c46_19.wr W47
  have c48_20 := c46_20.other W47 ne_b2_b23
  have c48_22 := c46_22.wr W47
  have c48_23 := c46_23.other W47 ne_b6_b23
  have c48_25 := c46_25.wr W47
  have c48_26 := c46_26.other W47 ne_b10_b23
  have c48_28 := c46_28.wr W47
  have c48_29 := c46_29.other W47 ne_b14_b23
  have c48_31 := c46_31.other W47 ne_b18_b23
  have c48_32 := c46_32.wr W47
  have c48_35 := c46_35.wr W47
  have c48_36 := c46_36.wr W47
  have c48_38 := c46_38.wr W47
  have c48_39 := c46_39.other W47 (Ne.symm ne_b23_b27)
  have c48_41 := c46_41.wr W47
  have c48_42 := c46_42.other W47 (Ne.symm ne_b23_b31)
  have c48_44 := c46_44.wr W47
  have c48_45 := c46_45.other W47 (Ne.symm ne_b23_b35)
  have c48_47 := c46_47.wr W47
  have c48_48 := c46_48.other W47 (Ne.symm ne_b23_b40)
  have c48_50 := B45.wr W47
  have c48_51 := V45.other W47 (Ne.symm ne_b23_b45)
  have K47 : Keep h0 h47 [o0] := K45.wr W47 (Or.inr sz_b23)
  have Z47 := Nat.le_trans Z45 (Keep.of_wr W47).1
  refine Go.via st47 ?_
  refine Vi (T47.setTop (mkF m 118 #[sR o0, sR o1, sI 2] [(.int 2), (.ref o0)])) (fun tZ kZ => ?_) ?_
  · refine XS.iinc X47.here hx rfl (hb hby d1_109) rfl (l' := #[sR o0, sR o1, sI 2]) rfl ?_
    refine XS.goto X47.here hx rfl (pc0 := 112) (pc' := 86) rfl (hb hby d1_112) (by decide) (by decide) ?_
    refine XS.iloadN X47.here hx rfl (hb hby d1_86) rfl ?_
    refine XS.aloadN X47.here hx rfl (hb hby d1_87) rfl rfl ?_
    refine AV.len c48_17 X47 hx hZ e47 (hb hby d1_88) ?_
    refine XS.icmpYes X47.here hx rfl (pc0 := 89) (pc' := 115) rfl (hb hby d1_89) rfl (flt (by decide)).2.1 (by decide) (by decide) ?_
    refine XS.aloadN X47.here hx rfl (hb hby d1_115) rfl rfl ?_
    refine XS.aloadN X47.here hx rfl (hb hby d1_116) rfl rfl ?_
    refine AV.len c48_17 X47 hx hZ e47 (hb hby d1_117) ?_
    exact kZ
  obtain ⟨T49, h49, k49, X49, e49, E49, A49, B49, st49⟩ := newPE X47 hx hZ (wq hw 4 rfl) e47 (g := (mkF m 118 #[sR o0, sR o1, sI 2] [(.int 2), (.ref o0)])) rfl (hb hby d1_118) rfl (by decide) (cap := 2) (by decide) (by decide) (by decide) (by decide) (ad := "[I") rfl
  obtain ⟨b49, g49⟩ : ∃ z, z = h47.size := ⟨_, rfl⟩
  rw [← g49] at A49 B49 st49
  have g_b49 : n0 ≤ b49 := Nat.le_trans Z47 (Nat.le_of_eq g49.symm)
  have sz_b49 : h0.size ≤ b49 := Nat.le_trans (K47).1 (Nat.le_of_eq g49.symm)
  have ne_o0_b49 : o0 ≠ b49 := Nat.ne_of_lt (Nat.lt_of_lt_of_le c48_0.lt (Nat.le_of_eq g49.symm))
  have ne_o1_b49 : o1 ≠ b49 := Nat.ne_of_lt (Nat.lt_of_lt_of_le c48_16.lt (Nat.le_of_eq g49.symm))
  have ne_b2_b49 : b2 ≠ b49 := Nat.ne_of_lt (Nat.lt_of_lt_of_le c48_19.lt (Nat.le_of_eq g49.symm))
  have ne_b6_b49 : b6 ≠ b49 := Nat.ne_of_lt (Nat.lt_of_lt_of_le c48_22.lt (Nat.le_of_eq g49.symm))
  have ne_b10_b49 : b10 ≠ b49 := Nat.ne_of_lt (Nat.lt_of_lt_of_le c48_25.lt (Nat.le_of_eq g49.symm))
  have ne_b14_b49 : b14 ≠ b49 := Nat.ne_of_lt (Nat.lt_of_lt_of_le c48_28.lt (Nat.le_of_eq g49.symm))
  have ne_b18_b49 : b18 ≠ b49 := Nat.ne_of_lt (Nat.lt_of_lt_of_le c48_31.lt (Nat.le_of_eq g49.symm))
  have ne_b23_b49 : b23 ≠ b49 := Nat.ne_of_lt (Nat.lt_of_lt_of_le V47.lt (Nat.le_of_eq g49.symm))
  have ne_b27_b49 : b27 ≠ b49 := Nat.ne_of_lt (Nat.lt_of_lt_of_le c48_38.lt (Nat.le_of_eq g49.symm))
  have ne_b31_b49 : b31 ≠ b49 := Nat.ne_of_lt (Nat.lt_of_lt_of_le c48_41.lt (Nat.le_of_eq g49.symm))
  have ne_b35_b49 : b35 ≠ b49 := Nat.ne_of_lt (Nat.lt_of_lt_of_le c48_44.lt (Nat.le_of_eq g49.symm))
  have ne_b40_b49 : b40 ≠ b49 := Nat.ne_of_lt (Nat.lt_of_lt_of_le c48_47.lt (Nat.le_of_eq g49.symm))
  have ne_b45_b49 : b45 ≠ b49 := Nat.ne_of_lt (Nat.lt_of_lt_of_le c48_50.lt (Nat.le_of_eq g49.symm))
  have c50_0 := c48_0.ext E49
  have c50_1 := c48_1.ext E49
  have c50_2 := c48_2.ext E49
  have c50_3 := c48_3.ext E49
  have c50_4 := c48_4.ext E49
  have c50_5 := c48_5.ext E49
  have c50_6 := c48_6.ext E49
  have c50_7 := c48_7.ext E49
  have c50_8 := c48_8.ext E49
  have c50_9 := c48_9.ext E49
  have c50_10 := c48_10.ext E49
  have c50_11 := c48_11.ext E49
  have c50_12 := c48_12.ext E49
  have c50_13 := c48_13.ext E49
  have c50_14 := c48_14.ext E49
  have c50_16 := c48_16.ext E49
  have c50_17 := c48_17.ext E49
  have c50_19 := c48_19.ext E49
  have c50_20 := c48_20.ext E49
  have c50_22 := c48_22.ext E49
  have c50_23 := c48_23.ext E49
  have c50_25 := c48_25.ext E49
  have c50_26 := c48_26.ext E49
  have c50_28 := c48_28.ext E49
  have c50_29 := c48_29.ext E49
  have c50_31 := c48_31.ext E49
  have c50_32 := c48_32.ext E49
  have c50_34 := V47.ext E49
  have c50_35 := c48_35.ext E49
  have c50_36 := c48_36.ext E49
  have c50_38 := c48_38.ext E49
  have c50_39 := c48_39.ext E49
  have c50_41 := c48_41.ext E49
  have c50_42 := c48_42.ext E49
  have c50_44 := c48_44.ext E49
  have c50_45 := c48_45.ext E49
  have c50_47 := c48_47.ext E49
  have c50_48 := c48_48.ext E49
  have c50_50 := c48_50.ext E49
  have c50_51 := c48_51.ext E49
  have K49 : Keep h0 h49 [o0] := K47.ext E49
  have Z49 := Nat.le_trans Z47 E49.1
  have V49 : AV Z h49 b49 .int 2 (fun k => .int ((fun _ => (0 : Int32)) k)) := by have q := AV.new A49; exact q
  refine Go.via st49 ?_
  obtain ⟨T51, h51, X51, e51, W51, st51⟩ := putF X49 hx hZ hown (host := "") (Or.inl (wq hw 42 rfl)) Via.refl e49 c50_8 c50_0 (Or.inr ⟨(wq hw 43 rfl), rfl, hnm⟩) (wq hw 2 rfl) (ty := (.array .int)) (by decide) rfl rfl (g := (mkF m 120 #[sR o0, sR o1, sI 2] [(.ref b49), (.ref o0)])) rfl rfl (hb hby d1_120)
  have N51 := Fr.snoc X51 N47 ha15
  have c52_0 := c50_0.wr W51
  have c52_1 := c50_1.other W51 (sn (Or.inl (wq hw 58 rfl)) (Or.inr (wq hw 43 rfl)))
  have c52_2 := c50_2.other W51 (sn (Or.inl (wq hw 65 rfl)) (Or.inr (wq hw 43 rfl)))
  have c52_3 := c50_3.other W51 (sn (Or.inl (wq hw 82 rfl)) (Or.inr (wq hw 43 rfl)))
  have c52_4 := c50_4.other W51 (sn (Or.inr (wq hw 38 rfl)) (Or.inr (wq hw 43 rfl)))
  have c52_5 := c50_5.other W51 (sn (Or.inr (wq hw 40 rfl)) (Or.inr (wq hw 43 rfl)))
  have c52_6 := c50_6.other W51 (sn (Or.inr (wq hw 36 rfl)) (Or.inr (wq hw 43 rfl)))
  have c52_7 := c50_7.other W51 (sn (Or.inr (wq hw 30 rfl)) (Or.inr (wq hw 43 rfl)))
  have c52_9 := c50_9.other W51 (sn (Or.inr (wq hw 46 rfl)) (Or.inr (wq hw 43 rfl)))
  have c52_10 := c50_10.other W51 (sn (Or.inr (wq hw 34 rfl)) (Or.inr (wq hw 43 rfl)))
  have c52_11 := c50_11.other W51 (sn (Or.inl (wq hw 12 rfl)) (Or.inr (wq hw 43 rfl)))
  have c52_12 := c50_12.other W51 (sn (Or.inl (wq hw 14 rfl)) (Or.inr (wq hw 43 rfl)))
  have c52_13 := c50_13.other W51 (sn (Or.inl (wq hw 17 rfl)) (Or.inr (wq hw 43 rfl)))
  have c52_14 := c50_14.other W51 (sn (Or.inl (wq hw 19 rfl)) (Or.inr (wq hw 43 rfl)))
  have c52_16 := c50_16.wr W51
  have c52_17 := c50_17.other W51 (Ne.symm hne_o0_o1)
  have c52_19 := c50_19.wr W51
  have c52_20 := c50_20.other W51 (Ne.symm ne_o0_b2)
  have c52_22 := c50_22.wr W51
  have c52_23 := c50_23.other W51 (Ne.symm ne_o0_b6)
  have c52_25 := c50_25.wr W51
  have c52_26 := c50_26.other W51 (Ne.symm ne_o0_b10)
  have c52_28 := c50_28.wr W51
  have c52_29 := c50_29.other W51 (Ne.symm ne_o0_b14)
  have c52_31 := c50_31.other W51 (Ne.symm ne_o0_b18)
  have c52_32 := c50_32.wr W51
  have c52_34 := c50_34.other W51 (Ne.symm ne_o0_b23)
  have c52_35 := c50_35.wr W51
  have c52_36 := c50_36.wr W51
  have c52_38 := c50_38.wr W51
  have c52_39 := c50_39.other W51 (Ne.symm ne_o0_b27)
  have c52_41 := c50_41.wr W51
  have c52_42 := c50_42.other W51 (Ne.symm ne_o0_b31)
  have c52_44 := c50_44.wr W51
  have c52_45 := c50_45.other W51 (Ne.symm ne_o0_b35)
  have c52_47 := c50_47.wr W51
  have c52_48 := c50_48.other W51 (Ne.symm ne_o0_b40)
  have c52_50 := c50_50.wr W51
  have c52_51 := c50_51.other W51 (Ne.symm ne_o0_b45)
  have c52_53 := B49.wr W51
  have c52_54 := V49.other W51 (Ne.symm ne_o0_b49)
  have K51 : Keep h0 h51 [o0] := K49.wr W51 (Or.inl (by simp))
  have Z51 := Nat.le_trans Z49 (Keep.of_wr W51).1
  have Fw51 := c50_8.same W51
  refine Go.via st51 ?_
  refine Vi (T51.setTop (mkF m 126 #[sR o0, sR o1, sI 2] [(.int 2), (.ref o0)])) (fun tZ kZ => ?_) ?_
  · refine XS.aloadN X51.here hx rfl (hb hby d1_123) rfl rfl ?_
    refine XS.aloadN X51.here hx rfl (hb hby d1_124) rfl rfl ?_
    refine AV.len c52_17 X51 hx hZ e51 (hb hby d1_125) ?_
    exact kZ
  obtain ⟨T53, h53, k53, X53, e53, E53, A53, B53, st53⟩ := newPE X51 hx hZ (wq hw 44 rfl) e51 (g := (mkF m 126 #[sR o0, sR o1, sI 2] [(.int 2), (.ref o0)])) rfl (hb hby d1_126) rfl (by decide) (cap := 2) (by decide) (by decide) (by decide) (by decide) (ad := "[Z") rfl
  obtain ⟨b53, g53⟩ : ∃ z, z = h51.size := ⟨_, rfl⟩
  rw [← g53] at A53 B53 st53
  have g_b53 : n0 ≤ b53 := Nat.le_trans Z51 (Nat.le_of_eq g53.symm)
  have sz_b53 : h0.size ≤ b53 := Nat.le_trans (K51).1 (Nat.le_of_eq g53.symm)
  have ne_o0_b53 : o0 ≠ b53 := Nat.ne_of_lt (Nat.lt_of_lt_of_le c52_0.lt (Nat.le_of_eq g53.symm))
  have ne_o1_b53 : o1 ≠ b53 := Nat.ne_of_lt (Nat.lt_of_lt_of_le c52_16.lt (Nat.le_of_eq g53.symm))
  have ne_b2_b53 : b2 ≠ b53 := Nat.ne_of_lt (Nat.lt_of_lt_of_le c52_19.lt (Nat.le_of_eq g53.symm))
  have ne_b6_b53 : b6 ≠ b53 := Nat.ne_of_lt (Nat.lt_of_lt_of_le c52_22.lt (Nat.le_of_eq g53.symm))
  have ne_b10_b53 : b10 ≠ b53 := Nat.ne_of_lt (Nat.lt_of_lt_of_le c52_25.lt (Nat.le_of_eq g53.symm))
  have ne_b14_b53 : b14 ≠ b53 := Nat.ne_of_lt (Nat.lt_of_lt_of_le c52_28.lt (Nat.le_of_eq g53.symm))
  have ne_b18_b53 : b18 ≠ b53 := Nat.ne_of_lt (Nat.lt_of_lt_of_le c52_31.lt (Nat.le_of_eq g53.symm))
  have ne_b23_b53 : b23 ≠ b53 := Nat.ne_of_lt (Nat.lt_of_lt_of_le c52_34.lt (Nat.le_of_eq g53.symm))
  have ne_b27_b53 : b27 ≠ b53 := Nat.ne_of_lt (Nat.lt_of_lt_of_le c52_38.lt (Nat.le_of_eq g53.symm))
  have ne_b31_b53 : b31 ≠ b53 := Nat.ne_of_lt (Nat.lt_of_lt_of_le c52_41.lt (Nat.le_of_eq g53.symm))
  have ne_b35_b53 : b35 ≠ b53 := Nat.ne_of_lt (Nat.lt_of_lt_of_le c52_44.lt (Nat.le_of_eq g53.symm))
  have ne_b40_b53 : b40 ≠ b53 := Nat.ne_of_lt (Nat.lt_of_lt_of_le c52_47.lt (Nat.le_of_eq g53.symm))
  have ne_b45_b53 : b45 ≠ b53 := Nat.ne_of_lt (Nat.lt_of_lt_of_le c52_50.lt (Nat.le_of_eq g53.symm))
  have ne_b49_b53 : b49 ≠ b53 := Nat.ne_of_lt (Nat.lt_of_lt_of_le c52_53.lt (Nat.le_of_eq g53.symm))
  have c54_0 := c52_0.ext E53
  have c54_1 := c52_1.ext E53
  have c54_2 := c52_2.ext E53
  have c54_3 := c52_3.ext E53
  have c54_4 := c52_4.ext E53
  have c54_5 := c52_5.ext E53
  have c54_6 := c52_6.ext E53
  have c54_7 := c52_7.ext E53
  have c54_8 := Fw51.ext E53
  have c54_9 := c52_9.ext E53
  have c54_10 := c52_10.ext E53
  have c54_11 := c52_11.ext E53
  have c54_12 := c52_12.ext E53
  have c54_13 := c52_13.ext E53
  have c54_14 := c52_14.ext E53
  have c54_16 := c52_16.ext E53
  have c54_17 := c52_17.ext E53
  have c54_19 := c52_19.ext E53
  have c54_20 := c52_20.ext E53
  have c54_22 := c52_22.ext E53
  have c54_23 := c52_23.ext E53
  have c54_25 := c52_25.ext E53
  have c54_26 := c52_26.ext E53
  have c54_28 := c52_28.ext E53
  have c54_29 := c52_29.ext E53
  have c54_31 := c52_31.ext E53
  have c54_32 := c52_32.ext E53
  have c54_34 := c52_34.ext E53
  have c54_35 := c52_35.ext E53
  have c54_36 := c52_36.ext E53
  have c54_38 := c52_38.ext E53
  have c54_39 := c52_39.ext E53
  have c54_41 := c52_41.ext E53
  have c54_42 := c52_42.ext E53
  have c54_44 := c52_44.ext E53
  have c54_45 := c52_45.ext E53
  have c54_47 := c52_47.ext E53
  have c54_48 := c52_48.ext E53
  have c54_50 := c52_50.ext E53
  have c54_51 := c52_51.ext E53
  have c54_53 := c52_53.ext E53
  have c54_54 := c52_54.ext E53
  have K53 : Keep h0 h53 [o0] := K51.ext E53
  have Z53 := Nat.le_trans Z51 E53.1
  have V53 : AV Z h53 b53 .boolean 2 (fun k => .int ((fun _ => (0 : Int32)) k)) := by have q := AV.new A53; exact q
  refine Go.via st53 ?_
  obtain ⟨T55, h55, X55, e55, W55, st55⟩ := putF X53 hx hZ hown (host := "") (Or.inl (wq hw 45 rfl)) Via.refl e53 c54_9 c54_0 (Or.inr ⟨(wq hw 46 rfl), rfl, hnm⟩) (wq hw 2 rfl) (ty := (.array .boolean)) (by decide) rfl rfl (g := (mkF m 128 #[sR o0, sR o1, sI 2] [(.ref b53), (.ref o0)])) rfl rfl (hb hby d1_128)
  have N55 := Fr.snoc X55 N51 ha15
  have c56_0 := c54_0.wr W55
  have c56_1 := c54_1.other W55 (sn (Or.inl (wq hw 58 rfl)) (Or.inr (wq hw 46 rfl)))
  have c56_2 := c54_2.other W55 (sn (Or.inl (wq hw 65 rfl)) (Or.inr (wq hw 46 rfl)))
  have c56_3 := c54_3.other W55 (sn (Or.inl (wq hw 82 rfl)) (Or.inr (wq hw 46 rfl)))
  have c56_4 := c54_4.other W55 (sn (Or.inr (wq hw 38 rfl)) (Or.inr (wq hw 46 rfl)))
  have c56_5 := c54_5.other W55 (sn (Or.inr (wq hw 40 rfl)) (Or.inr (wq hw 46 rfl)))
  have c56_6 := c54_6.other W55 (sn (Or.inr (wq hw 36 rfl)) (Or.inr (wq hw 46 rfl)))
  have c56_7 := c54_7.other W55 (sn (Or.inr (wq hw 30 rfl)) (Or.inr (wq hw 46 rfl)))
  have c56_8 := c54_8.other W55 (sn (Or.inr (wq hw 43 rfl)) (Or.inr (wq hw 46 rfl)))
  have c56_10 := c54_10.other W55 (sn (Or.inr (wq hw 34 rfl)) (Or.inr (wq hw 46 rfl)))
  have c56_11 := c54_11.other W55 (sn (Or.inl (wq hw 12 rfl)) (Or.inr (wq hw 46 rfl)))
  have c56_12 := c54_12.other W55 (sn (Or.inl (wq hw 14 rfl)) (Or.inr (wq hw 46 rfl)))
  have c56_13 := c54_13.other W55 (sn (Or.inl (wq hw 17 rfl)) (Or.inr (wq hw 46 rfl)))
  have c56_14 := c54_14.other W55 (sn (Or.inl (wq hw 19 rfl)) (Or.inr (wq hw 46 rfl)))
  have c56_16 := c54_16.wr W55
  have c56_17 := c54_17.other W55 (Ne.symm hne_o0_o1)
  have c56_19 := c54_19.wr W55
  have c56_20 := c54_20.other W55 (Ne.symm ne_o0_b2)
  have c56_22 := c54_22.wr W55
  have c56_23 := c54_23.other W55 (Ne.symm ne_o0_b6)
  have c56_25 := c54_25.wr W55
  have c56_26 := c54_26.other W55 (Ne.symm ne_o0_b10)
  have c56_28 := c54_28.wr W55
  have c56_29 := c54_29.other W55 (Ne.symm ne_o0_b14)
  have c56_31 := c54_31.other W55 (Ne.symm ne_o0_b18)
  have c56_32 := c54_32.wr W55
  have c56_34 := c54_34.other W55 (Ne.symm ne_o0_b23)
  have c56_35 := c54_35.wr W55
  have c56_36 := c54_36.wr W55
  have c56_38 := c54_38.wr W55
  have c56_39 := c54_39.other W55 (Ne.symm ne_o0_b27)
  have c56_41 := c54_41.wr W55
  have c56_42 := c54_42.other W55 (Ne.symm ne_o0_b31)
  have c56_44 := c54_44.wr W55
  have c56_45 := c54_45.other W55 (Ne.symm ne_o0_b35)
  have c56_47 := c54_47.wr W55
  have c56_48 := c54_48.other W55 (Ne.symm ne_o0_b40)
  have c56_50 := c54_50.wr W55
  have c56_51 := c54_51.other W55 (Ne.symm ne_o0_b45)
  have c56_53 := c54_53.wr W55
  have c56_54 := c54_54.other W55 (Ne.symm ne_o0_b49)
  have c56_56 := B53.wr W55
  have c56_57 := V53.other W55 (Ne.symm ne_o0_b53)
  have K55 : Keep h0 h55 [o0] := K53.wr W55 (Or.inl (by simp))
  have Z55 := Nat.le_trans Z53 (Keep.of_wr W55).1
  have Fw55 := c54_9.same W55
  refine Go.via st55 ?_
  refine Go.retV X55 hx Bd.notSynchronized Bd.returns (hb hby d1_131) (by decide) (by decide) ?_
  rw [e55]
  exact ⟨rfl, N55, b2, b6, b10, b14, b18, b23, b27, b31, b35, b40, b45, b49, b53, sz_b2, sz_b6, sz_b10, sz_b14, sz_b18, sz_b23, sz_b27, sz_b31, sz_b35, sz_b40, sz_b45, sz_b49, sz_b53, ne_b2_b6, ne_b2_b10, ne_b2_b14, ne_b2_b18, ne_b2_b23, ne_b2_b27, ne_b2_b31, ne_b2_b35, ne_b2_b40, ne_b2_b45, ne_b2_b49, ne_b2_b53, ne_b6_b10, ne_b6_b14, ne_b6_b18, ne_b6_b23, ne_b6_b27, ne_b6_b31, ne_b6_b35, ne_b6_b40, ne_b6_b45, ne_b6_b49, ne_b6_b53, ne_b10_b14, ne_b10_b18, ne_b10_b23, ne_b10_b27, ne_b10_b31, ne_b10_b35, ne_b10_b40, ne_b10_b45, ne_b10_b49, ne_b10_b53, ne_b14_b18, ne_b14_b23, ne_b14_b27, ne_b14_b31, ne_b14_b35, ne_b14_b40, ne_b14_b45, ne_b14_b49, ne_b14_b53, ne_b18_b23, ne_b18_b27, ne_b18_b31, ne_b18_b35, ne_b18_b40, ne_b18_b45, ne_b18_b49, ne_b18_b53, ne_b23_b27, ne_b23_b31, ne_b23_b35, ne_b23_b40, ne_b23_b45, ne_b23_b49, ne_b23_b53, ne_b27_b31, ne_b27_b35, ne_b27_b40, ne_b27_b45, ne_b27_b49, ne_b27_b53, ne_b31_b35, ne_b31_b40, ne_b31_b45, ne_b31_b49, ne_b31_b53, ne_b35_b40, ne_b35_b45, ne_b35_b49, ne_b35_b53, ne_b40_b45, ne_b40_b49, ne_b40_b53, ne_b45_b49, ne_b45_b53, ne_b49_b53, K55, c56_0, c56_1, c56_2, c56_3, c56_4, c56_5, c56_6, c56_7, c56_8, Fw55, c56_10, c56_11, c56_12, c56_13, c56_14, c56_16, c56_17, c56_19, c56_20, c56_22, c56_23, c56_25, c56_26, c56_28, c56_29, c56_31, c56_32, c56_34, c56_35, c56_36, c56_38, c56_39, c56_41, c56_42, c56_44, c56_45, c56_47, c56_48, c56_50, c56_51, c56_53, c56_54, c56_56, c56_57⟩
theorem own_n {i : Nat} (h : i < 2 ^ 31) : (Int32.ofNat i).toNatClampNeg = i := by simp only [Int32.toNatClampNeg, len_toInt h]; rfl
theorem own_nn {i : Nat} (h : i < 2 ^ 31) : ¬ (Int32.ofNat i) < 0 := by rw [Int32.lt_iff_toInt_lt, len_toInt h]; show ¬ ((i : Int) < 0); omega
theorem own_nlt {i n : Nat} (h : n < 2 ^ 31) (q : i < n) : (Int32.ofNat i) < (Int32.ofNat n) := by rw [Int32.lt_iff_toInt_lt, len_toInt h, len_toInt (by omega)]; omega
theorem own_nge {n : Nat} : ¬ (Int32.ofNat n) < (Int32.ofNat n) := by rw [Int32.lt_iff_toInt_lt]; omega
theorem own_ns {i : Nat} : (Int32.ofNat i) + (1 : Int32) = Int32.ofNat (i + 1) := by rw [show (1 : Int32) = Int32.ofNat 1 from rfl, ← Int32.ofNat_add]
theorem d4_6 : DC B4 6 (.iload_n 3) 1 := by decide +kernel
theorem d4_7 : DC B4 7 (.iload 4) 2 := by decide +kernel
theorem d4_9 : DC B4 9 (.if_icmp .ge 13) 3 := by decide +kernel
theorem d4_12 : DC B4 12 (.aload_n 0) 1 := by decide +kernel
theorem d4_13 : DC B4 13 (.iload_n 3) 1 := by decide +kernel
theorem d4_14 : DC B4 14 (.lload_n 1) 1 := by decide +kernel
theorem d4_15 : DC B4 15 (.lastore) 1 := by decide +kernel
theorem d4_16 : DC B4 16 (.iinc 3 1) 3 := by decide +kernel
theorem d4_19 : DC B4 19 (.goto (-13)) 3 := by decide +kernel
theorem lp4 {p : Program} {l : Launch} {e : Env} {R : Room} {s : State} {m : MethodId} {args : Array Value} {below : List Frame} {meth : Method} {c : Code} {cells0 slots0 : Nat} {P : Outcome → State → Prop} {Z : State} (hx : p.tables.exec = Jvm.exec) (hby : c.code = jdk_65_method_101_code) (hZ : Z.Warmed39 s.vm) (o0 : Addr) (q1 : Int64) (nW : Nat) (h31 : nW < 2 ^ 31) (n0 : Nat) (g0 : n0 ≤ o0) (hs : Heap) (hk : ∀ T h locs Ls, Stand p l e R s m args below meth c T locs cells0 slots0 → T.heap = h → Fr n0 locs → n0 ≤ h.size → Keep hs h [o0] → AV Z h o0 .long nW (fun _ => .long q1) → Go p e below P (T.setTop (mkF m 22 Ls []))) :
    ∀ (k i : Nat) (fF : Nat → Int64) (T0 : State) (h0 : Heap) (locs0 : List Loc), i + k = nW → (∀ j, j < i → fF j = q1) → Stand p l e R s m args below meth c T0 locs0 cells0 slots0 → T0.heap = h0 → Fr n0 locs0 → n0 ≤ h0.size → Keep hs h0 [o0] → AV Z h0 o0 .long nW (fun k => .long (fF k)) → Go p e below P (T0.setTop (mkF m 6 #[.val (.ref o0), .val (.long q1), .second, .val (.int (Int32.ofNat i)), .val (.int (Int32.ofNat nW))] [])) := by
  intro k
  induction k with
  | zero =>
    intro i fF T0 h0 locs0 hik hf X0 e0 N0 Z0 hK V0
    obtain rfl : i = nW := by omega
    show Go p e below _ (T0.setTop (mkF m 6 #[sR o0, .val (.long q1), .second, sI (Int32.ofNat i), sI (Int32.ofNat i)] []))
    refine Vi (T0.setTop (mkF m 22 #[sR o0, .val (.long q1), .second, sI (Int32.ofNat i), sI (Int32.ofNat i)] [])) (fun tZ kZ => ?_) ?_
    · refine XS.iloadN X0.here hx rfl (hb hby d4_6) rfl ?_
      refine XS.iload X0.here hx rfl (hb hby d4_7) rfl ?_
      refine XS.icmpYes X0.here hx rfl (pc0 := 9) (pc' := 22) rfl (hb hby d4_9) rfl (flt own_nge).2.1 (by decide) (by decide) ?_
      exact kZ
    exact hk _ _ _ _ X0 e0 N0 Z0 hK (V0.congr fun j hj => by rw [hf j (by omega)])
  | succ k ih =>
    intro i fF T0 h0 locs0 hik hf X0 e0 N0 Z0 hK V0
    show Go p e below _ (T0.setTop (mkF m 6 #[sR o0, .val (.long q1), .second, sI (Int32.ofNat i), sI (Int32.ofNat nW)] []))
    refine Vi (T0.setTop (mkF m 15 #[sR o0, .val (.long q1), .second, sI (Int32.ofNat i), sI (Int32.ofNat nW)] [(.long q1), (.int (Int32.ofNat i)), (.ref o0)])) (fun tZ kZ => ?_) ?_
    · refine XS.iloadN X0.here hx rfl (hb hby d4_6) rfl ?_
      refine XS.iload X0.here hx rfl (hb hby d4_7) rfl ?_
      refine XS.icmpNo X0.here hx rfl (hb hby d4_9) rfl (tlt (own_nlt h31 (by omega))).2.1 ?_
      refine XS.aloadN X0.here hx rfl (hb hby d4_12) rfl rfl ?_
      refine XS.iloadN X0.here hx rfl (hb hby d4_13) rfl ?_
      refine XS.lloadN X0.here hx rfl (hb hby d4_14) rfl ?_
      exact kZ
    obtain ⟨T1, h1, X1, e1, W1, V1, st1⟩ := AV.lastore V0 X0 hx hZ e0 (j := (Int32.ofNat i)) ⟨own_nn (by omega), by rw [own_n (by omega)]; omega⟩ (Ls := #[sR o0, .val (.long q1), .second, sI (Int32.ofNat i), sI (Int32.ofNat nW)]) (rest := []) (hb hby d4_15) (x := q1)
    have N1 := Fr.snoc X1 N0 g0
    have K1 : Keep h0 h1 [o0] := (Keep.refl h0 [o0]).wr W1 (Or.inl (by simp))
    have Z1 := Nat.le_trans Z0 (Keep.of_wr W1).1
    refine Go.via st1 ?_
    refine Vi (T1.setTop (mkF m 6 #[sR o0, .val (.long q1), .second, sI ((Int32.ofNat i) + (1 : Int32)), sI (Int32.ofNat nW)] [])) (fun tZ kZ => ?_) ?_
    · refine XS.iinc X1.here hx rfl (hb hby d4_16) rfl (l' := #[sR o0, .val (.long q1), .second, sI ((Int32.ofNat i) + (1 : Int32)), sI (Int32.ofNat nW)]) rfl ?_
      refine XS.goto X1.here hx rfl (pc0 := 19) (pc' := 6) rfl (hb hby d4_19) (by decide) (by decide) ?_
      exact kZ
    rw [own_ns]
    exact ih (i + 1) _ _ _ _ (by omega) (fun j hj => by unfold up; rw [own_n (by omega)]; split; rfl; exact hf j (by omega)) X1 e1 N1 Z1 (hK.trans K1 (allS (Or.inl (by simp)) all0)) V1
theorem d4_0 : DC B4 0 (.iconst 0) 1 := by decide +kernel
theorem d4_1 : DC B4 1 (.istore_n 3) 1 := by decide +kernel
theorem d4_2 : DC B4 2 (.aload_n 0) 1 := by decide +kernel
theorem d4_3 : DC B4 3 (.arraylength) 1 := by decide +kernel
theorem d4_4 : DC B4 4 (.istore 4) 2 := by decide +kernel
theorem d4_22 : DC B4 22 (.return_) 1 := by decide +kernel
def Q4 (Z : State) (o0 : Addr) (q1 : Int64) (nW : Nat) (fF : Nat → Int64) (h0 : Heap) (n0 : Nat) (v : Option Value) (h : Heap) (L : List Loc) : Prop := v = none ∧ Fr n0 L ∧ Keep h0 h [o0] ∧ AV Z h o0 .long nW (fun k => .long ((fun _ => q1) k))
theorem pn_3 : plainName "java/util/Arrays" = true := by first | (simp [plainName, overriddenIn]; done) | decide +kernel
theorem ef_4_aa (m : MethodId) (x0 : Addr) (x1 : Int64) : entryFrame m #[(.ref x0), (.long x1)] 5 = mkF m 0 #[.val (.ref x0), .val (.long x1), .second, .unset, .unset] [] := by first | (simp [entryFrame, mkF, argsToLocals, Value.category]; done) | rfl
theorem rm4 (l : Launch) (Z : State) (a0 : Array Value) (hw : HW a0 Z) (ws : List Jvm.Cond) (o0 : Addr) (q1 : Int64) (nW : Nat) (fF : Nat → Int64) (h0 : Heap) (n0 : Nat) (Z0 : n0 ≤ h0.size) (ha0 : AV Z h0 o0 .long nW (fun k => .long (fF k))) (ha1 : n0 ≤ o0) :
    MetFree l y4 (head1 (Jvm.Cond.code y4 jdk_65_method_101_code 5 none :: ws) RM_0_0_0_0) (fun a U => a = #[(.ref o0), (.long q1)] ∧ Z.Warmed39 U.vm ∧ U.heap = h0) (fun _ _ _ _ _ => True) (fun _ U o U' => ∃ v L, o = .returned v ∧ Q4 Z o0 q1 nW fF h0 n0 v U'.heap L ∧ FrameEnd U o U' L RM_0_0_0_0.cells RM_0_0_0_0.slots) := by
  refine MetFree.of_bodySF (plainFor_of_name pn_3) hisR ?_
  intro p e s m args below meth c s₁ Bd hml0 hP hK
  obtain ⟨rfl, hZ, hh⟩ := hP
  have hx := Bd.exec
  have hby := Bd.bytes
  have hml : c.maxLocals = 5 := hml0
  have hown : s.vm.findClass "java/util/Arrays" = some m.cls := findClass_of_methodNamed Bd.named
  have X0 : Stand p l e RM_0_0_0_0 s m _ below meth c s₁ [] 0 0 := Stand.of_body Bd
  have e0 : s₁.heap = h0 := by rw [← hh, Bd.state]; rfl
  have N0 := Fr.nil n0
  refine Go.into (P := fun oo uu => ∃ v L, oo = .returned v ∧ Q4 Z o0 q1 nW fF h0 n0 v uu.heap L ∧ FrameEnd s oo uu L RM_0_0_0_0.cells RM_0_0_0_0.slots) (ef_4_aa m o0 q1) ?_
  show Go p e below _ (s₁.setTop (mkF m 0 #[sR o0, .val (.long q1), .second, .unset, .unset] []))
  refine Vi (s₁.setTop (mkF m 6 #[sR o0, .val (.long q1), .second, sI 0, sI (Int32.ofNat nW)] [])) (fun tZ kZ => ?_) ?_
  · refine XS.iconst X0.here hx rfl (hb hby d4_0) ?_
    refine XS.istoreN X0.here hx rfl (hb hby d4_1) rfl (l' := #[sR o0, .val (.long q1), .second, sI 0, .unset]) rfl ?_
    refine XS.aloadN X0.here hx rfl (hb hby d4_2) rfl rfl ?_
    refine AV.len ha0 X0 hx hZ e0 (hb hby d4_3) ?_
    refine XS.istore X0.here hx rfl (hb hby d4_4) rfl (l' := #[sR o0, .val (.long q1), .second, sI 0, sI (Int32.ofNat nW)]) rfl ?_
    exact kZ
  refine lp4 hx hby hZ o0 q1 nW ha0.1 n0 ha1 h0 ?_ nW 0 fF _ _ _ (by omega) (fun j hj => absurd hj (Nat.not_lt_zero j)) X0 e0 N0 Z0 (Keep.refl h0 [o0]) ha0
  intro T h locs Ls XT eT NT ZT KT VT
  refine Go.retV XT hx Bd.notSynchronized Bd.returns (hb hby d4_22) (by decide) (by decide) ?_
  rw [eT]
  exact ⟨rfl, NT, KT, VT⟩
theorem d3_0 : DC B3 0 (.iconst 0) 1 := by decide +kernel
theorem d3_1 : DC B3 1 (.istore_n 1) 1 := by decide +kernel
theorem d3_2 : DC B3 2 (.iload_n 1) 1 := by decide +kernel
theorem d3_3 : DC B3 3 (.aload_n 0) 1 := by decide +kernel
theorem d3_4 : DC B3 4 (.getfield 28) 3 := by decide +kernel
theorem d3_7 : DC B3 7 (.arraylength) 1 := by decide +kernel
theorem d3_8 : DC B3 8 (.if_icmp .ge 54) 3 := by decide +kernel
theorem d3_11 : DC B3 11 (.aload_n 0) 1 := by decide +kernel
theorem d3_12 : DC B3 12 (.getfield 32) 3 := by decide +kernel
theorem d3_15 : DC B3 15 (.iload_n 1) 1 := by decide +kernel
theorem d3_16 : DC B3 16 (.aaload) 1 := by decide +kernel
theorem d3_17 : DC B3 17 (.ldc2_w 52) 3 := by decide +kernel
theorem pd_3 : parseMethodDescriptor "([JJ)V" = some ⟨[(.array .long), .long], none⟩ := by decide +kernel
theorem d3_20 : DC B3 20 (.invokestatic 54) 3 := by decide +kernel
theorem d3_23 : DC B3 23 (.aload_n 0) 1 := by decide +kernel
theorem d3_24 : DC B3 24 (.getfield 36) 3 := by decide +kernel
theorem d3_27 : DC B3 27 (.iload_n 1) 1 := by decide +kernel
theorem d3_28 : DC B3 28 (.aload_n 0) 1 := by decide +kernel
theorem d3_29 : DC B3 29 (.getfield 28) 3 := by decide +kernel
theorem d3_32 : DC B3 32 (.iload_n 1) 1 := by decide +kernel
theorem d3_33 : DC B3 33 (.iaload) 1 := by decide +kernel
theorem d3_34 : DC B3 34 (.iastore) 1 := by decide +kernel
theorem d3_35 : DC B3 35 (.aload_n 0) 1 := by decide +kernel
theorem d3_36 : DC B3 36 (.getfield 39) 3 := by decide +kernel
theorem d3_39 : DC B3 39 (.iload_n 1) 1 := by decide +kernel
theorem d3_40 : DC B3 40 (.iconst 0) 1 := by decide +kernel
theorem d3_41 : DC B3 41 (.iastore) 1 := by decide +kernel
theorem d3_42 : DC B3 42 (.aload_n 0) 1 := by decide +kernel
theorem d3_43 : DC B3 43 (.getfield 42) 3 := by decide +kernel
theorem d3_46 : DC B3 46 (.iload_n 1) 1 := by decide +kernel
theorem d3_47 : DC B3 47 (.aload_n 0) 1 := by decide +kernel
theorem d3_48 : DC B3 48 (.getfield 28) 3 := by decide +kernel
theorem d3_51 : DC B3 51 (.iload_n 1) 1 := by decide +kernel
theorem d3_52 : DC B3 52 (.iaload) 1 := by decide +kernel
theorem d3_53 : DC B3 53 (.iconst 1) 1 := by decide +kernel
theorem d3_54 : DC B3 54 (.isub) 1 := by decide +kernel
theorem d3_55 : DC B3 55 (.iastore) 1 := by decide +kernel
theorem d3_56 : DC B3 56 (.iinc 1 1) 3 := by decide +kernel
theorem d3_59 : DC B3 59 (.goto (-57)) 3 := by decide +kernel
theorem d3_62 : DC B3 62 (.aload_n 0) 1 := by decide +kernel
theorem d3_63 : DC B3 63 (.iconst 0) 1 := by decide +kernel
theorem d3_64 : DC B3 64 (.putfield 60) 3 := by decide +kernel
theorem d3_67 : DC B3 67 (.aload_n 0) 1 := by decide +kernel
theorem pd_1 : parseMethodDescriptor "()V" = some ⟨[], none⟩ := by decide +kernel
theorem d3_68 : DC B3 68 (.invokevirtual 64) 3 := by decide +kernel
theorem d3_71 : DC B3 71 (.return_) 1 := by decide +kernel
def Q3 (Z : State) (o0 : Addr) (lA : Addr) (hA : Addr) (sA : Addr) (cA : Addr) (chA : Addr) (icA : Addr) (bA : Addr) (tvA : Addr) (twA : Addr) (tsA : Addr) (tzA : Addr) (sF : Nat → Int32) (lF : Nat → Int32) (hF : Nat → Int32) (cF : Nat → Int32) (uA : Addr) (vA : Addr) (nU : Nat) (uF : Nat → Int64) (nV : Nat) (vF : Nat → Int64) (h0 : Heap) (n0 : Nat) (v : Option Value) (h : Heap) (L : List Loc) : Prop := v = none ∧ Fr n0 L ∧ Keep h0 h [uA, sA, lA, hA, vA, o0] ∧ Exa Z h o0 Dn ∧ Obj Z h o0 lA hA sA cA chA icA bA tvA twA tsA tzA ∧ AV Z h sA .int 2 (fun k => .int ((up (up sF (0 : Int32).toNatClampNeg (cF (0 : Int32).toNatClampNeg)) (1 : Int32).toNatClampNeg (cF (1 : Int32).toNatClampNeg)) k)) ∧ AV Z h lA .int 2 (fun k => .int ((up (up lF (0 : Int32).toNatClampNeg (0 : Int32)) (1 : Int32).toNatClampNeg (0 : Int32)) k)) ∧ AV Z h hA .int 2 (fun k => .int ((up (up hF (0 : Int32).toNatClampNeg ((cF (0 : Int32).toNatClampNeg) - (1 : Int32))) (1 : Int32).toNatClampNeg ((cF (1 : Int32).toNatClampNeg) - (1 : Int32))) k)) ∧ AV Z h cA .int 2 (fun k => .int (cF k)) ∧ AV Z h bA (.array .long) 2 (own_b2 uA vA) ∧ AV Z h uA .long nU (fun k => .long ((fun _ => (-1 : Int64)) k)) ∧ AV Z h vA .long nV (fun k => .long ((fun _ => (-1 : Int64)) k)) ∧ Fld Z h o0 Dn "trailLength" "I" (.int 0) ∧ Fld Z h o0 Dn "changedCount" "I" (.int 0)
abbrev RM_1_0_0_16 : Room := { frames := 1, cells := 0, slots := 0, locals := 16 }
theorem ef_3_a (m : MethodId) (x0 : Addr) : entryFrame m #[(.ref x0)] 2 = mkF m 0 #[.val (.ref x0), .unset] [] := by first | (simp [entryFrame, mkF, argsToLocals, Value.category]; done) | rfl
theorem rm3 (l : Launch) (Z : State) (a0 : Array Value) (hw : HW a0 Z) (ws : List Jvm.Cond) (o0 : Addr) (lA : Addr) (hA : Addr) (sA : Addr) (cA : Addr) (chA : Addr) (icA : Addr) (bA : Addr) (tvA : Addr) (twA : Addr) (tsA : Addr) (tzA : Addr) (sF : Nat → Int32) (lF : Nat → Int32) (hF : Nat → Int32) (cF : Nat → Int32) (uA : Addr) (vA : Addr) (nU : Nat) (uF : Nat → Int64) (nV : Nat) (vF : Nat → Int64) (h0 : Heap) (n0 : Nat) (Z0 : n0 ≤ h0.size) (ha0 : Exa Z h0 o0 Dn) (ha1 : Obj Z h0 o0 lA hA sA cA chA icA bA tvA twA tsA tzA) (ha2 : AV Z h0 sA .int 2 (fun k => .int (sF k))) (ha3 : AV Z h0 lA .int 2 (fun k => .int (lF k))) (ha4 : AV Z h0 hA .int 2 (fun k => .int (hF k))) (ha5 : AV Z h0 cA .int 2 (fun k => .int (cF k))) (ha6 : AV Z h0 bA (.array .long) 2 (own_b2 uA vA)) (ha7 : AV Z h0 uA .long nU (fun k => .long (uF k))) (ha8 : AV Z h0 vA .long nV (fun k => .long (vF k))) (ha9 : Fld Z h0 o0 Dn "trailLength" "I" (.int 0)) (ha10 : Fld Z h0 o0 Dn "changedCount" "I" (.int 0)) (ha11 : n0 ≤ o0) (ha12 : n0 ≤ uA) (ha13 : n0 ≤ vA) (ha14 : n0 ≤ sA) (ha15 : n0 ≤ lA) (ha16 : n0 ≤ hA) (hne_o0_cA : o0 ≠ cA) (hne_o0_bA : o0 ≠ bA) (hne_o0_uA : o0 ≠ uA) (hne_o0_vA : o0 ≠ vA) (hne_o0_sA : o0 ≠ sA) (hne_o0_lA : o0 ≠ lA) (hne_o0_hA : o0 ≠ hA) (hne_cA_bA : cA ≠ bA) (hne_cA_uA : cA ≠ uA) (hne_cA_vA : cA ≠ vA) (hne_cA_sA : cA ≠ sA) (hne_cA_lA : cA ≠ lA) (hne_cA_hA : cA ≠ hA) (hne_bA_uA : bA ≠ uA) (hne_bA_vA : bA ≠ vA) (hne_bA_sA : bA ≠ sA) (hne_bA_lA : bA ≠ lA) (hne_bA_hA : bA ≠ hA) (hne_uA_vA : uA ≠ vA) (hne_uA_sA : uA ≠ sA) (hne_uA_lA : uA ≠ lA) (hne_uA_hA : uA ≠ hA) (hne_vA_sA : vA ≠ sA) (hne_vA_lA : vA ≠ lA) (hne_vA_hA : vA ≠ hA) (hne_sA_lA : sA ≠ lA) (hne_sA_hA : sA ≠ hA) (hne_lA_hA : lA ≠ hA) :
    MetFree l y3 (head1 (Jvm.Cond.code y3 prog_22_method_2_code 2 none :: ws) RM_1_0_0_16) (fun a U => a = #[(.ref o0)] ∧ Z.Warmed39 U.vm ∧ U.heap = h0) (fun _ _ _ _ _ => True) (fun _ U o U' => ∃ v L, o = .returned v ∧ Q3 Z o0 lA hA sA cA chA icA bA tvA twA tsA tzA sF lF hF cF uA vA nU uF nV vF h0 n0 v U'.heap L ∧ FrameEnd U o U' L RM_1_0_0_16.cells RM_1_0_0_16.slots) := by
  refine MetFree.of_bodySF (plainFor_of_name pn_2) hisR ?_
  intro p e s m args below meth c s₁ Bd hml0 hP hK
  obtain ⟨rfl, hZ, hh⟩ := hP
  have hx := Bd.exec
  have hby := Bd.bytes
  have hml : c.maxLocals = 2 := hml0
  have hown : s.vm.findClass Dn = some m.cls := findClass_of_methodNamed Bd.named
  have X0 : Stand p l e RM_1_0_0_16 s m _ below meth c s₁ [] 0 0 := Stand.of_body Bd
  have e0 : s₁.heap = h0 := by rw [← hh, Bd.state]; rfl
  have N0 := Fr.nil n0
  refine Go.into (P := fun oo uu => ∃ v L, oo = .returned v ∧ Q3 Z o0 lA hA sA cA chA icA bA tvA twA tsA tzA sF lF hF cF uA vA nU uF nV vF h0 n0 v uu.heap L ∧ FrameEnd s oo uu L RM_1_0_0_16.cells RM_1_0_0_16.slots) (ef_3_a m o0) ?_
  show Go p e below _ (s₁.setTop (mkF m 0 #[sR o0, .unset] []))
  refine Vi (s₁.setTop (mkF m 4 #[sR o0, sI 0] [(.ref o0), (.int 0)])) (fun tZ kZ => ?_) ?_
  · refine XS.iconst X0.here hx rfl (hb hby d3_0) ?_
    refine XS.istoreN X0.here hx rfl (hb hby d3_1) rfl (l' := #[sR o0, sI 0]) rfl ?_
    refine XS.iloadN X0.here hx rfl (hb hby d3_2) rfl ?_
    refine XS.aloadN X0.here hx rfl (hb hby d3_3) rfl rfl ?_
    exact kZ
  refine GF X0 hx hZ hown (wq hw 29 rfl) e0 (obj_capacities ha1) (hb hby d3_4) fun T1 X1 e1 => ?_
  refine Vi (T1.setTop (mkF m 12 #[sR o0, sI 0] [(.ref o0)])) (fun tZ kZ => ?_) ?_
  · refine AV.len ha5 X1 hx hZ e1 (hb hby d3_7) ?_
    refine XS.icmpNo X1.here hx rfl (hb hby d3_8) rfl (tlt (by decide)).2.1 ?_
    refine XS.aloadN X1.here hx rfl (hb hby d3_11) rfl rfl ?_
    exact kZ
  refine GF X1 hx hZ hown (wq hw 33 rfl) e1 (obj_bits ha1) (hb hby d3_12) fun T2 X2 e2 => ?_
  refine Vi (T2.setTop (mkF m 20 #[sR o0, sI 0] [(.long (-1 : Int64)), (.ref uA)])) (fun tZ kZ => ?_) ?_
  · refine XS.iloadN X2.here hx rfl (hb hby d3_15) rfl ?_
    refine AV.aaload ha6 rfl X2 hx hZ e2 (j := (0 : Int32)) (by decide) (hb hby d3_16) ?_
    rw [own_b20]
    refine X2.ldc2Long hx hown (wz hZ hw 52 rfl) (g := (mkF m 17 #[sR o0, sI 0] [(.ref uA)])) rfl (hb hby d3_17) _ ?_
    exact kZ
  obtain ⟨_, _, ⟨T3, L3, k3, n3⟩, -, X3, ⟨Lc3, hQ3, l3, y3, z3⟩, st3⟩ := Jvm.LawKit.callS X2 hx (y := y4) hown (wz hZ hw 53 rfl) (wz hZ hw 54 rfl) (wz hZ hw 55 rfl) (wz hZ hw 56 rfl) (by decide) (backOf (W := 0) (rm4 l Z a0 hw [] uA (-1 : Int64) nU uF h0 n0 Z0 ha7 ha12) hZ (wq hw 56 rfl) (wq hw 55 rfl) (by decide) (by decide)) (g := (mkF m 20 #[sR o0, sI 0] [(.long (-1 : Int64)), (.ref uA)])) rfl (by rw [hml]; rfl) (argsL := [(.ref uA), (.long (-1 : Int64))]) (rest := []) (lenOf pd_3 rfl) rfl (leW rfl) (hb hby d3_20) (fun _ _ => ⟨rfl, e2, (by decide : 0 + 0 ≤ _), (by decide : 0 + 0 ≤ _)⟩)
  dsimp only [Pt.U, Pt.locs, Pt.cells, Pt.slots] at X3 l3 y3 z3 st3 hQ3
  subst l3 y3 z3
  obtain ⟨rfl, N3q, Kq3, f3_0⟩ := hQ3
  have c4_0 := ha0.keep Kq3
  have c4_1 := obj_keep ha1 Kq3 (ninS hne_o0_uA nin0)
  have c4_2 := ha2.keep Kq3 (ninS (Ne.symm hne_uA_sA) nin0)
  have c4_3 := ha3.keep Kq3 (ninS (Ne.symm hne_uA_lA) nin0)
  have c4_4 := ha4.keep Kq3 (ninS (Ne.symm hne_uA_hA) nin0)
  have c4_5 := ha5.keep Kq3 (ninS hne_cA_uA nin0)
  have c4_6 := ha6.keep Kq3 (ninS hne_bA_uA nin0)
  have c4_8 := ha8.keep Kq3 (ninS (Ne.symm hne_uA_vA) nin0)
  have c4_9 := ha9.keep Kq3 (ninS hne_o0_uA nin0)
  have c4_10 := ha10.keep Kq3 (ninS hne_o0_uA nin0)
  have K3 : Keep h0 T3.heap [uA, sA, lA, hA, vA, o0] := (Keep.refl h0 [uA, sA, lA, hA, vA, o0]).trans Kq3 (allS (Or.inl (by simp)) all0)
  have Z3 := Nat.le_trans Z0 Kq3.1
  have N3 := Fr.app N0 N3q
  refine Go.via st3 ?_
  refine Vi (T3.setTop (mkF m 24 #[sR o0, sI 0] [(.ref o0)])) (fun tZ kZ => ?_) ?_
  · refine XS.aloadN X3.here hx rfl (hb hby d3_23) rfl rfl ?_
    exact kZ
  refine GF X3 hx hZ hown (wq hw 35 rfl) rfl (obj_sizes c4_1) (hb hby d3_24) fun T5 X5 e5 => ?_
  refine Vi (T5.setTop (mkF m 29 #[sR o0, sI 0] [(.ref o0), (.int 0), (.ref sA)])) (fun tZ kZ => ?_) ?_
  · refine XS.iloadN X5.here hx rfl (hb hby d3_27) rfl ?_
    refine XS.aloadN X5.here hx rfl (hb hby d3_28) rfl rfl ?_
    exact kZ
  refine GF X5 hx hZ hown (wq hw 29 rfl) e5 (obj_capacities c4_1) (hb hby d3_29) fun T6 X6 e6 => ?_
  refine Vi (T6.setTop (mkF m 34 #[sR o0, sI 0] [(.int (cF (0 : Int32).toNatClampNeg)), (.int 0), (.ref sA)])) (fun tZ kZ => ?_) ?_
  · refine XS.iloadN X6.here hx rfl (hb hby d3_32) rfl ?_
    refine AV.iaload c4_5 X6 hx hZ e6 (j := (0 : Int32)) (by decide) (hb hby d3_33) ?_
    exact kZ
  obtain ⟨T7, h7, X7, e7, W7, V7, st7⟩ := AV.iastore c4_2 X6 hx hZ e6 (j := (0 : Int32)) (by decide) (Ls := #[sR o0, sI 0]) (rest := []) (hb hby d3_34) (x := (cF (0 : Int32).toNatClampNeg))
  have N7 := Fr.snoc X7 N3 ha14
  have c8_0 := c4_0.wr W7
  have c8_1 := obj_oth c4_1 W7 hne_o0_sA
  have c8_3 := c4_3.other W7 (Ne.symm hne_sA_lA)
  have c8_4 := c4_4.other W7 (Ne.symm hne_sA_hA)
  have c8_5 := c4_5.other W7 hne_cA_sA
  have c8_6 := c4_6.other W7 hne_bA_sA
  have c8_7 := f3_0.other W7 hne_uA_sA
  have c8_8 := c4_8.other W7 hne_vA_sA
  have c8_9 := c4_9.other W7 (Or.inl hne_o0_sA)
  have c8_10 := c4_10.other W7 (Or.inl hne_o0_sA)
  have K7 : Keep h0 h7 [uA, sA, lA, hA, vA, o0] := K3.wr W7 (Or.inl (by simp))
  have Z7 := Nat.le_trans Z3 (Keep.of_wr W7).1
  refine Go.via st7 ?_
  refine Vi (T7.setTop (mkF m 36 #[sR o0, sI 0] [(.ref o0)])) (fun tZ kZ => ?_) ?_
  · refine XS.aloadN X7.here hx rfl (hb hby d3_35) rfl rfl ?_
    exact kZ
  refine GF X7 hx hZ hown (wq hw 37 rfl) e7 (obj_low c8_1) (hb hby d3_36) fun T9 X9 e9 => ?_
  refine Vi (T9.setTop (mkF m 41 #[sR o0, sI 0] [(.int 0), (.int 0), (.ref lA)])) (fun tZ kZ => ?_) ?_
  · refine XS.iloadN X9.here hx rfl (hb hby d3_39) rfl ?_
    refine XS.iconst X9.here hx rfl (hb hby d3_40) ?_
    exact kZ
  obtain ⟨T10, h10, X10, e10, W10, V10, st10⟩ := AV.iastore c8_3 X9 hx hZ e9 (j := (0 : Int32)) (by decide) (Ls := #[sR o0, sI 0]) (rest := []) (hb hby d3_41) (x := (0 : Int32))
  have N10 := Fr.snoc X10 N7 ha15
  have c11_0 := c8_0.wr W10
  have c11_1 := obj_oth c8_1 W10 hne_o0_lA
  have c11_2 := V7.other W10 hne_sA_lA
  have c11_4 := c8_4.other W10 (Ne.symm hne_lA_hA)
  have c11_5 := c8_5.other W10 hne_cA_lA
  have c11_6 := c8_6.other W10 hne_bA_lA
  have c11_7 := c8_7.other W10 hne_uA_lA
  have c11_8 := c8_8.other W10 hne_vA_lA
  have c11_9 := c8_9.other W10 (Or.inl hne_o0_lA)
  have c11_10 := c8_10.other W10 (Or.inl hne_o0_lA)
  have K10 : Keep h0 h10 [uA, sA, lA, hA, vA, o0] := K7.wr W10 (Or.inl (by simp))
  have Z10 := Nat.le_trans Z7 (Keep.of_wr W10).1
  refine Go.via st10 ?_
  refine Vi (T10.setTop (mkF m 43 #[sR o0, sI 0] [(.ref o0)])) (fun tZ kZ => ?_) ?_
  · refine XS.aloadN X10.here hx rfl (hb hby d3_42) rfl rfl ?_
    exact kZ
  refine GF X10 hx hZ hown (wq hw 39 rfl) e10 (obj_high c11_1) (hb hby d3_43) fun T12 X12 e12 => ?_
  refine Vi (T12.setTop (mkF m 48 #[sR o0, sI 0] [(.ref o0), (.int 0), (.ref hA)])) (fun tZ kZ => ?_) ?_
  · refine XS.iloadN X12.here hx rfl (hb hby d3_46) rfl ?_
    refine XS.aloadN X12.here hx rfl (hb hby d3_47) rfl rfl ?_
    exact kZ
  refine GF X12 hx hZ hown (wq hw 29 rfl) e12 (obj_capacities c11_1) (hb hby d3_48) fun T13 X13 e13 => ?_
  refine Vi (T13.setTop (mkF m 55 #[sR o0, sI 0] [(.int ((cF (0 : Int32).toNatClampNeg) - (1 : Int32))), (.int 0), (.ref hA)])) (fun tZ kZ => ?_) ?_
  · refine XS.iloadN X13.here hx rfl (hb hby d3_51) rfl ?_
    refine AV.iaload c11_5 X13 hx hZ e13 (j := (0 : Int32)) (by decide) (hb hby d3_52) ?_
    refine XS.iconst X13.here hx rfl (hb hby d3_53) ?_
    refine XS.isub X13.here hx rfl (hb hby d3_54) rfl ?_
    exact kZ
  obtain ⟨T14, h14, X14, e14, W14, V14, st14⟩ := AV.iastore c11_4 X13 hx hZ e13 (j := (0 : Int32)) (by decide) (Ls := #[sR o0, sI 0]) (rest := []) (hb hby d3_55) (x := ((cF (0 : Int32).toNatClampNeg) - (1 : Int32)))
  have N14 := Fr.snoc X14 N10 ha16
  have c15_0 := c11_0.wr W14
  have c15_1 := obj_oth c11_1 W14 hne_o0_hA
  have c15_2 := c11_2.other W14 hne_sA_hA
  have c15_3 := V10.other W14 hne_lA_hA
  have c15_5 := c11_5.other W14 hne_cA_hA
  have c15_6 := c11_6.other W14 hne_bA_hA
  have c15_7 := c11_7.other W14 hne_uA_hA
  have c15_8 := c11_8.other W14 hne_vA_hA
  have c15_9 := c11_9.other W14 (Or.inl hne_o0_hA)
  have c15_10 := c11_10.other W14 (Or.inl hne_o0_hA)
  have K14 : Keep h0 h14 [uA, sA, lA, hA, vA, o0] := K10.wr W14 (Or.inl (by simp))
  have Z14 := Nat.le_trans Z10 (Keep.of_wr W14).1
  refine Go.via st14 ?_
  refine Vi (T14.setTop (mkF m 4 #[sR o0, sI 1] [(.ref o0), (.int 1)])) (fun tZ kZ => ?_) ?_
  · refine XS.iinc X14.here hx rfl (hb hby d3_56) rfl (l' := #[sR o0, sI 1]) rfl ?_
    refine XS.goto X14.here hx rfl (pc0 := 59) (pc' := 2) rfl (hb hby d3_59) (by decide) (by decide) ?_
    refine XS.iloadN X14.here hx rfl (hb hby d3_2) rfl ?_
    refine XS.aloadN X14.here hx rfl (hb hby d3_3) rfl rfl ?_
    exact kZ
  refine GF X14 hx hZ hown (wq hw 29 rfl) e14 (obj_capacities c15_1) (hb hby d3_4) fun T16 X16 e16 => ?_
  refine Vi (T16.setTop (mkF m 12 #[sR o0, sI 1] [(.ref o0)])) (fun tZ kZ => ?_) ?_
  · refine AV.len c15_5 X16 hx hZ e16 (hb hby d3_7) ?_
    refine XS.icmpNo X16.here hx rfl (hb hby d3_8) rfl (tlt (by decide)).2.1 ?_
    refine XS.aloadN X16.here hx rfl (hb hby d3_11) rfl rfl ?_
    exact kZ
  refine GF X16 hx hZ hown (wq hw 33 rfl) e16 (obj_bits c15_1) (hb hby d3_12) fun T17 X17 e17 => ?_
  refine Vi (T17.setTop (mkF m 20 #[sR o0, sI 1] [(.long (-1 : Int64)), (.ref vA)])) (fun tZ kZ => ?_) ?_
  · refine XS.iloadN X17.here hx rfl (hb hby d3_15) rfl ?_
    refine AV.aaload c15_6 rfl X17 hx hZ e17 (j := (1 : Int32)) (by decide) (hb hby d3_16) ?_
    rw [own_b21]
    refine X17.ldc2Long hx hown (wz hZ hw 52 rfl) (g := (mkF m 17 #[sR o0, sI 1] [(.ref vA)])) rfl (hb hby d3_17) _ ?_
    exact kZ
  obtain ⟨_, _, ⟨T18, L18, k18, n18⟩, -, X18, ⟨Lc18, hQ18, l18, y18, z18⟩, st18⟩ := Jvm.LawKit.callS X17 hx (y := y4) hown (wz hZ hw 53 rfl) (wz hZ hw 54 rfl) (wz hZ hw 55 rfl) (wz hZ hw 56 rfl) (by decide) (backOf (W := 0) (rm4 l Z a0 hw [] vA (-1 : Int64) nV vF h14 n0 Z14 c15_8 ha13) hZ (wq hw 56 rfl) (wq hw 55 rfl) (by decide) (by decide)) (g := (mkF m 20 #[sR o0, sI 1] [(.long (-1 : Int64)), (.ref vA)])) rfl (by rw [hml]; rfl) (argsL := [(.ref vA), (.long (-1 : Int64))]) (rest := []) (lenOf pd_3 rfl) rfl (leW rfl) (hb hby d3_20) (fun _ _ => ⟨rfl, e17, (by decide : 0 + 0 + 0 ≤ _), (by decide : 0 + 0 + 0 ≤ _)⟩)
  dsimp only [Pt.U, Pt.locs, Pt.cells, Pt.slots] at X18 l18 y18 z18 st18 hQ18
  subst l18 y18 z18
  obtain ⟨rfl, N18q, Kq18, f18_0⟩ := hQ18
  have c19_0 := c15_0.keep Kq18
  have c19_1 := obj_keep c15_1 Kq18 (ninS hne_o0_vA nin0)
  have c19_2 := c15_2.keep Kq18 (ninS (Ne.symm hne_vA_sA) nin0)
  have c19_3 := c15_3.keep Kq18 (ninS (Ne.symm hne_vA_lA) nin0)
  have c19_4 := V14.keep Kq18 (ninS (Ne.symm hne_vA_hA) nin0)
  have c19_5 := c15_5.keep Kq18 (ninS hne_cA_vA nin0)
  have c19_6 := c15_6.keep Kq18 (ninS hne_bA_vA nin0)
  have c19_7 := c15_7.keep Kq18 (ninS hne_uA_vA nin0)
  have c19_9 := c15_9.keep Kq18 (ninS hne_o0_vA nin0)
  have c19_10 := c15_10.keep Kq18 (ninS hne_o0_vA nin0)
  have K18 : Keep h0 T18.heap [uA, sA, lA, hA, vA, o0] := K14.trans Kq18 (allS (Or.inl (by simp)) all0)
  have Z18 := Nat.le_trans Z14 Kq18.1
  have N18 := Fr.app N14 N18q
  refine Go.via st18 ?_
  refine Vi (T18.setTop (mkF m 24 #[sR o0, sI 1] [(.ref o0)])) (fun tZ kZ => ?_) ?_
  · refine XS.aloadN X18.here hx rfl (hb hby d3_23) rfl rfl ?_
    exact kZ
  refine GF X18 hx hZ hown (wq hw 35 rfl) rfl (obj_sizes c19_1) (hb hby d3_24) fun T20 X20 e20 => ?_
  refine Vi (T20.setTop (mkF m 29 #[sR o0, sI 1] [(.ref o0), (.int 1), (.ref sA)])) (fun tZ kZ => ?_) ?_
  · refine XS.iloadN X20.here hx rfl (hb hby d3_27) rfl ?_
    refine XS.aloadN X20.here hx rfl (hb hby d3_28) rfl rfl ?_
    exact kZ
  refine GF X20 hx hZ hown (wq hw 29 rfl) e20 (obj_capacities c19_1) (hb hby d3_29) fun T21 X21 e21 => ?_
  refine Vi (T21.setTop (mkF m 34 #[sR o0, sI 1] [(.int (cF (1 : Int32).toNatClampNeg)), (.int 1), (.ref sA)])) (fun tZ kZ => ?_) ?_
  · refine XS.iloadN X21.here hx rfl (hb hby d3_32) rfl ?_
    refine AV.iaload c19_5 X21 hx hZ e21 (j := (1 : Int32)) (by decide) (hb hby d3_33) ?_
    exact kZ
  obtain ⟨T22, h22, X22, e22, W22, V22, st22⟩ := AV.iastore c19_2 X21 hx hZ e21 (j := (1 : Int32)) (by decide) (Ls := #[sR o0, sI 1]) (rest := []) (hb hby d3_34) (x := (cF (1 : Int32).toNatClampNeg))
  have N22 := Fr.snoc X22 N18 ha14
  have c23_0 := c19_0.wr W22
  have c23_1 := obj_oth c19_1 W22 hne_o0_sA
  have c23_3 := c19_3.other W22 (Ne.symm hne_sA_lA)
  have c23_4 := c19_4.other W22 (Ne.symm hne_sA_hA)
  have c23_5 := c19_5.other W22 hne_cA_sA
  have c23_6 := c19_6.other W22 hne_bA_sA
  have c23_7 := c19_7.other W22 hne_uA_sA
  have c23_8 := f18_0.other W22 hne_vA_sA
  have c23_9 := c19_9.other W22 (Or.inl hne_o0_sA)
  have c23_10 := c19_10.other W22 (Or.inl hne_o0_sA)
  have K22 : Keep h0 h22 [uA, sA, lA, hA, vA, o0] := K18.wr W22 (Or.inl (by simp))
  have Z22 := Nat.le_trans Z18 (Keep.of_wr W22).1
  refine Go.via st22 ?_
  refine Vi (T22.setTop (mkF m 36 #[sR o0, sI 1] [(.ref o0)])) (fun tZ kZ => ?_) ?_
  · refine XS.aloadN X22.here hx rfl (hb hby d3_35) rfl rfl ?_
    exact kZ
  refine GF X22 hx hZ hown (wq hw 37 rfl) e22 (obj_low c23_1) (hb hby d3_36) fun T24 X24 e24 => ?_
  refine Vi (T24.setTop (mkF m 41 #[sR o0, sI 1] [(.int 0), (.int 1), (.ref lA)])) (fun tZ kZ => ?_) ?_
  · refine XS.iloadN X24.here hx rfl (hb hby d3_39) rfl ?_
    refine XS.iconst X24.here hx rfl (hb hby d3_40) ?_
    exact kZ
  obtain ⟨T25, h25, X25, e25, W25, V25, st25⟩ := AV.iastore c23_3 X24 hx hZ e24 (j := (1 : Int32)) (by decide) (Ls := #[sR o0, sI 1]) (rest := []) (hb hby d3_41) (x := (0 : Int32))
  have N25 := Fr.snoc X25 N22 ha15
  have c26_0 := c23_0.wr W25
  have c26_1 := obj_oth c23_1 W25 hne_o0_lA
  have c26_2 := V22.other W25 hne_sA_lA
  have c26_4 := c23_4.other W25 (Ne.symm hne_lA_hA)
  have c26_5 := c23_5.other W25 hne_cA_lA
  have c26_6 := c23_6.other W25 hne_bA_lA
  have c26_7 := c23_7.other W25 hne_uA_lA
  have c26_8 := c23_8.other W25 hne_vA_lA
  have c26_9 := c23_9.other W25 (Or.inl hne_o0_lA)
  have c26_10 := c23_10.other W25 (Or.inl hne_o0_lA)
  have K25 : Keep h0 h25 [uA, sA, lA, hA, vA, o0] := K22.wr W25 (Or.inl (by simp))
  have Z25 := Nat.le_trans Z22 (Keep.of_wr W25).1
  refine Go.via st25 ?_
  refine Vi (T25.setTop (mkF m 43 #[sR o0, sI 1] [(.ref o0)])) (fun tZ kZ => ?_) ?_
  · refine XS.aloadN X25.here hx rfl (hb hby d3_42) rfl rfl ?_
    exact kZ
  refine GF X25 hx hZ hown (wq hw 39 rfl) e25 (obj_high c26_1) (hb hby d3_43) fun T27 X27 e27 => ?_
  refine Vi (T27.setTop (mkF m 48 #[sR o0, sI 1] [(.ref o0), (.int 1), (.ref hA)])) (fun tZ kZ => ?_) ?_
  · refine XS.iloadN X27.here hx rfl (hb hby d3_46) rfl ?_
    refine XS.aloadN X27.here hx rfl (hb hby d3_47) rfl rfl ?_
    exact kZ
  refine GF X27 hx hZ hown (wq hw 29 rfl) e27 (obj_capacities c26_1) (hb hby d3_48) fun T28 X28 e28 => ?_
  refine Vi (T28.setTop (mkF m 55 #[sR o0, sI 1] [(.int ((cF (1 : Int32).toNatClampNeg) - (1 : Int32))), (.int 1), (.ref hA)])) (fun tZ kZ => ?_) ?_
  · refine XS.iloadN X28.here hx rfl (hb hby d3_51) rfl ?_
    refine AV.iaload c26_5 X28 hx hZ e28 (j := (1 : Int32)) (by decide) (hb hby d3_52) ?_
    refine XS.iconst X28.here hx rfl (hb hby d3_53) ?_
    refine XS.isub X28.here hx rfl (hb hby d3_54) rfl ?_
    exact kZ
  obtain ⟨T29, h29, X29, e29, W29, V29, st29⟩ := AV.iastore c26_4 X28 hx hZ e28 (j := (1 : Int32)) (by decide) (Ls := #[sR o0, sI 1]) (rest := []) (hb hby d3_55) (x := ((cF (1 : Int32).toNatClampNeg) - (1 : Int32)))
  have N29 := Fr.snoc X29 N25 ha16
  have c30_0 := c26_0.wr W29
  have c30_1 := obj_oth c26_1 W29 hne_o0_hA
  have c30_2 := c26_2.other W29 hne_sA_hA
  have c30_3 := V25.other W29 hne_lA_hA
  have c30_5 := c26_5.other W29 hne_cA_hA
  have c30_6 := c26_6.other W29 hne_bA_hA
  have c30_7 := c26_7.other W29 hne_uA_hA
  have c30_8 := c26_8.other W29 hne_vA_hA
  have c30_9 := c26_9.other W29 (Or.inl hne_o0_hA)
  have c30_10 := c26_10.other W29 (Or.inl hne_o0_hA)
  have K29 : Keep h0 h29 [uA, sA, lA, hA, vA, o0] := K25.wr W29 (Or.inl (by simp))
  have Z29 := Nat.le_trans Z25 (Keep.of_wr W29).1
  refine Go.via st29 ?_
  refine Vi (T29.setTop (mkF m 4 #[sR o0, sI 2] [(.ref o0), (.int 2)])) (fun tZ kZ => ?_) ?_
  · refine XS.iinc X29.here hx rfl (hb hby d3_56) rfl (l' := #[sR o0, sI 2]) rfl ?_
    refine XS.goto X29.here hx rfl (pc0 := 59) (pc' := 2) rfl (hb hby d3_59) (by decide) (by decide) ?_
    refine XS.iloadN X29.here hx rfl (hb hby d3_2) rfl ?_
    refine XS.aloadN X29.here hx rfl (hb hby d3_3) rfl rfl ?_
    exact kZ
  refine GF X29 hx hZ hown (wq hw 29 rfl) e29 (obj_capacities c30_1) (hb hby d3_4) fun T31 X31 e31 => ?_
  refine Vi (T31.setTop (mkF m 64 #[sR o0, sI 2] [(.int 0), (.ref o0)])) (fun tZ kZ => ?_) ?_
  · refine AV.len c30_5 X31 hx hZ e31 (hb hby d3_7) ?_
    refine XS.icmpYes X31.here hx rfl (pc0 := 8) (pc' := 62) rfl (hb hby d3_8) rfl (flt (by decide)).2.1 (by decide) (by decide) ?_
    refine XS.aloadN X31.here hx rfl (hb hby d3_62) rfl rfl ?_
    refine XS.iconst X31.here hx rfl (hb hby d3_63) ?_
    exact kZ
  obtain ⟨T32, h32, X32, e32, W32, st32⟩ := putF X31 hx hZ hown (host := "") (Or.inl (wq hw 57 rfl)) Via.refl e31 c30_9 c30_0 (Or.inl (wq hw 58 rfl)) (wq hw 2 rfl) (ty := .int) (by decide) rfl rfl (g := (mkF m 64 #[sR o0, sI 2] [(.int 0), (.ref o0)])) rfl rfl (hb hby d3_64)
  have N32 := Fr.snoc X32 N29 ha11
  have c33_0 := c30_0.wr W32
  have c33_1 := obj_w_trailLength hw c30_1 W32
  have c33_2 := c30_2.other W32 (Ne.symm hne_o0_sA)
  have c33_3 := c30_3.other W32 (Ne.symm hne_o0_lA)
  have c33_4 := V29.other W32 (Ne.symm hne_o0_hA)
  have c33_5 := c30_5.other W32 (Ne.symm hne_o0_cA)
  have c33_6 := c30_6.other W32 (Ne.symm hne_o0_bA)
  have c33_7 := c30_7.other W32 (Ne.symm hne_o0_uA)
  have c33_8 := c30_8.other W32 (Ne.symm hne_o0_vA)
  have c33_10 := c30_10.other W32 (sn (Or.inl (wq hw 65 rfl)) (Or.inl (wq hw 58 rfl)))
  have K32 : Keep h0 h32 [uA, sA, lA, hA, vA, o0] := K29.wr W32 (Or.inl (by simp))
  have Z32 := Nat.le_trans Z29 (Keep.of_wr W32).1
  have Fw32 := c30_9.same W32
  refine Go.via st32 ?_
  refine Vi (T32.setTop (mkF m 68 #[sR o0, sI 2] [(.ref o0)])) (fun tZ kZ => ?_) ?_
  · refine XS.aloadN X32.here hx rfl (hb hby d3_67) rfl rfl ?_
    exact kZ
  obtain ⟨cq34, kq34, q34a, q34b, q34c⟩ := isOf hZ e32 c33_0
  obtain ⟨_, _, ⟨T34, L34, k34, n34⟩, -, X34, ⟨Lc34, hQ34, l34, y34, z34⟩, st34⟩ := X32.virtualBack hx (y := y5) (z := y5) hown (wz hZ hw 59 rfl) (wz hZ hw 60 rfl) (notFace_of_selects (args := #[]) (wz hZ hw 62 rfl)) (wz hZ hw 62 rfl) (wz hZ hw 61 rfl) (by decide) (backOf (W := 0) (rm5 l Z a0 hw [] o0 (0 : Int32) lA hA sA cA chA icA bA tvA twA tsA tzA h32 n0 Z32 c33_0 Fw32 c33_10 c33_1 ha11) hZ (wq hw 63 rfl) (wq hw 3 rfl) (by decide) (by decide)) q34a q34c (g := (mkF m 68 #[sR o0, sI 2] [(.ref o0)])) rfl (by rw [hml]; rfl) (Steps.refl _) (argsL := []) (rest := []) (lenOf pd_1 rfl) rfl (leW rfl) (hb hby d3_68) (fun _ _ => ⟨rfl, e32, (by decide : 0 + 0 + 0 + 0 ≤ _), (by decide : 0 + 0 + 0 + 0 ≤ _)⟩)
  dsimp only [Pt.U, Pt.locs, Pt.cells, Pt.slots] at X34 l34 y34 z34 st34 hQ34
  subst l34 y34 z34
  obtain ⟨rfl, N34q, Kq34, f34_0, f34_1, f34_2, f34_3⟩ := hQ34
  have c35_2 := c33_2.keep Kq34 (ninS (Ne.symm hne_o0_sA) nin0)
  have c35_3 := c33_3.keep Kq34 (ninS (Ne.symm hne_o0_lA) nin0)
  have c35_4 := c33_4.keep Kq34 (ninS (Ne.symm hne_o0_hA) nin0)
  have c35_5 := c33_5.keep Kq34 (ninS (Ne.symm hne_o0_cA) nin0)
  have c35_6 := c33_6.keep Kq34 (ninS (Ne.symm hne_o0_bA) nin0)
  have c35_7 := c33_7.keep Kq34 (ninS (Ne.symm hne_o0_uA) nin0)
  have c35_8 := c33_8.keep Kq34 (ninS (Ne.symm hne_o0_vA) nin0)
  have K34 : Keep h0 T34.heap [uA, sA, lA, hA, vA, o0] := K32.trans Kq34 (allS (Or.inl (by simp)) all0)
  have Z34 := Nat.le_trans Z32 Kq34.1
  have N34 := Fr.app N32 N34q
  refine Go.via (fun t k => st34.trans k) ?_
  refine Go.retV X34 hx Bd.notSynchronized Bd.returns (hb hby d3_71) (by decide) (by decide) ?_
  exact ⟨rfl, N34, K34, f34_0, f34_3, c35_2, c35_3, c35_4, c35_5, c35_6, c35_7, c35_8, f34_1, f34_2⟩
theorem own_dec (n : Nat) : Int32.ofNat (n + 1) - (1 : Int32) = Int32.ofNat n := by
  rw [Int32.ofNat_add]; show Int32.ofNat n + 1 - 1 = _; simp
theorem own_tlt {m k : Nat} (h : m + (k + 1) < 1000) : (Int32.ofNat m) < Int32.ofNat (m + (k + 1)) := own_nlt (by omega) (by omega)
theorem own_unl {tv tw : Nat → Int32} {ts : Nat → Int64} {tz : Nat → Int32} {t : Nat} {S : own_S} (h : tw t = -1) : own_un tv tw ts tz t S = own_S.mk (up S.l (tv t).toNatClampNeg (((ts t) >>> ((32 : Int32) &&& 0x3f).toInt64).toInt32)) (up S.h (tv t).toNatClampNeg ((ts t).toInt32)) (up S.s (tv t).toNatClampNeg (tz t)) S.w0 S.w1 := by unfold own_un; rw [if_pos h]
theorem own_unu {tv tw : Nat → Int32} {ts : Nat → Int64} {tz : Nat → Int32} {t : Nat} {S : own_S} (h : ¬ tw t = -1) (q : tv t = 0) : own_un tv tw ts tz t S = own_S.mk S.l S.h (up S.s (tv t).toNatClampNeg (tz t)) (up S.w0 (tw t).toNatClampNeg (ts t)) S.w1 := by unfold own_un; rw [if_neg h, if_pos q]
theorem own_unv {tv tw : Nat → Int32} {ts : Nat → Int64} {tz : Nat → Int32} {t : Nat} {S : own_S} (h : ¬ tw t = -1) (q : tv t = 1) : own_un tv tw ts tz t S = own_S.mk S.l S.h (up S.s (tv t).toNatClampNeg (tz t)) S.w0 (up S.w1 (tw t).toNatClampNeg (ts t)) := by unfold own_un; rw [if_neg h, if_neg (by rw [q]; decide)]
theorem own_okb {tv tw : Nat → Int32} {n0 n1 t : Nat} (h : own_ok tv tw n0 n1 t) : ¬ tv t < 0 ∧ (tv t).toNatClampNeg < 2 := own_xb h.1
theorem own_oku {tv tw : Nat → Int32} {n0 n1 t : Nat} (h : own_ok tv tw n0 n1 t) (c : ¬ tw t = -1) (q : tv t = 0) : ¬ tw t < 0 ∧ (tw t).toNatClampNeg < n0 := by
  obtain ⟨-, a | a⟩ := h
  · exact absurd a c
  · rw [if_pos q] at a; exact a
theorem own_okv {tv tw : Nat → Int32} {n0 n1 t : Nat} (h : own_ok tv tw n0 n1 t) (c : ¬ tw t = -1) (q : tv t = 1) : ¬ tw t < 0 ∧ (tw t).toNatClampNeg < n1 := by
  obtain ⟨-, a | a⟩ := h
  · exact absurd a c
  · rw [if_neg (by rw [q]; decide)] at a; exact a
def own_ne (o0 : Addr) (lA : Addr) (hA : Addr) (sA : Addr) (bA : Addr) (uA : Addr) (vA : Addr) (tvA : Addr) (twA : Addr) (tsA : Addr) (tzA : Addr) : Prop := o0 ≠ lA ∧ o0 ≠ hA ∧ o0 ≠ sA ∧ o0 ≠ bA ∧ o0 ≠ uA ∧ o0 ≠ vA ∧ o0 ≠ tvA ∧ o0 ≠ twA ∧ o0 ≠ tsA ∧ o0 ≠ tzA ∧ lA ≠ hA ∧ lA ≠ sA ∧ lA ≠ bA ∧ lA ≠ uA ∧ lA ≠ vA ∧ lA ≠ tvA ∧ lA ≠ twA ∧ lA ≠ tsA ∧ lA ≠ tzA ∧ hA ≠ sA ∧ hA ≠ bA ∧ hA ≠ uA ∧ hA ≠ vA ∧ hA ≠ tvA ∧ hA ≠ twA ∧ hA ≠ tsA ∧ hA ≠ tzA ∧ sA ≠ bA ∧ sA ≠ uA ∧ sA ≠ vA ∧ sA ≠ tvA ∧ sA ≠ twA ∧ sA ≠ tsA ∧ sA ≠ tzA ∧ bA ≠ uA ∧ bA ≠ vA ∧ bA ≠ tvA ∧ bA ≠ twA ∧ bA ≠ tsA ∧ bA ≠ tzA ∧ uA ≠ vA ∧ uA ≠ tvA ∧ uA ≠ twA ∧ uA ≠ tsA ∧ uA ≠ tzA ∧ vA ≠ tvA ∧ vA ≠ twA ∧ vA ≠ tsA ∧ vA ≠ tzA ∧ tvA ≠ twA ∧ tvA ≠ tsA ∧ tvA ≠ tzA ∧ twA ≠ tsA ∧ twA ≠ tzA ∧ tsA ≠ tzA
theorem d14_0 : DC B14 0 (.aload_n 0) 1 := by decide +kernel
theorem d14_1 : DC B14 1 (.getfield 60) 3 := by decide +kernel
theorem d14_4 : DC B14 4 (.iload_n 1) 1 := by decide +kernel
theorem d14_5 : DC B14 5 (.if_icmp .le 103) 3 := by decide +kernel
theorem d14_8 : DC B14 8 (.aload_n 0) 1 := by decide +kernel
theorem d14_9 : DC B14 9 (.dup) 1 := by decide +kernel
theorem d14_10 : DC B14 10 (.getfield 60) 3 := by decide +kernel
theorem d14_13 : DC B14 13 (.iconst 1) 1 := by decide +kernel
theorem d14_14 : DC B14 14 (.isub) 1 := by decide +kernel
theorem d14_15 : DC B14 15 (.putfield 60) 3 := by decide +kernel
theorem d14_18 : DC B14 18 (.aload_n 0) 1 := by decide +kernel
theorem d14_19 : DC B14 19 (.getfield 7) 3 := by decide +kernel
theorem d14_22 : DC B14 22 (.aload_n 0) 1 := by decide +kernel
theorem d14_23 : DC B14 23 (.getfield 60) 3 := by decide +kernel
theorem d14_26 : DC B14 26 (.iaload) 1 := by decide +kernel
theorem d14_27 : DC B14 27 (.istore_n 2) 1 := by decide +kernel
theorem d14_28 : DC B14 28 (.aload_n 0) 1 := by decide +kernel
theorem d14_29 : DC B14 29 (.getfield 16) 3 := by decide +kernel
theorem d14_32 : DC B14 32 (.aload_n 0) 1 := by decide +kernel
theorem d14_33 : DC B14 33 (.getfield 60) 3 := by decide +kernel
theorem d14_36 : DC B14 36 (.laload) 1 := by decide +kernel
theorem d14_37 : DC B14 37 (.lstore_n 3) 1 := by decide +kernel
theorem d14_38 : DC B14 38 (.aload_n 0) 1 := by decide +kernel
theorem d14_39 : DC B14 39 (.getfield 13) 3 := by decide +kernel
theorem d14_42 : DC B14 42 (.aload_n 0) 1 := by decide +kernel
theorem d14_43 : DC B14 43 (.getfield 60) 3 := by decide +kernel
theorem d14_46 : DC B14 46 (.iaload) 1 := by decide +kernel
theorem d14_47 : DC B14 47 (.iconst (-1)) 1 := by decide +kernel
theorem d14_48 : DC B14 48 (.if_icmp .ne 25) 3 := by decide +kernel
theorem d14_51 : DC B14 51 (.aload_n 0) 1 := by decide +kernel
theorem d14_52 : DC B14 52 (.getfield 39) 3 := by decide +kernel
theorem d14_55 : DC B14 55 (.iload_n 2) 1 := by decide +kernel
theorem d14_56 : DC B14 56 (.lload_n 3) 1 := by decide +kernel
theorem d14_57 : DC B14 57 (.bipush 32) 2 := by decide +kernel
theorem d14_59 : DC B14 59 (.lshr) 1 := by decide +kernel
theorem d14_60 : DC B14 60 (.l2i) 1 := by decide +kernel
theorem d14_61 : DC B14 61 (.iastore) 1 := by decide +kernel
theorem d14_62 : DC B14 62 (.aload_n 0) 1 := by decide +kernel
theorem d14_63 : DC B14 63 (.getfield 42) 3 := by decide +kernel
theorem d14_66 : DC B14 66 (.iload_n 2) 1 := by decide +kernel
theorem d14_67 : DC B14 67 (.lload_n 3) 1 := by decide +kernel
theorem d14_68 : DC B14 68 (.l2i) 1 := by decide +kernel
theorem d14_69 : DC B14 69 (.iastore) 1 := by decide +kernel
theorem d14_70 : DC B14 70 (.goto 20) 3 := by decide +kernel
theorem d14_90 : DC B14 90 (.aload_n 0) 1 := by decide +kernel
theorem d14_91 : DC B14 91 (.getfield 36) 3 := by decide +kernel
theorem d14_94 : DC B14 94 (.iload_n 2) 1 := by decide +kernel
theorem d14_95 : DC B14 95 (.aload_n 0) 1 := by decide +kernel
theorem d14_96 : DC B14 96 (.getfield 20) 3 := by decide +kernel
theorem d14_99 : DC B14 99 (.aload_n 0) 1 := by decide +kernel
theorem d14_100 : DC B14 100 (.getfield 60) 3 := by decide +kernel
theorem d14_103 : DC B14 103 (.iaload) 1 := by decide +kernel
theorem d14_104 : DC B14 104 (.iastore) 1 := by decide +kernel
theorem d14_105 : DC B14 105 (.goto (-105)) 3 := by decide +kernel
theorem d14_73 : DC B14 73 (.aload_n 0) 1 := by decide +kernel
theorem d14_74 : DC B14 74 (.getfield 32) 3 := by decide +kernel
theorem d14_77 : DC B14 77 (.iload_n 2) 1 := by decide +kernel
theorem d14_78 : DC B14 78 (.aaload) 1 := by decide +kernel
theorem d14_79 : DC B14 79 (.aload_n 0) 1 := by decide +kernel
theorem d14_80 : DC B14 80 (.getfield 13) 3 := by decide +kernel
theorem d14_83 : DC B14 83 (.aload_n 0) 1 := by decide +kernel
theorem d14_84 : DC B14 84 (.getfield 60) 3 := by decide +kernel
theorem d14_87 : DC B14 87 (.iaload) 1 := by decide +kernel
theorem d14_88 : DC B14 88 (.lload_n 3) 1 := by decide +kernel
theorem d14_89 : DC B14 89 (.lastore) 1 := by decide +kernel
theorem lpB {p : Program} {l : Launch} {e : Env} {R : Room} {s : State} {m : MethodId} {args : Array Value} {below : List Frame} {meth : Method} {c : Code} {cells0 slots0 : Nat} {P : Outcome → State → Prop} {Z : State} {a0 : Array Value} (hw : HW a0 Z) (hx : p.tables.exec = Jvm.exec) (hby : c.code = prog_22_method_15_code) (hZ : Z.Warmed39 s.vm) (hown : s.vm.findClass Dn = some m.cls) (o0 : Addr) (lA : Addr) (hA : Addr) (sA : Addr) (cA : Addr) (chA : Addr) (icA : Addr) (bA : Addr) (uA : Addr) (vA : Addr) (tvA : Addr) (twA : Addr) (tsA : Addr) (tzA : Addr) (nU : Nat) (nV : Nat) (tvF : Nat → Int32) (twF : Nat → Int32) (tsF : Nat → Int64) (tzF : Nat → Int32) (mm : Nat) (hne : own_ne o0 lA hA sA bA uA vA tvA twA tsA tzA) (n0 : Nat) (hg : n0 ≤ o0 ∧ n0 ≤ lA ∧ n0 ≤ hA ∧ n0 ≤ sA ∧ n0 ≤ uA ∧ n0 ≤ vA) (hs : Heap) :
    ∀ (kt : Nat) (S : own_S) (xx : Int32) (ss : Int64) (T0 : State) (h0 : Heap) (locs0 : List Loc), mm + kt < 1000 → (∀ i, mm ≤ i → i < mm + kt → own_ok tvF twF nU nV i) → (∀ T h locs Ls, Stand p l e R s m args below meth c T locs cells0 slots0 → T.heap = h → Fr n0 locs → n0 ≤ h.size → Keep hs h [o0, lA, hA, sA, uA, vA] → Exa Z h o0 Dn → Fld Z h o0 Dn "trailLength" "I" (.int (Int32.ofNat mm)) → Obj Z h o0 lA hA sA cA chA icA bA tvA twA tsA tzA → AV Z h tvA .int 1024 (fun k => .int (tvF k)) → AV Z h twA .int 1024 (fun k => .int (twF k)) → AV Z h tsA .long 1024 (fun k => .long (tsF k)) → AV Z h tzA .int 1024 (fun k => .int (tzF k)) → AV Z h bA (.array .long) 2 (own_b2 uA vA) → AV Z h lA .int 2 (fun k => .int ((own_uns tvF twF tsF tzF mm kt S).l k)) → AV Z h hA .int 2 (fun k => .int ((own_uns tvF twF tsF tzF mm kt S).h k)) → AV Z h sA .int 2 (fun k => .int ((own_uns tvF twF tsF tzF mm kt S).s k)) → AV Z h uA .long nU (fun k => .long ((own_uns tvF twF tsF tzF mm kt S).w0 k)) → AV Z h vA .long nV (fun k => .long ((own_uns tvF twF tsF tzF mm kt S).w1 k)) → Go p e below P (T.setTop (mkF m 108 Ls []))) → Stand p l e R s m args below meth c T0 locs0 cells0 slots0 → T0.heap = h0 → Fr n0 locs0 → n0 ≤ h0.size → Keep hs h0 [o0, lA, hA, sA, uA, vA] → Exa Z h0 o0 Dn → Obj Z h0 o0 lA hA sA cA chA icA bA tvA twA tsA tzA → Fld Z h0 o0 Dn "trailLength" "I" (.int (Int32.ofNat (mm + kt))) → AV Z h0 tvA .int 1024 (fun k => .int (tvF k)) → AV Z h0 twA .int 1024 (fun k => .int (twF k)) → AV Z h0 tsA .long 1024 (fun k => .long (tsF k)) → AV Z h0 tzA .int 1024 (fun k => .int (tzF k)) → AV Z h0 bA (.array .long) 2 (own_b2 uA vA) → AV Z h0 lA .int 2 (fun k => .int (S.l k)) → AV Z h0 hA .int 2 (fun k => .int (S.h k)) → AV Z h0 sA .int 2 (fun k => .int (S.s k)) → AV Z h0 uA .long nU (fun k => .long (S.w0 k)) → AV Z h0 vA .long nV (fun k => .long (S.w1 k)) → Go p e below P (T0.setTop (mkF m 0 #[.val (.ref o0), .val (.int (Int32.ofNat mm)), .val (.int xx), .val (.long ss), .second] [])) := by
  obtain ⟨ne_o0_lA, ne_o0_hA, ne_o0_sA, ne_o0_bA, ne_o0_uA, ne_o0_vA, ne_o0_tvA, ne_o0_twA, ne_o0_tsA, ne_o0_tzA, ne_lA_hA, ne_lA_sA, ne_lA_bA, ne_lA_uA, ne_lA_vA, ne_lA_tvA, ne_lA_twA, ne_lA_tsA, ne_lA_tzA, ne_hA_sA, ne_hA_bA, ne_hA_uA, ne_hA_vA, ne_hA_tvA, ne_hA_twA, ne_hA_tsA, ne_hA_tzA, ne_sA_bA, ne_sA_uA, ne_sA_vA, ne_sA_tvA, ne_sA_twA, ne_sA_tsA, ne_sA_tzA, ne_bA_uA, ne_bA_vA, ne_bA_tvA, ne_bA_twA, ne_bA_tsA, ne_bA_tzA, ne_uA_vA, ne_uA_tvA, ne_uA_twA, ne_uA_tsA, ne_uA_tzA, ne_vA_tvA, ne_vA_twA, ne_vA_tsA, ne_vA_tzA, ne_tvA_twA, ne_tvA_tsA, ne_tvA_tzA, ne_twA_tsA, ne_twA_tzA, ne_tsA_tzA⟩ := id hne
  obtain ⟨g_o0, g_lA, g_hA, g_sA, g_uA, g_vA⟩ := id hg
  intro kt
  induction kt with
  | zero =>
    intro S xx ss T0 h0 locs0 hmk hok hk X0 e0 N0 Z0 hK fa0 fa1 fa2 fa3 fa4 fa5 fa6 fa7 fa8 fa9 fa10 fa11 fa12
    show Go p e below _ (T0.setTop (mkF m 0 #[sR o0, sI (Int32.ofNat mm), sI xx, .val (.long ss), .second] []))
    refine Vi (T0.setTop (mkF m 1 #[sR o0, sI (Int32.ofNat mm), sI xx, .val (.long ss), .second] [(.ref o0)])) (fun tZ kZ => ?_) ?_
    · refine XS.aloadN X0.here hx rfl (hb hby d14_0) rfl rfl ?_
      exact kZ
    refine GF X0 hx hZ hown (wq hw 57 rfl) e0 fa2 (hb hby d14_1) fun T1 X1 e1 => ?_
    refine Vi (T1.setTop (mkF m 108 #[sR o0, sI (Int32.ofNat mm), sI xx, .val (.long ss), .second] [])) (fun tZ kZ => ?_) ?_
    · refine XS.iloadN X1.here hx rfl (hb hby d14_4) rfl ?_
      refine XS.icmpYes X1.here hx rfl (pc0 := 5) (pc' := 108) rfl (hb hby d14_5) rfl (flt own_nge).2.2.2 (by decide) (by decide) ?_
      exact kZ
    exact hk _ _ _ _ X1 e1 N0 Z0 hK fa0 fa2 fa1 fa3 fa4 fa5 fa6 fa7 fa8 fa9 fa10 fa11 fa12
  | succ kt ih =>
    intro S xx ss T0 h0 locs0 hmk hok hk X0 e0 N0 Z0 hK fa0 fa1 fa2 fa3 fa4 fa5 fa6 fa7 fa8 fa9 fa10 fa11 fa12
    show Go p e below _ (T0.setTop (mkF m 0 #[sR o0, sI (Int32.ofNat mm), sI xx, .val (.long ss), .second] []))
    refine Vi (T0.setTop (mkF m 1 #[sR o0, sI (Int32.ofNat mm), sI xx, .val (.long ss), .second] [(.ref o0)])) (fun tZ kZ => ?_) ?_
    · refine XS.aloadN X0.here hx rfl (hb hby d14_0) rfl rfl ?_
      exact kZ
    refine GF X0 hx hZ hown (wq hw 57 rfl) e0 fa2 (hb hby d14_1) fun T1 X1 e1 => ?_
    refine Vi (T1.setTop (mkF m 10 #[sR o0, sI (Int32.ofNat mm), sI xx, .val (.long ss), .second] [(.ref o0), (.ref o0)])) (fun tZ kZ => ?_) ?_
    · refine XS.iloadN X1.here hx rfl (hb hby d14_4) rfl ?_
      refine XS.icmpNo X1.here hx rfl (hb hby d14_5) rfl (tlt (own_tlt hmk)).2.2.2 ?_
      refine XS.aloadN X1.here hx rfl (hb hby d14_8) rfl rfl ?_
      refine XS.dup X1.here hx rfl (hb hby d14_9) rfl rfl ?_
      exact kZ
    refine GF X1 hx hZ hown (wq hw 57 rfl) e1 fa2 (hb hby d14_10) fun T2 X2 e2 => ?_
    refine Vi (T2.setTop (mkF m 15 #[sR o0, sI (Int32.ofNat mm), sI xx, .val (.long ss), .second] [(.int ((Int32.ofNat (mm + (kt + 1))) - (1 : Int32))), (.ref o0)])) (fun tZ kZ => ?_) ?_
    · refine XS.iconst X2.here hx rfl (hb hby d14_13) ?_
      refine XS.isub X2.here hx rfl (hb hby d14_14) rfl ?_
      exact kZ
    obtain ⟨T3, h3, X3, e3, W3, st3⟩ := putF X2 hx hZ hown (host := "") (Or.inl (wq hw 57 rfl)) Via.refl e2 fa2 fa0 (Or.inl (wq hw 58 rfl)) (wq hw 2 rfl) (ty := .int) (by decide) rfl rfl (g := (mkF m 15 #[sR o0, sI (Int32.ofNat mm), sI xx, .val (.long ss), .second] [(.int ((Int32.ofNat (mm + (kt + 1))) - (1 : Int32))), (.ref o0)])) rfl rfl (hb hby d14_15)
    have N3 := Fr.snoc X3 N0 g_o0
    have c4_0 := fa0.wr W3
    have c4_1 := obj_w_trailLength hw fa1 W3
    have c4_3 := fa3.other W3 (Ne.symm ne_o0_tvA)
    have c4_4 := fa4.other W3 (Ne.symm ne_o0_twA)
    have c4_5 := fa5.other W3 (Ne.symm ne_o0_tsA)
    have c4_6 := fa6.other W3 (Ne.symm ne_o0_tzA)
    have c4_7 := fa7.other W3 (Ne.symm ne_o0_bA)
    have c4_8 := fa8.other W3 (Ne.symm ne_o0_lA)
    have c4_9 := fa9.other W3 (Ne.symm ne_o0_hA)
    have c4_10 := fa10.other W3 (Ne.symm ne_o0_sA)
    have c4_11 := fa11.other W3 (Ne.symm ne_o0_uA)
    have c4_12 := fa12.other W3 (Ne.symm ne_o0_vA)
    have K3 : Keep h0 h3 [o0, lA, hA, sA, uA, vA] := (Keep.refl h0 [o0, lA, hA, sA, uA, vA]).wr W3 (Or.inl (by simp))
    have Z3 := Nat.le_trans Z0 (Keep.of_wr W3).1
    have Fw3 := fa2.same W3
    refine Go.via st3 ?_
    obtain ⟨tt, ett⟩ : ∃ z, z = Int32.ofNat (mm + kt) := ⟨_, rfl⟩
    have htt0 : tt.toNatClampNeg = mm + kt := by rw [ett]; exact own_n (by omega)
    have htt : ¬ tt < 0 ∧ tt.toNatClampNeg < 1024 := ⟨by rw [ett]; exact own_nn (by omega), by omega⟩
    have FT : Fld Z h3 o0 Dn "trailLength" "I" (.int tt) := by have q := Fw3; rw [show mm + (kt + 1) = (mm + kt) + 1 from rfl, own_dec, ← ett] at q; exact q
    have hok1 : own_ok tvF twF nU nV tt.toNatClampNeg := by rw [htt0]; exact hok (mm + kt) (by omega) (by omega)
    refine Vi (T3.setTop (mkF m 19 #[sR o0, sI (Int32.ofNat mm), sI xx, .val (.long ss), .second] [(.ref o0)])) (fun tZ kZ => ?_) ?_
    · refine XS.aloadN X3.here hx rfl (hb hby d14_18) rfl rfl ?_
      exact kZ
    refine GF X3 hx hZ hown (wq hw 11 rfl) e3 (obj_trailVariable c4_1) (hb hby d14_19) fun T5 X5 e5 => ?_
    refine Vi (T5.setTop (mkF m 23 #[sR o0, sI (Int32.ofNat mm), sI xx, .val (.long ss), .second] [(.ref o0), (.ref tvA)])) (fun tZ kZ => ?_) ?_
    · refine XS.aloadN X5.here hx rfl (hb hby d14_22) rfl rfl ?_
      exact kZ
    refine GF X5 hx hZ hown (wq hw 57 rfl) e5 FT (hb hby d14_23) fun T6 X6 e6 => ?_
    refine Vi (T6.setTop (mkF m 29 #[sR o0, sI (Int32.ofNat mm), sI (tvF tt.toNatClampNeg), .val (.long ss), .second] [(.ref o0)])) (fun tZ kZ => ?_) ?_
    · refine AV.iaload c4_3 X6 hx hZ e6 (j := tt) htt (hb hby d14_26) ?_
      refine XS.istoreN X6.here hx rfl (hb hby d14_27) rfl (l' := #[sR o0, sI (Int32.ofNat mm), sI (tvF tt.toNatClampNeg), .val (.long ss), .second]) rfl ?_
      refine XS.aloadN X6.here hx rfl (hb hby d14_28) rfl rfl ?_
      exact kZ
    refine GF X6 hx hZ hown (wq hw 16 rfl) e6 (obj_trailSaved c4_1) (hb hby d14_29) fun T7 X7 e7 => ?_
    refine Vi (T7.setTop (mkF m 33 #[sR o0, sI (Int32.ofNat mm), sI (tvF tt.toNatClampNeg), .val (.long ss), .second] [(.ref o0), (.ref tsA)])) (fun tZ kZ => ?_) ?_
    · refine XS.aloadN X7.here hx rfl (hb hby d14_32) rfl rfl ?_
      exact kZ
    refine GF X7 hx hZ hown (wq hw 57 rfl) e7 FT (hb hby d14_33) fun T8 X8 e8 => ?_
    refine Vi (T8.setTop (mkF m 39 #[sR o0, sI (Int32.ofNat mm), sI (tvF tt.toNatClampNeg), .val (.long (tsF tt.toNatClampNeg)), .second] [(.ref o0)])) (fun tZ kZ => ?_) ?_
    · refine AV.laload c4_5 X8 hx hZ e8 (j := tt) htt (hb hby d14_36) ?_
      refine XS.lstoreN X8.here hx rfl (hb hby d14_37) rfl (l' := #[sR o0, sI (Int32.ofNat mm), sI (tvF tt.toNatClampNeg), .val (.long (tsF tt.toNatClampNeg)), .second]) rfl ?_
      refine XS.aloadN X8.here hx rfl (hb hby d14_38) rfl rfl ?_
      exact kZ
    refine GF X8 hx hZ hown (wq hw 13 rfl) e8 (obj_trailWord c4_1) (hb hby d14_39) fun T9 X9 e9 => ?_
    refine Vi (T9.setTop (mkF m 43 #[sR o0, sI (Int32.ofNat mm), sI (tvF tt.toNatClampNeg), .val (.long (tsF tt.toNatClampNeg)), .second] [(.ref o0), (.ref twA)])) (fun tZ kZ => ?_) ?_
    · refine XS.aloadN X9.here hx rfl (hb hby d14_42) rfl rfl ?_
      exact kZ
    refine GF X9 hx hZ hown (wq hw 57 rfl) e9 FT (hb hby d14_43) fun T10 X10 e10 => ?_
    refine Vi (T10.setTop (mkF m 48 #[sR o0, sI (Int32.ofNat mm), sI (tvF tt.toNatClampNeg), .val (.long (tsF tt.toNatClampNeg)), .second] [(.int (-1)), (.int (twF tt.toNatClampNeg))])) (fun tZ kZ => ?_) ?_
    · refine AV.iaload c4_4 X10 hx hZ e10 (j := tt) htt (hb hby d14_46) ?_
      refine XS.iconst X10.here hx rfl (hb hby d14_47) ?_
      exact kZ
    by_cases hc48 : (twF tt.toNatClampNeg) = (-1 : Int32)
    · refine Vi (T10.setTop (mkF m 51 #[sR o0, sI (Int32.ofNat mm), sI (tvF tt.toNatClampNeg), .val (.long (tsF tt.toNatClampNeg)), .second] [])) (fun tZ kZ => ?_) ?_
      · show Steps p.tables e below (T10.setTop (mkF m 48 #[sR o0, sI (Int32.ofNat mm), sI (tvF tt.toNatClampNeg), .val (.long (tsF tt.toNatClampNeg)), .second] [(.int (-1)), (.int (twF tt.toNatClampNeg))])) _
        refine XS.icmpNo X10.here hx rfl (hb hby d14_48) rfl (teq hc48).2 ?_
        exact kZ
      refine Vi (T10.setTop (mkF m 52 #[sR o0, sI (Int32.ofNat mm), sI (tvF tt.toNatClampNeg), .val (.long (tsF tt.toNatClampNeg)), .second] [(.ref o0)])) (fun tZ kZ => ?_) ?_
      · refine XS.aloadN X10.here hx rfl (hb hby d14_51) rfl rfl ?_
        exact kZ
      refine GF X10 hx hZ hown (wq hw 37 rfl) e10 (obj_low c4_1) (hb hby d14_52) fun T11 X11 e11 => ?_
      refine Vi (T11.setTop (mkF m 61 #[sR o0, sI (Int32.ofNat mm), sI (tvF tt.toNatClampNeg), .val (.long (tsF tt.toNatClampNeg)), .second] [(.int (((tsF tt.toNatClampNeg) >>> ((32 : Int32) &&& 0x3f).toInt64).toInt32)), (.int (tvF tt.toNatClampNeg)), (.ref lA)])) (fun tZ kZ => ?_) ?_
      · refine XS.iloadN X11.here hx rfl (hb hby d14_55) rfl ?_
        refine XS.lloadN X11.here hx rfl (hb hby d14_56) rfl ?_
        refine XS.bipush X11.here hx rfl (hb hby d14_57) ?_
        refine XS.lshr X11.here hx rfl (hb hby d14_59) rfl ?_
        refine XS.l2i X11.here hx rfl (hb hby d14_60) rfl ?_
        exact kZ
      obtain ⟨T12, h12, X12, e12, W12, V12, st12⟩ := AV.iastore c4_8 X11 hx hZ e11 (j := (tvF tt.toNatClampNeg)) (own_okb hok1) (Ls := #[sR o0, sI (Int32.ofNat mm), sI (tvF tt.toNatClampNeg), .val (.long (tsF tt.toNatClampNeg)), .second]) (rest := []) (hb hby d14_61) (x := (((tsF tt.toNatClampNeg) >>> ((32 : Int32) &&& 0x3f).toInt64).toInt32))
      have N12 := Fr.snoc X12 N3 g_lA
      have c13_0 := c4_0.wr W12
      have c13_1 := obj_oth c4_1 W12 ne_o0_lA
      have c13_2 := FT.other W12 (Or.inl ne_o0_lA)
      have c13_3 := c4_3.other W12 (Ne.symm ne_lA_tvA)
      have c13_4 := c4_4.other W12 (Ne.symm ne_lA_twA)
      have c13_5 := c4_5.other W12 (Ne.symm ne_lA_tsA)
      have c13_6 := c4_6.other W12 (Ne.symm ne_lA_tzA)
      have c13_7 := c4_7.other W12 (Ne.symm ne_lA_bA)
      have c13_9 := c4_9.other W12 (Ne.symm ne_lA_hA)
      have c13_10 := c4_10.other W12 (Ne.symm ne_lA_sA)
      have c13_11 := c4_11.other W12 (Ne.symm ne_lA_uA)
      have c13_12 := c4_12.other W12 (Ne.symm ne_lA_vA)
      have K12 : Keep h0 h12 [o0, lA, hA, sA, uA, vA] := K3.wr W12 (Or.inl (by simp))
      have Z12 := Nat.le_trans Z3 (Keep.of_wr W12).1
      refine Go.via st12 ?_
      refine Vi (T12.setTop (mkF m 63 #[sR o0, sI (Int32.ofNat mm), sI (tvF tt.toNatClampNeg), .val (.long (tsF tt.toNatClampNeg)), .second] [(.ref o0)])) (fun tZ kZ => ?_) ?_
      · refine XS.aloadN X12.here hx rfl (hb hby d14_62) rfl rfl ?_
        exact kZ
      refine GF X12 hx hZ hown (wq hw 39 rfl) e12 (obj_high c13_1) (hb hby d14_63) fun T14 X14 e14 => ?_
      refine Vi (T14.setTop (mkF m 69 #[sR o0, sI (Int32.ofNat mm), sI (tvF tt.toNatClampNeg), .val (.long (tsF tt.toNatClampNeg)), .second] [(.int ((tsF tt.toNatClampNeg).toInt32)), (.int (tvF tt.toNatClampNeg)), (.ref hA)])) (fun tZ kZ => ?_) ?_
      · refine XS.iloadN X14.here hx rfl (hb hby d14_66) rfl ?_
        refine XS.lloadN X14.here hx rfl (hb hby d14_67) rfl ?_
        refine XS.l2i X14.here hx rfl (hb hby d14_68) rfl ?_
        exact kZ
      obtain ⟨T15, h15, X15, e15, W15, V15, st15⟩ := AV.iastore c13_9 X14 hx hZ e14 (j := (tvF tt.toNatClampNeg)) (own_okb hok1) (Ls := #[sR o0, sI (Int32.ofNat mm), sI (tvF tt.toNatClampNeg), .val (.long (tsF tt.toNatClampNeg)), .second]) (rest := []) (hb hby d14_69) (x := ((tsF tt.toNatClampNeg).toInt32))
      have N15 := Fr.snoc X15 N12 g_hA
      have c16_0 := c13_0.wr W15
      have c16_1 := obj_oth c13_1 W15 ne_o0_hA
      have c16_2 := c13_2.other W15 (Or.inl ne_o0_hA)
      have c16_3 := c13_3.other W15 (Ne.symm ne_hA_tvA)
      have c16_4 := c13_4.other W15 (Ne.symm ne_hA_twA)
      have c16_5 := c13_5.other W15 (Ne.symm ne_hA_tsA)
      have c16_6 := c13_6.other W15 (Ne.symm ne_hA_tzA)
      have c16_7 := c13_7.other W15 (Ne.symm ne_hA_bA)
      have c16_8 := V12.other W15 ne_lA_hA
      have c16_10 := c13_10.other W15 (Ne.symm ne_hA_sA)
      have c16_11 := c13_11.other W15 (Ne.symm ne_hA_uA)
      have c16_12 := c13_12.other W15 (Ne.symm ne_hA_vA)
      have K15 : Keep h0 h15 [o0, lA, hA, sA, uA, vA] := K12.wr W15 (Or.inl (by simp))
      have Z15 := Nat.le_trans Z12 (Keep.of_wr W15).1
      refine Go.via st15 ?_
      refine Vi (T15.setTop (mkF m 91 #[sR o0, sI (Int32.ofNat mm), sI (tvF tt.toNatClampNeg), .val (.long (tsF tt.toNatClampNeg)), .second] [(.ref o0)])) (fun tZ kZ => ?_) ?_
      · refine XS.goto X15.here hx rfl (pc0 := 70) (pc' := 90) rfl (hb hby d14_70) (by decide) (by decide) ?_
        refine XS.aloadN X15.here hx rfl (hb hby d14_90) rfl rfl ?_
        exact kZ
      refine GF X15 hx hZ hown (wq hw 35 rfl) e15 (obj_sizes c16_1) (hb hby d14_91) fun T17 X17 e17 => ?_
      refine Vi (T17.setTop (mkF m 96 #[sR o0, sI (Int32.ofNat mm), sI (tvF tt.toNatClampNeg), .val (.long (tsF tt.toNatClampNeg)), .second] [(.ref o0), (.int (tvF tt.toNatClampNeg)), (.ref sA)])) (fun tZ kZ => ?_) ?_
      · refine XS.iloadN X17.here hx rfl (hb hby d14_94) rfl ?_
        refine XS.aloadN X17.here hx rfl (hb hby d14_95) rfl rfl ?_
        exact kZ
      refine GF X17 hx hZ hown (wq hw 18 rfl) e17 (obj_trailSize c16_1) (hb hby d14_96) fun T18 X18 e18 => ?_
      refine Vi (T18.setTop (mkF m 100 #[sR o0, sI (Int32.ofNat mm), sI (tvF tt.toNatClampNeg), .val (.long (tsF tt.toNatClampNeg)), .second] [(.ref o0), (.ref tzA), (.int (tvF tt.toNatClampNeg)), (.ref sA)])) (fun tZ kZ => ?_) ?_
      · refine XS.aloadN X18.here hx rfl (hb hby d14_99) rfl rfl ?_
        exact kZ
      refine GF X18 hx hZ hown (wq hw 57 rfl) e18 c16_2 (hb hby d14_100) fun T19 X19 e19 => ?_
      refine Vi (T19.setTop (mkF m 104 #[sR o0, sI (Int32.ofNat mm), sI (tvF tt.toNatClampNeg), .val (.long (tsF tt.toNatClampNeg)), .second] [(.int (tzF tt.toNatClampNeg)), (.int (tvF tt.toNatClampNeg)), (.ref sA)])) (fun tZ kZ => ?_) ?_
      · refine AV.iaload c16_6 X19 hx hZ e19 (j := tt) htt (hb hby d14_103) ?_
        exact kZ
      obtain ⟨T20, h20, X20, e20, W20, V20, st20⟩ := AV.iastore c16_10 X19 hx hZ e19 (j := (tvF tt.toNatClampNeg)) (own_okb hok1) (Ls := #[sR o0, sI (Int32.ofNat mm), sI (tvF tt.toNatClampNeg), .val (.long (tsF tt.toNatClampNeg)), .second]) (rest := []) (hb hby d14_104) (x := (tzF tt.toNatClampNeg))
      have N20 := Fr.snoc X20 N15 g_sA
      have c21_0 := c16_0.wr W20
      have c21_1 := obj_oth c16_1 W20 ne_o0_sA
      have c21_2 := c16_2.other W20 (Or.inl ne_o0_sA)
      have c21_3 := c16_3.other W20 (Ne.symm ne_sA_tvA)
      have c21_4 := c16_4.other W20 (Ne.symm ne_sA_twA)
      have c21_5 := c16_5.other W20 (Ne.symm ne_sA_tsA)
      have c21_6 := c16_6.other W20 (Ne.symm ne_sA_tzA)
      have c21_7 := c16_7.other W20 (Ne.symm ne_sA_bA)
      have c21_8 := c16_8.other W20 ne_lA_sA
      have c21_9 := V15.other W20 ne_hA_sA
      have c21_11 := c16_11.other W20 (Ne.symm ne_sA_uA)
      have c21_12 := c16_12.other W20 (Ne.symm ne_sA_vA)
      have K20 : Keep h0 h20 [o0, lA, hA, sA, uA, vA] := K15.wr W20 (Or.inl (by simp))
      have Z20 := Nat.le_trans Z15 (Keep.of_wr W20).1
      refine Go.via st20 ?_
      refine Vi (T20.setTop (mkF m 0 #[sR o0, sI (Int32.ofNat mm), sI (tvF tt.toNatClampNeg), .val (.long (tsF tt.toNatClampNeg)), .second] [])) (fun tZ kZ => ?_) ?_
      · refine XS.goto X20.here hx rfl (pc0 := 105) (pc' := 0) rfl (hb hby d14_105) (by decide) (by decide) ?_
        exact kZ
      have eS : own_un tvF twF tsF tzF (mm + kt) S = (own_S.mk (up S.l (tvF tt.toNatClampNeg).toNatClampNeg (((tsF tt.toNatClampNeg) >>> ((32 : Int32) &&& 0x3f).toInt64).toInt32)) (up S.h (tvF tt.toNatClampNeg).toNatClampNeg ((tsF tt.toNatClampNeg).toInt32)) (up S.s (tvF tt.toNatClampNeg).toNatClampNeg (tzF tt.toNatClampNeg)) S.w0 S.w1) := by rw [← htt0]; exact own_unl hc48
      have FT2 : Fld Z h20 o0 Dn "trailLength" "I" (.int (Int32.ofNat (mm + kt))) := by have q := c21_2; rw [ett] at q; exact q
      exact ih (own_S.mk (up S.l (tvF tt.toNatClampNeg).toNatClampNeg (((tsF tt.toNatClampNeg) >>> ((32 : Int32) &&& 0x3f).toInt64).toInt32)) (up S.h (tvF tt.toNatClampNeg).toNatClampNeg ((tsF tt.toNatClampNeg).toInt32)) (up S.s (tvF tt.toNatClampNeg).toNatClampNeg (tzF tt.toNatClampNeg)) S.w0 S.w1) (tvF tt.toNatClampNeg) (tsF tt.toNatClampNeg) _ _ _ (by omega) (fun i h1 h2 => hok i h1 (by omega)) (by rw [← eS]; exact hk) X20 e20 N20 Z20 (hK.trans K20 (allS (Or.inl (by simp)) (allS (Or.inl (by simp)) (allS (Or.inl (by simp)) (allS (Or.inl (by simp)) (allS (Or.inl (by simp)) (allS (Or.inl (by simp)) all0))))))) c21_0 c21_1 FT2 c21_3 c21_4 c21_5 c21_6 c21_7 c21_8 c21_9 V20 c21_11 c21_12
    · refine Vi (T10.setTop (mkF m 73 #[sR o0, sI (Int32.ofNat mm), sI (tvF tt.toNatClampNeg), .val (.long (tsF tt.toNatClampNeg)), .second] [])) (fun tZ kZ => ?_) ?_
      · show Steps p.tables e below (T10.setTop (mkF m 48 #[sR o0, sI (Int32.ofNat mm), sI (tvF tt.toNatClampNeg), .val (.long (tsF tt.toNatClampNeg)), .second] [(.int (-1)), (.int (twF tt.toNatClampNeg))])) _
        refine XS.icmpYes X10.here hx rfl (pc0 := 48) (pc' := 73) rfl (hb hby d14_48) rfl (feq hc48).2 (by decide) (by decide) ?_
        exact kZ
      refine Vi (T10.setTop (mkF m 74 #[sR o0, sI (Int32.ofNat mm), sI (tvF tt.toNatClampNeg), .val (.long (tsF tt.toNatClampNeg)), .second] [(.ref o0)])) (fun tZ kZ => ?_) ?_
      · refine XS.aloadN X10.here hx rfl (hb hby d14_73) rfl rfl ?_
        exact kZ
      refine GF X10 hx hZ hown (wq hw 33 rfl) e10 (obj_bits c4_1) (hb hby d14_74) fun T22 X22 e22 => ?_
      refine Vi (T22.setTop (mkF m 78 #[sR o0, sI (Int32.ofNat mm), sI (tvF tt.toNatClampNeg), .val (.long (tsF tt.toNatClampNeg)), .second] [(.int (tvF tt.toNatClampNeg)), (.ref bA)])) (fun tZ kZ => ?_) ?_
      · refine XS.iloadN X22.here hx rfl (hb hby d14_77) rfl ?_
        exact kZ
      rcases hok1.1 with hq | hq
      · show Go p e below _ (T22.setTop (mkF m 78 #[sR o0, sI (Int32.ofNat mm), sI (tvF tt.toNatClampNeg), .val (.long (tsF tt.toNatClampNeg)), .second] [(.int (tvF tt.toNatClampNeg)), (.ref bA)]))
        refine Vi (T22.setTop (mkF m 80 #[sR o0, sI (Int32.ofNat mm), sI (tvF tt.toNatClampNeg), .val (.long (tsF tt.toNatClampNeg)), .second] [(.ref o0), (.ref uA)])) (fun tZ kZ => ?_) ?_
        · refine AV.aaload c4_7 rfl X22 hx hZ e22 (j := (tvF tt.toNatClampNeg)) (own_okb hok1) (hb hby d14_78) ?_
          rw [own_b2q0 hq]
          refine XS.aloadN X22.here hx rfl (hb hby d14_79) rfl rfl ?_
          exact kZ
        refine GF X22 hx hZ hown (wq hw 13 rfl) e22 (obj_trailWord c4_1) (hb hby d14_80) fun T23 X23 e23 => ?_
        refine Vi (T23.setTop (mkF m 84 #[sR o0, sI (Int32.ofNat mm), sI (tvF tt.toNatClampNeg), .val (.long (tsF tt.toNatClampNeg)), .second] [(.ref o0), (.ref twA), (.ref uA)])) (fun tZ kZ => ?_) ?_
        · refine XS.aloadN X23.here hx rfl (hb hby d14_83) rfl rfl ?_
          exact kZ
        refine GF X23 hx hZ hown (wq hw 57 rfl) e23 FT (hb hby d14_84) fun T24 X24 e24 => ?_
        refine Vi (T24.setTop (mkF m 89 #[sR o0, sI (Int32.ofNat mm), sI (tvF tt.toNatClampNeg), .val (.long (tsF tt.toNatClampNeg)), .second] [(.long (tsF tt.toNatClampNeg)), (.int (twF tt.toNatClampNeg)), (.ref uA)])) (fun tZ kZ => ?_) ?_
        · refine AV.iaload c4_4 X24 hx hZ e24 (j := tt) htt (hb hby d14_87) ?_
          refine XS.lloadN X24.here hx rfl (hb hby d14_88) rfl ?_
          exact kZ
        obtain ⟨T25, h25, X25, e25, W25, V25, st25⟩ := AV.lastore c4_11 X24 hx hZ e24 (j := (twF tt.toNatClampNeg)) (own_oku hok1 hc48 hq) (Ls := #[sR o0, sI (Int32.ofNat mm), sI (tvF tt.toNatClampNeg), .val (.long (tsF tt.toNatClampNeg)), .second]) (rest := []) (hb hby d14_89) (x := (tsF tt.toNatClampNeg))
        have N25 := Fr.snoc X25 N3 g_uA
        have c26_0 := c4_0.wr W25
        have c26_1 := obj_oth c4_1 W25 ne_o0_uA
        have c26_2 := FT.other W25 (Or.inl ne_o0_uA)
        have c26_3 := c4_3.other W25 (Ne.symm ne_uA_tvA)
        have c26_4 := c4_4.other W25 (Ne.symm ne_uA_twA)
        have c26_5 := c4_5.other W25 (Ne.symm ne_uA_tsA)
        have c26_6 := c4_6.other W25 (Ne.symm ne_uA_tzA)
        have c26_7 := c4_7.other W25 ne_bA_uA
        have c26_8 := c4_8.other W25 ne_lA_uA
        have c26_9 := c4_9.other W25 ne_hA_uA
        have c26_10 := c4_10.other W25 ne_sA_uA
        have c26_12 := c4_12.other W25 (Ne.symm ne_uA_vA)
        have K25 : Keep h0 h25 [o0, lA, hA, sA, uA, vA] := K3.wr W25 (Or.inl (by simp))
        have Z25 := Nat.le_trans Z3 (Keep.of_wr W25).1
        refine Go.via st25 ?_
        refine Vi (T25.setTop (mkF m 91 #[sR o0, sI (Int32.ofNat mm), sI (tvF tt.toNatClampNeg), .val (.long (tsF tt.toNatClampNeg)), .second] [(.ref o0)])) (fun tZ kZ => ?_) ?_
        · refine XS.aloadN X25.here hx rfl (hb hby d14_90) rfl rfl ?_
          exact kZ
        refine GF X25 hx hZ hown (wq hw 35 rfl) e25 (obj_sizes c26_1) (hb hby d14_91) fun T27 X27 e27 => ?_
        refine Vi (T27.setTop (mkF m 96 #[sR o0, sI (Int32.ofNat mm), sI (tvF tt.toNatClampNeg), .val (.long (tsF tt.toNatClampNeg)), .second] [(.ref o0), (.int (tvF tt.toNatClampNeg)), (.ref sA)])) (fun tZ kZ => ?_) ?_
        · refine XS.iloadN X27.here hx rfl (hb hby d14_94) rfl ?_
          refine XS.aloadN X27.here hx rfl (hb hby d14_95) rfl rfl ?_
          exact kZ
        refine GF X27 hx hZ hown (wq hw 18 rfl) e27 (obj_trailSize c26_1) (hb hby d14_96) fun T28 X28 e28 => ?_
        refine Vi (T28.setTop (mkF m 100 #[sR o0, sI (Int32.ofNat mm), sI (tvF tt.toNatClampNeg), .val (.long (tsF tt.toNatClampNeg)), .second] [(.ref o0), (.ref tzA), (.int (tvF tt.toNatClampNeg)), (.ref sA)])) (fun tZ kZ => ?_) ?_
        · refine XS.aloadN X28.here hx rfl (hb hby d14_99) rfl rfl ?_
          exact kZ
        refine GF X28 hx hZ hown (wq hw 57 rfl) e28 c26_2 (hb hby d14_100) fun T29 X29 e29 => ?_
        refine Vi (T29.setTop (mkF m 104 #[sR o0, sI (Int32.ofNat mm), sI (tvF tt.toNatClampNeg), .val (.long (tsF tt.toNatClampNeg)), .second] [(.int (tzF tt.toNatClampNeg)), (.int (tvF tt.toNatClampNeg)), (.ref sA)])) (fun tZ kZ => ?_) ?_
        · refine AV.iaload c26_6 X29 hx hZ e29 (j := tt) htt (hb hby d14_103) ?_
          exact kZ
        obtain ⟨T30, h30, X30, e30, W30, V30, st30⟩ := AV.iastore c26_10 X29 hx hZ e29 (j := (tvF tt.toNatClampNeg)) (own_okb hok1) (Ls := #[sR o0, sI (Int32.ofNat mm), sI (tvF tt.toNatClampNeg), .val (.long (tsF tt.toNatClampNeg)), .second]) (rest := []) (hb hby d14_104) (x := (tzF tt.toNatClampNeg))
        have N30 := Fr.snoc X30 N25 g_sA
        have c31_0 := c26_0.wr W30
        have c31_1 := obj_oth c26_1 W30 ne_o0_sA
        have c31_2 := c26_2.other W30 (Or.inl ne_o0_sA)
        have c31_3 := c26_3.other W30 (Ne.symm ne_sA_tvA)
        have c31_4 := c26_4.other W30 (Ne.symm ne_sA_twA)
        have c31_5 := c26_5.other W30 (Ne.symm ne_sA_tsA)
        have c31_6 := c26_6.other W30 (Ne.symm ne_sA_tzA)
        have c31_7 := c26_7.other W30 (Ne.symm ne_sA_bA)
        have c31_8 := c26_8.other W30 ne_lA_sA
        have c31_9 := c26_9.other W30 ne_hA_sA
        have c31_11 := V25.other W30 (Ne.symm ne_sA_uA)
        have c31_12 := c26_12.other W30 (Ne.symm ne_sA_vA)
        have K30 : Keep h0 h30 [o0, lA, hA, sA, uA, vA] := K25.wr W30 (Or.inl (by simp))
        have Z30 := Nat.le_trans Z25 (Keep.of_wr W30).1
        refine Go.via st30 ?_
        refine Vi (T30.setTop (mkF m 0 #[sR o0, sI (Int32.ofNat mm), sI (tvF tt.toNatClampNeg), .val (.long (tsF tt.toNatClampNeg)), .second] [])) (fun tZ kZ => ?_) ?_
        · refine XS.goto X30.here hx rfl (pc0 := 105) (pc' := 0) rfl (hb hby d14_105) (by decide) (by decide) ?_
          exact kZ
        have eS : own_un tvF twF tsF tzF (mm + kt) S = (own_S.mk S.l S.h (up S.s (tvF tt.toNatClampNeg).toNatClampNeg (tzF tt.toNatClampNeg)) (up S.w0 (twF tt.toNatClampNeg).toNatClampNeg (tsF tt.toNatClampNeg)) S.w1) := by rw [← htt0]; exact own_unu hc48 hq
        have FT2 : Fld Z h30 o0 Dn "trailLength" "I" (.int (Int32.ofNat (mm + kt))) := by have q := c31_2; rw [ett] at q; exact q
        exact ih (own_S.mk S.l S.h (up S.s (tvF tt.toNatClampNeg).toNatClampNeg (tzF tt.toNatClampNeg)) (up S.w0 (twF tt.toNatClampNeg).toNatClampNeg (tsF tt.toNatClampNeg)) S.w1) (tvF tt.toNatClampNeg) (tsF tt.toNatClampNeg) _ _ _ (by omega) (fun i h1 h2 => hok i h1 (by omega)) (by rw [← eS]; exact hk) X30 e30 N30 Z30 (hK.trans K30 (allS (Or.inl (by simp)) (allS (Or.inl (by simp)) (allS (Or.inl (by simp)) (allS (Or.inl (by simp)) (allS (Or.inl (by simp)) (allS (Or.inl (by simp)) all0))))))) c31_0 c31_1 FT2 c31_3 c31_4 c31_5 c31_6 c31_7 c31_8 c31_9 V30 c31_11 c31_12
      · show Go p e below _ (T22.setTop (mkF m 78 #[sR o0, sI (Int32.ofNat mm), sI (tvF tt.toNatClampNeg), .val (.long (tsF tt.toNatClampNeg)), .second] [(.int (tvF tt.toNatClampNeg)), (.ref bA)]))
        refine Vi (T22.setTop (mkF m 80 #[sR o0, sI (Int32.ofNat mm), sI (tvF tt.toNatClampNeg), .val (.long (tsF tt.toNatClampNeg)), .second] [(.ref o0), (.ref vA)])) (fun tZ kZ => ?_) ?_
        · refine AV.aaload c4_7 rfl X22 hx hZ e22 (j := (tvF tt.toNatClampNeg)) (own_okb hok1) (hb hby d14_78) ?_
          rw [own_b2q1 hq]
          refine XS.aloadN X22.here hx rfl (hb hby d14_79) rfl rfl ?_
          exact kZ
        refine GF X22 hx hZ hown (wq hw 13 rfl) e22 (obj_trailWord c4_1) (hb hby d14_80) fun T32 X32 e32 => ?_
        refine Vi (T32.setTop (mkF m 84 #[sR o0, sI (Int32.ofNat mm), sI (tvF tt.toNatClampNeg), .val (.long (tsF tt.toNatClampNeg)), .second] [(.ref o0), (.ref twA), (.ref vA)])) (fun tZ kZ => ?_) ?_
        · refine XS.aloadN X32.here hx rfl (hb hby d14_83) rfl rfl ?_
          exact kZ
        refine GF X32 hx hZ hown (wq hw 57 rfl) e32 FT (hb hby d14_84) fun T33 X33 e33 => ?_
        refine Vi (T33.setTop (mkF m 89 #[sR o0, sI (Int32.ofNat mm), sI (tvF tt.toNatClampNeg), .val (.long (tsF tt.toNatClampNeg)), .second] [(.long (tsF tt.toNatClampNeg)), (.int (twF tt.toNatClampNeg)), (.ref vA)])) (fun tZ kZ => ?_) ?_
        · refine AV.iaload c4_4 X33 hx hZ e33 (j := tt) htt (hb hby d14_87) ?_
          refine XS.lloadN X33.here hx rfl (hb hby d14_88) rfl ?_
          exact kZ
        obtain ⟨T34, h34, X34, e34, W34, V34, st34⟩ := AV.lastore c4_12 X33 hx hZ e33 (j := (twF tt.toNatClampNeg)) (own_okv hok1 hc48 hq) (Ls := #[sR o0, sI (Int32.ofNat mm), sI (tvF tt.toNatClampNeg), .val (.long (tsF tt.toNatClampNeg)), .second]) (rest := []) (hb hby d14_89) (x := (tsF tt.toNatClampNeg))
        have N34 := Fr.snoc X34 N3 g_vA
        have c35_0 := c4_0.wr W34
        have c35_1 := obj_oth c4_1 W34 ne_o0_vA
        have c35_2 := FT.other W34 (Or.inl ne_o0_vA)
        have c35_3 := c4_3.other W34 (Ne.symm ne_vA_tvA)
        have c35_4 := c4_4.other W34 (Ne.symm ne_vA_twA)
        have c35_5 := c4_5.other W34 (Ne.symm ne_vA_tsA)
        have c35_6 := c4_6.other W34 (Ne.symm ne_vA_tzA)
        have c35_7 := c4_7.other W34 ne_bA_vA
        have c35_8 := c4_8.other W34 ne_lA_vA
        have c35_9 := c4_9.other W34 ne_hA_vA
        have c35_10 := c4_10.other W34 ne_sA_vA
        have c35_11 := c4_11.other W34 ne_uA_vA
        have K34 : Keep h0 h34 [o0, lA, hA, sA, uA, vA] := K3.wr W34 (Or.inl (by simp))
        have Z34 := Nat.le_trans Z3 (Keep.of_wr W34).1
        refine Go.via st34 ?_
        refine Vi (T34.setTop (mkF m 91 #[sR o0, sI (Int32.ofNat mm), sI (tvF tt.toNatClampNeg), .val (.long (tsF tt.toNatClampNeg)), .second] [(.ref o0)])) (fun tZ kZ => ?_) ?_
        · refine XS.aloadN X34.here hx rfl (hb hby d14_90) rfl rfl ?_
          exact kZ
        refine GF X34 hx hZ hown (wq hw 35 rfl) e34 (obj_sizes c35_1) (hb hby d14_91) fun T36 X36 e36 => ?_
        refine Vi (T36.setTop (mkF m 96 #[sR o0, sI (Int32.ofNat mm), sI (tvF tt.toNatClampNeg), .val (.long (tsF tt.toNatClampNeg)), .second] [(.ref o0), (.int (tvF tt.toNatClampNeg)), (.ref sA)])) (fun tZ kZ => ?_) ?_
        · refine XS.iloadN X36.here hx rfl (hb hby d14_94) rfl ?_
          refine XS.aloadN X36.here hx rfl (hb hby d14_95) rfl rfl ?_
          exact kZ
        refine GF X36 hx hZ hown (wq hw 18 rfl) e36 (obj_trailSize c35_1) (hb hby d14_96) fun T37 X37 e37 => ?_
        refine Vi (T37.setTop (mkF m 100 #[sR o0, sI (Int32.ofNat mm), sI (tvF tt.toNatClampNeg), .val (.long (tsF tt.toNatClampNeg)), .second] [(.ref o0), (.ref tzA), (.int (tvF tt.toNatClampNeg)), (.ref sA)])) (fun tZ kZ => ?_) ?_
        · refine XS.aloadN X37.here hx rfl (hb hby d14_99) rfl rfl ?_
          exact kZ
        refine GF X37 hx hZ hown (wq hw 57 rfl) e37 c35_2 (hb hby d14_100) fun T38 X38 e38 => ?_
        refine Vi (T38.setTop (mkF m 104 #[sR o0, sI (Int32.ofNat mm), sI (tvF tt.toNatClampNeg), .val (.long (tsF tt.toNatClampNeg)), .second] [(.int (tzF tt.toNatClampNeg)), (.int (tvF tt.toNatClampNeg)), (.ref sA)])) (fun tZ kZ => ?_) ?_
        · refine AV.iaload c35_6 X38 hx hZ e38 (j := tt) htt (hb hby d14_103) ?_
          exact kZ
        obtain ⟨T39, h39, X39, e39, W39, V39, st39⟩ := AV.iastore c35_10 X38 hx hZ e38 (j := (tvF tt.toNatClampNeg)) (own_okb hok1) (Ls := #[sR o0, sI (Int32.ofNat mm), sI (tvF tt.toNatClampNeg), .val (.long (tsF tt.toNatClampNeg)), .second]) (rest := []) (hb hby d14_104) (x := (tzF tt.toNatClampNeg))
        have N39 := Fr.snoc X39 N34 g_sA
        have c40_0 := c35_0.wr W39
        have c40_1 := obj_oth c35_1 W39 ne_o0_sA
        have c40_2 := c35_2.other W39 (Or.inl ne_o0_sA)
        have c40_3 := c35_3.other W39 (Ne.symm ne_sA_tvA)
        have c40_4 := c35_4.other W39 (Ne.symm ne_sA_twA)
        have c40_5 := c35_5.other W39 (Ne.symm ne_sA_tsA)
        have c40_6 := c35_6.other W39 (Ne.symm ne_sA_tzA)
        have c40_7 := c35_7.other W39 (Ne.symm ne_sA_bA)
        have c40_8 := c35_8.other W39 ne_lA_sA
        have c40_9 := c35_9.other W39 ne_hA_sA
        have c40_11 := c35_11.other W39 (Ne.symm ne_sA_uA)
        have c40_12 := V34.other W39 (Ne.symm ne_sA_vA)
        have K39 : Keep h0 h39 [o0, lA, hA, sA, uA, vA] := K34.wr W39 (Or.inl (by simp))
        have Z39 := Nat.le_trans Z34 (Keep.of_wr W39).1
        refine Go.via st39 ?_
        refine Vi (T39.setTop (mkF m 0 #[sR o0, sI (Int32.ofNat mm), sI (tvF tt.toNatClampNeg), .val (.long (tsF tt.toNatClampNeg)), .second] [])) (fun tZ kZ => ?_) ?_
        · refine XS.goto X39.here hx rfl (pc0 := 105) (pc' := 0) rfl (hb hby d14_105) (by decide) (by decide) ?_
          exact kZ
        have eS : own_un tvF twF tsF tzF (mm + kt) S = (own_S.mk S.l S.h (up S.s (tvF tt.toNatClampNeg).toNatClampNeg (tzF tt.toNatClampNeg)) S.w0 (up S.w1 (twF tt.toNatClampNeg).toNatClampNeg (tsF tt.toNatClampNeg))) := by rw [← htt0]; exact own_unv hc48 hq
        have FT2 : Fld Z h39 o0 Dn "trailLength" "I" (.int (Int32.ofNat (mm + kt))) := by have q := c40_2; rw [ett] at q; exact q
        exact ih (own_S.mk S.l S.h (up S.s (tvF tt.toNatClampNeg).toNatClampNeg (tzF tt.toNatClampNeg)) S.w0 (up S.w1 (twF tt.toNatClampNeg).toNatClampNeg (tsF tt.toNatClampNeg))) (tvF tt.toNatClampNeg) (tsF tt.toNatClampNeg) _ _ _ (by omega) (fun i h1 h2 => hok i h1 (by omega)) (by rw [← eS]; exact hk) X39 e39 N39 Z39 (hK.trans K39 (allS (Or.inl (by simp)) (allS (Or.inl (by simp)) (allS (Or.inl (by simp)) (allS (Or.inl (by simp)) (allS (Or.inl (by simp)) (allS (Or.inl (by simp)) all0))))))) c40_0 c40_1 FT2 c40_3 c40_4 c40_5 c40_6 c40_7 c40_8 c40_9 V39 c40_11 c40_12
theorem lpA {p : Program} {l : Launch} {e : Env} {R : Room} {s : State} {m : MethodId} {args : Array Value} {below : List Frame} {meth : Method} {c : Code} {cells0 slots0 : Nat} {P : Outcome → State → Prop} {Z : State} {a0 : Array Value} (hw : HW a0 Z) (hx : p.tables.exec = Jvm.exec) (hby : c.code = prog_22_method_15_code) (hZ : Z.Warmed39 s.vm) (hown : s.vm.findClass Dn = some m.cls) (o0 : Addr) (lA : Addr) (hA : Addr) (sA : Addr) (cA : Addr) (chA : Addr) (icA : Addr) (bA : Addr) (uA : Addr) (vA : Addr) (tvA : Addr) (twA : Addr) (tsA : Addr) (tzA : Addr) (nU : Nat) (nV : Nat) (tvF : Nat → Int32) (twF : Nat → Int32) (tsF : Nat → Int64) (tzF : Nat → Int32) (mm : Nat) (hne : own_ne o0 lA hA sA bA uA vA tvA twA tsA tzA) (n0 : Nat) (hg : n0 ≤ o0 ∧ n0 ≤ lA ∧ n0 ≤ hA ∧ n0 ≤ sA ∧ n0 ≤ uA ∧ n0 ≤ vA) (hs : Heap) :
    ∀ (kt : Nat) (S : own_S) (T0 : State) (h0 : Heap) (locs0 : List Loc), mm + kt < 1000 → (∀ i, mm ≤ i → i < mm + kt → own_ok tvF twF nU nV i) → (∀ T h locs Ls, Stand p l e R s m args below meth c T locs cells0 slots0 → T.heap = h → Fr n0 locs → n0 ≤ h.size → Keep hs h [o0, lA, hA, sA, uA, vA] → Exa Z h o0 Dn → Fld Z h o0 Dn "trailLength" "I" (.int (Int32.ofNat mm)) → Obj Z h o0 lA hA sA cA chA icA bA tvA twA tsA tzA → AV Z h tvA .int 1024 (fun k => .int (tvF k)) → AV Z h twA .int 1024 (fun k => .int (twF k)) → AV Z h tsA .long 1024 (fun k => .long (tsF k)) → AV Z h tzA .int 1024 (fun k => .int (tzF k)) → AV Z h bA (.array .long) 2 (own_b2 uA vA) → AV Z h lA .int 2 (fun k => .int ((own_uns tvF twF tsF tzF mm kt S).l k)) → AV Z h hA .int 2 (fun k => .int ((own_uns tvF twF tsF tzF mm kt S).h k)) → AV Z h sA .int 2 (fun k => .int ((own_uns tvF twF tsF tzF mm kt S).s k)) → AV Z h uA .long nU (fun k => .long ((own_uns tvF twF tsF tzF mm kt S).w0 k)) → AV Z h vA .long nV (fun k => .long ((own_uns tvF twF tsF tzF mm kt S).w1 k)) → Go p e below P (T.setTop (mkF m 108 Ls []))) → Stand p l e R s m args below meth c T0 locs0 cells0 slots0 → T0.heap = h0 → Fr n0 locs0 → n0 ≤ h0.size → Keep hs h0 [o0, lA, hA, sA, uA, vA] → Exa Z h0 o0 Dn → Obj Z h0 o0 lA hA sA cA chA icA bA tvA twA tsA tzA → Fld Z h0 o0 Dn "trailLength" "I" (.int (Int32.ofNat (mm + kt))) → AV Z h0 tvA .int 1024 (fun k => .int (tvF k)) → AV Z h0 twA .int 1024 (fun k => .int (twF k)) → AV Z h0 tsA .long 1024 (fun k => .long (tsF k)) → AV Z h0 tzA .int 1024 (fun k => .int (tzF k)) → AV Z h0 bA (.array .long) 2 (own_b2 uA vA) → AV Z h0 lA .int 2 (fun k => .int (S.l k)) → AV Z h0 hA .int 2 (fun k => .int (S.h k)) → AV Z h0 sA .int 2 (fun k => .int (S.s k)) → AV Z h0 uA .long nU (fun k => .long (S.w0 k)) → AV Z h0 vA .long nV (fun k => .long (S.w1 k)) → Go p e below P (T0.setTop (mkF m 0 #[.val (.ref o0), .val (.int (Int32.ofNat mm)), .unset, .unset, .unset] [])) := by
  obtain ⟨ne_o0_lA, ne_o0_hA, ne_o0_sA, ne_o0_bA, ne_o0_uA, ne_o0_vA, ne_o0_tvA, ne_o0_twA, ne_o0_tsA, ne_o0_tzA, ne_lA_hA, ne_lA_sA, ne_lA_bA, ne_lA_uA, ne_lA_vA, ne_lA_tvA, ne_lA_twA, ne_lA_tsA, ne_lA_tzA, ne_hA_sA, ne_hA_bA, ne_hA_uA, ne_hA_vA, ne_hA_tvA, ne_hA_twA, ne_hA_tsA, ne_hA_tzA, ne_sA_bA, ne_sA_uA, ne_sA_vA, ne_sA_tvA, ne_sA_twA, ne_sA_tsA, ne_sA_tzA, ne_bA_uA, ne_bA_vA, ne_bA_tvA, ne_bA_twA, ne_bA_tsA, ne_bA_tzA, ne_uA_vA, ne_uA_tvA, ne_uA_twA, ne_uA_tsA, ne_uA_tzA, ne_vA_tvA, ne_vA_twA, ne_vA_tsA, ne_vA_tzA, ne_tvA_twA, ne_tvA_tsA, ne_tvA_tzA, ne_twA_tsA, ne_twA_tzA, ne_tsA_tzA⟩ := id hne
  obtain ⟨g_o0, g_lA, g_hA, g_sA, g_uA, g_vA⟩ := id hg
  intro kt
  cases kt with
  | zero =>
    intro S T0 h0 locs0 hmk hok hk X0 e0 N0 Z0 hK fa0 fa1 fa2 fa3 fa4 fa5 fa6 fa7 fa8 fa9 fa10 fa11 fa12
    show Go p e below _ (T0.setTop (mkF m 0 #[sR o0, sI (Int32.ofNat mm), .unset, .unset, .unset] []))
    refine Vi (T0.setTop (mkF m 1 #[sR o0, sI (Int32.ofNat mm), .unset, .unset, .unset] [(.ref o0)])) (fun tZ kZ => ?_) ?_
    · refine XS.aloadN X0.here hx rfl (hb hby d14_0) rfl rfl ?_
      exact kZ
    refine GF X0 hx hZ hown (wq hw 57 rfl) e0 fa2 (hb hby d14_1) fun T1 X1 e1 => ?_
    refine Vi (T1.setTop (mkF m 108 #[sR o0, sI (Int32.ofNat mm), .unset, .unset, .unset] [])) (fun tZ kZ => ?_) ?_
    · refine XS.iloadN X1.here hx rfl (hb hby d14_4) rfl ?_
      refine XS.icmpYes X1.here hx rfl (pc0 := 5) (pc' := 108) rfl (hb hby d14_5) rfl (flt own_nge).2.2.2 (by decide) (by decide) ?_
      exact kZ
    exact hk _ _ _ _ X1 e1 N0 Z0 hK fa0 fa2 fa1 fa3 fa4 fa5 fa6 fa7 fa8 fa9 fa10 fa11 fa12
  | succ kt =>
    intro S T0 h0 locs0 hmk hok hk X0 e0 N0 Z0 hK fa0 fa1 fa2 fa3 fa4 fa5 fa6 fa7 fa8 fa9 fa10 fa11 fa12
    show Go p e below _ (T0.setTop (mkF m 0 #[sR o0, sI (Int32.ofNat mm), .unset, .unset, .unset] []))
    refine Vi (T0.setTop (mkF m 1 #[sR o0, sI (Int32.ofNat mm), .unset, .unset, .unset] [(.ref o0)])) (fun tZ kZ => ?_) ?_
    · refine XS.aloadN X0.here hx rfl (hb hby d14_0) rfl rfl ?_
      exact kZ
    refine GF X0 hx hZ hown (wq hw 57 rfl) e0 fa2 (hb hby d14_1) fun T1 X1 e1 => ?_
    refine Vi (T1.setTop (mkF m 10 #[sR o0, sI (Int32.ofNat mm), .unset, .unset, .unset] [(.ref o0), (.ref o0)])) (fun tZ kZ => ?_) ?_
    · refine XS.iloadN X1.here hx rfl (hb hby d14_4) rfl ?_
      refine XS.icmpNo X1.here hx rfl (hb hby d14_5) rfl (tlt (own_tlt hmk)).2.2.2 ?_
      refine XS.aloadN X1.here hx rfl (hb hby d14_8) rfl rfl ?_
      refine XS.dup X1.here hx rfl (hb hby d14_9) rfl rfl ?_
      exact kZ
    refine GF X1 hx hZ hown (wq hw 57 rfl) e1 fa2 (hb hby d14_10) fun T2 X2 e2 => ?_
    refine Vi (T2.setTop (mkF m 15 #[sR o0, sI (Int32.ofNat mm), .unset, .unset, .unset] [(.int ((Int32.ofNat (mm + (kt + 1))) - (1 : Int32))), (.ref o0)])) (fun tZ kZ => ?_) ?_
    · refine XS.iconst X2.here hx rfl (hb hby d14_13) ?_
      refine XS.isub X2.here hx rfl (hb hby d14_14) rfl ?_
      exact kZ
    obtain ⟨T3, h3, X3, e3, W3, st3⟩ := putF X2 hx hZ hown (host := "") (Or.inl (wq hw 57 rfl)) Via.refl e2 fa2 fa0 (Or.inl (wq hw 58 rfl)) (wq hw 2 rfl) (ty := .int) (by decide) rfl rfl (g := (mkF m 15 #[sR o0, sI (Int32.ofNat mm), .unset, .unset, .unset] [(.int ((Int32.ofNat (mm + (kt + 1))) - (1 : Int32))), (.ref o0)])) rfl rfl (hb hby d14_15)
    have N3 := Fr.snoc X3 N0 g_o0
    have c4_0 := fa0.wr W3
    have c4_1 := obj_w_trailLength hw fa1 W3
    have c4_3 := fa3.other W3 (Ne.symm ne_o0_tvA)
    have c4_4 := fa4.other W3 (Ne.symm ne_o0_twA)
    have c4_5 := fa5.other W3 (Ne.symm ne_o0_tsA)
    have c4_6 := fa6.other W3 (Ne.symm ne_o0_tzA)
    have c4_7 := fa7.other W3 (Ne.symm ne_o0_bA)
    have c4_8 := fa8.other W3 (Ne.symm ne_o0_lA)
    have c4_9 := fa9.other W3 (Ne.symm ne_o0_hA)
    have c4_10 := fa10.other W3 (Ne.symm ne_o0_sA)
    have c4_11 := fa11.other W3 (Ne.symm ne_o0_uA)
    have c4_12 := fa12.other W3 (Ne.symm ne_o0_vA)
    have K3 : Keep h0 h3 [o0, lA, hA, sA, uA, vA] := (Keep.refl h0 [o0, lA, hA, sA, uA, vA]).wr W3 (Or.inl (by simp))
    have Z3 := Nat.le_trans Z0 (Keep.of_wr W3).1
    have Fw3 := fa2.same W3
    refine Go.via st3 ?_
    obtain ⟨tt, ett⟩ : ∃ z, z = Int32.ofNat (mm + kt) := ⟨_, rfl⟩
    have htt0 : tt.toNatClampNeg = mm + kt := by rw [ett]; exact own_n (by omega)
    have htt : ¬ tt < 0 ∧ tt.toNatClampNeg < 1024 := ⟨by rw [ett]; exact own_nn (by omega), by omega⟩
    have FT : Fld Z h3 o0 Dn "trailLength" "I" (.int tt) := by have q := Fw3; rw [show mm + (kt + 1) = (mm + kt) + 1 from rfl, own_dec, ← ett] at q; exact q
    have hok1 : own_ok tvF twF nU nV tt.toNatClampNeg := by rw [htt0]; exact hok (mm + kt) (by omega) (by omega)
    refine Vi (T3.setTop (mkF m 19 #[sR o0, sI (Int32.ofNat mm), .unset, .unset, .unset] [(.ref o0)])) (fun tZ kZ => ?_) ?_
    · refine XS.aloadN X3.here hx rfl (hb hby d14_18) rfl rfl ?_
      exact kZ
    refine GF X3 hx hZ hown (wq hw 11 rfl) e3 (obj_trailVariable c4_1) (hb hby d14_19) fun T5 X5 e5 => ?_
    refine Vi (T5.setTop (mkF m 23 #[sR o0, sI (Int32.ofNat mm), .unset, .unset, .unset] [(.ref o0), (.ref tvA)])) (fun tZ kZ => ?_) ?_
    · refine XS.aloadN X5.here hx rfl (hb hby d14_22) rfl rfl ?_
      exact kZ
    refine GF X5 hx hZ hown (wq hw 57 rfl) e5 FT (hb hby d14_23) fun T6 X6 e6 => ?_
    refine Vi (T6.setTop (mkF m 29 #[sR o0, sI (Int32.ofNat mm), sI (tvF tt.toNatClampNeg), .unset, .unset] [(.ref o0)])) (fun tZ kZ => ?_) ?_
    · refine AV.iaload c4_3 X6 hx hZ e6 (j := tt) htt (hb hby d14_26) ?_
      refine XS.istoreN X6.here hx rfl (hb hby d14_27) rfl (l' := #[sR o0, sI (Int32.ofNat mm), sI (tvF tt.toNatClampNeg), .unset, .unset]) rfl ?_
      refine XS.aloadN X6.here hx rfl (hb hby d14_28) rfl rfl ?_
      exact kZ
    refine GF X6 hx hZ hown (wq hw 16 rfl) e6 (obj_trailSaved c4_1) (hb hby d14_29) fun T7 X7 e7 => ?_
    refine Vi (T7.setTop (mkF m 33 #[sR o0, sI (Int32.ofNat mm), sI (tvF tt.toNatClampNeg), .unset, .unset] [(.ref o0), (.ref tsA)])) (fun tZ kZ => ?_) ?_
    · refine XS.aloadN X7.here hx rfl (hb hby d14_32) rfl rfl ?_
      exact kZ
    refine GF X7 hx hZ hown (wq hw 57 rfl) e7 FT (hb hby d14_33) fun T8 X8 e8 => ?_
    refine Vi (T8.setTop (mkF m 39 #[sR o0, sI (Int32.ofNat mm), sI (tvF tt.toNatClampNeg), .val (.long (tsF tt.toNatClampNeg)), .second] [(.ref o0)])) (fun tZ kZ => ?_) ?_
    · refine AV.laload c4_5 X8 hx hZ e8 (j := tt) htt (hb hby d14_36) ?_
      refine XS.lstoreN X8.here hx rfl (hb hby d14_37) rfl (l' := #[sR o0, sI (Int32.ofNat mm), sI (tvF tt.toNatClampNeg), .val (.long (tsF tt.toNatClampNeg)), .second]) rfl ?_
      refine XS.aloadN X8.here hx rfl (hb hby d14_38) rfl rfl ?_
      exact kZ
    refine GF X8 hx hZ hown (wq hw 13 rfl) e8 (obj_trailWord c4_1) (hb hby d14_39) fun T9 X9 e9 => ?_
    refine Vi (T9.setTop (mkF m 43 #[sR o0, sI (Int32.ofNat mm), sI (tvF tt.toNatClampNeg), .val (.long (tsF tt.toNatClampNeg)), .second] [(.ref o0), (.ref twA)])) (fun tZ kZ => ?_) ?_
    · refine XS.aloadN X9.here hx rfl (hb hby d14_42) rfl rfl ?_
      exact kZ
    refine GF X9 hx hZ hown (wq hw 57 rfl) e9 FT (hb hby d14_43) fun T10 X10 e10 => ?_
    refine Vi (T10.setTop (mkF m 48 #[sR o0, sI (Int32.ofNat mm), sI (tvF tt.toNatClampNeg), .val (.long (tsF tt.toNatClampNeg)), .second] [(.int (-1)), (.int (twF tt.toNatClampNeg))])) (fun tZ kZ => ?_) ?_
    · refine AV.iaload c4_4 X10 hx hZ e10 (j := tt) htt (hb hby d14_46) ?_
      refine XS.iconst X10.here hx rfl (hb hby d14_47) ?_
      exact kZ
    by_cases hc48 : (twF tt.toNatClampNeg) = (-1 : Int32)
    · refine Vi (T10.setTop (mkF m 51 #[sR o0, sI (Int32.ofNat mm), sI (tvF tt.toNatClampNeg), .val (.long (tsF tt.toNatClampNeg)), .second] [])) (fun tZ kZ => ?_) ?_
      · show Steps p.tables e below (T10.setTop (mkF m 48 #[sR o0, sI (Int32.ofNat mm), sI (tvF tt.toNatClampNeg), .val (.long (tsF tt.toNatClampNeg)), .second] [(.int (-1)), (.int (twF tt.toNatClampNeg))])) _
        refine XS.icmpNo X10.here hx rfl (hb hby d14_48) rfl (teq hc48).2 ?_
        exact kZ
      refine Vi (T10.setTop (mkF m 52 #[sR o0, sI (Int32.ofNat mm), sI (tvF tt.toNatClampNeg), .val (.long (tsF tt.toNatClampNeg)), .second] [(.ref o0)])) (fun tZ kZ => ?_) ?_
      · refine XS.aloadN X10.here hx rfl (hb hby d14_51) rfl rfl ?_
        exact kZ
      refine GF X10 hx hZ hown (wq hw 37 rfl) e10 (obj_low c4_1) (hb hby d14_52) fun T11 X11 e11 => ?_
      refine Vi (T11.setTop (mkF m 61 #[sR o0, sI (Int32.ofNat mm), sI (tvF tt.toNatClampNeg), .val (.long (tsF tt.toNatClampNeg)), .second] [(.int (((tsF tt.toNatClampNeg) >>> ((32 : Int32) &&& 0x3f).toInt64).toInt32)), (.int (tvF tt.toNatClampNeg)), (.ref lA)])) (fun tZ kZ => ?_) ?_
      · refine XS.iloadN X11.here hx rfl (hb hby d14_55) rfl ?_
        refine XS.lloadN X11.here hx rfl (hb hby d14_56) rfl ?_
        refine XS.bipush X11.here hx rfl (hb hby d14_57) ?_
        refine XS.lshr X11.here hx rfl (hb hby d14_59) rfl ?_
        refine XS.l2i X11.here hx rfl (hb hby d14_60) rfl ?_
        exact kZ
      obtain ⟨T12, h12, X12, e12, W12, V12, st12⟩ := AV.iastore c4_8 X11 hx hZ e11 (j := (tvF tt.toNatClampNeg)) (own_okb hok1) (Ls := #[sR o0, sI (Int32.ofNat mm), sI (tvF tt.toNatClampNeg), .val (.long (tsF tt.toNatClampNeg)), .second]) (rest := []) (hb hby d14_61) (x := (((tsF tt.toNatClampNeg) >>> ((32 : Int32) &&& 0x3f).toInt64).toInt32))
      have N12 := Fr.snoc X12 N3 g_lA
      have c13_0 := c4_0.wr W12
      have c13_1 := obj_oth c4_1 W12 ne_o0_lA
      have c13_2 := FT.other W12 (Or.inl ne_o0_lA)
      have c13_3 := c4_3.other W12 (Ne.symm ne_lA_tvA)
      have c13_4 := c4_4.other W12 (Ne.symm ne_lA_twA)
      have c13_5 := c4_5.other W12 (Ne.symm ne_lA_tsA)
      have c13_6 := c4_6.other W12 (Ne.symm ne_lA_tzA)
      have c13_7 := c4_7.other W12 (Ne.symm ne_lA_bA)
      have c13_9 := c4_9.other W12 (Ne.symm ne_lA_hA)
      have c13_10 := c4_10.other W12 (Ne.symm ne_lA_sA)
      have c13_11 := c4_11.other W12 (Ne.symm ne_lA_uA)
      have c13_12 := c4_12.other W12 (Ne.symm ne_lA_vA)
      have K12 : Keep h0 h12 [o0, lA, hA, sA, uA, vA] := K3.wr W12 (Or.inl (by simp))
      have Z12 := Nat.le_trans Z3 (Keep.of_wr W12).1
      refine Go.via st12 ?_
      refine Vi (T12.setTop (mkF m 63 #[sR o0, sI (Int32.ofNat mm), sI (tvF tt.toNatClampNeg), .val (.long (tsF tt.toNatClampNeg)), .second] [(.ref o0)])) (fun tZ kZ => ?_) ?_
      · refine XS.aloadN X12.here hx rfl (hb hby d14_62) rfl rfl ?_
        exact kZ
      refine GF X12 hx hZ hown (wq hw 39 rfl) e12 (obj_high c13_1) (hb hby d14_63) fun T14 X14 e14 => ?_
      refine Vi (T14.setTop (mkF m 69 #[sR o0, sI (Int32.ofNat mm), sI (tvF tt.toNatClampNeg), .val (.long (tsF tt.toNatClampNeg)), .second] [(.int ((tsF tt.toNatClampNeg).toInt32)), (.int (tvF tt.toNatClampNeg)), (.ref hA)])) (fun tZ kZ => ?_) ?_
      · refine XS.iloadN X14.here hx rfl (hb hby d14_66) rfl ?_
        refine XS.lloadN X14.here hx rfl (hb hby d14_67) rfl ?_
        refine XS.l2i X14.here hx rfl (hb hby d14_68) rfl ?_
        exact kZ
      obtain ⟨T15, h15, X15, e15, W15, V15, st15⟩ := AV.iastore c13_9 X14 hx hZ e14 (j := (tvF tt.toNatClampNeg)) (own_okb hok1) (Ls := #[sR o0, sI (Int32.ofNat mm), sI (tvF tt.toNatClampNeg), .val (.long (tsF tt.toNatClampNeg)), .second]) (rest := []) (hb hby d14_69) (x := ((tsF tt.toNatClampNeg).toInt32))
      have N15 := Fr.snoc X15 N12 g_hA
      have c16_0 := c13_0.wr W15
      have c16_1 := obj_oth c13_1 W15 ne_o0_hA
      have c16_2 := c13_2.other W15 (Or.inl ne_o0_hA)
      have c16_3 := c13_3.other W15 (Ne.symm ne_hA_tvA)
      have c16_4 := c13_4.other W15 (Ne.symm ne_hA_twA)
      have c16_5 := c13_5.other W15 (Ne.symm ne_hA_tsA)
      have c16_6 := c13_6.other W15 (Ne.symm ne_hA_tzA)
      have c16_7 := c13_7.other W15 (Ne.symm ne_hA_bA)
      have c16_8 := V12.other W15 ne_lA_hA
      have c16_10 := c13_10.other W15 (Ne.symm ne_hA_sA)
      have c16_11 := c13_11.other W15 (Ne.symm ne_hA_uA)
      have c16_12 := c13_12.other W15 (Ne.symm ne_hA_vA)
      have K15 : Keep h0 h15 [o0, lA, hA, sA, uA, vA] := K12.wr W15 (Or.inl (by simp))
      have Z15 := Nat.le_trans Z12 (Keep.of_wr W15).1
      refine Go.via st15 ?_
      refine Vi (T15.setTop (mkF m 91 #[sR o0, sI (Int32.ofNat mm), sI (tvF tt.toNatClampNeg), .val (.long (tsF tt.toNatClampNeg)), .second] [(.ref o0)])) (fun tZ kZ => ?_) ?_
      · refine XS.goto X15.here hx rfl (pc0 := 70) (pc' := 90) rfl (hb hby d14_70) (by decide) (by decide) ?_
        refine XS.aloadN X15.here hx rfl (hb hby d14_90) rfl rfl ?_
        exact kZ
      refine GF X15 hx hZ hown (wq hw 35 rfl) e15 (obj_sizes c16_1) (hb hby d14_91) fun T17 X17 e17 => ?_
      refine Vi (T17.setTop (mkF m 96 #[sR o0, sI (Int32.ofNat mm), sI (tvF tt.toNatClampNeg), .val (.long (tsF tt.toNatClampNeg)), .second] [(.ref o0), (.int (tvF tt.toNatClampNeg)), (.ref sA)])) (fun tZ kZ => ?_) ?_
      · refine XS.iloadN X17.here hx rfl (hb hby d14_94) rfl ?_
        refine XS.aloadN X17.here hx rfl (hb hby d14_95) rfl rfl ?_
        exact kZ
      refine GF X17 hx hZ hown (wq hw 18 rfl) e17 (obj_trailSize c16_1) (hb hby d14_96) fun T18 X18 e18 => ?_
      refine Vi (T18.setTop (mkF m 100 #[sR o0, sI (Int32.ofNat mm), sI (tvF tt.toNatClampNeg), .val (.long (tsF tt.toNatClampNeg)), .second] [(.ref o0), (.ref tzA), (.int (tvF tt.toNatClampNeg)), (.ref sA)])) (fun tZ kZ => ?_) ?_
      · refine XS.aloadN X18.here hx rfl (hb hby d14_99) rfl rfl ?_
        exact kZ
      refine GF X18 hx hZ hown (wq hw 57 rfl) e18 c16_2 (hb hby d14_100) fun T19 X19 e19 => ?_
      refine Vi (T19.setTop (mkF m 104 #[sR o0, sI (Int32.ofNat mm), sI (tvF tt.toNatClampNeg), .val (.long (tsF tt.toNatClampNeg)), .second] [(.int (tzF tt.toNatClampNeg)), (.int (tvF tt.toNatClampNeg)), (.ref sA)])) (fun tZ kZ => ?_) ?_
      · refine AV.iaload c16_6 X19 hx hZ e19 (j := tt) htt (hb hby d14_103) ?_
        exact kZ
      obtain ⟨T20, h20, X20, e20, W20, V20, st20⟩ := AV.iastore c16_10 X19 hx hZ e19 (j := (tvF tt.toNatClampNeg)) (own_okb hok1) (Ls := #[sR o0, sI (Int32.ofNat mm), sI (tvF tt.toNatClampNeg), .val (.long (tsF tt.toNatClampNeg)), .second]) (rest := []) (hb hby d14_104) (x := (tzF tt.toNatClampNeg))
      have N20 := Fr.snoc X20 N15 g_sA
      have c21_0 := c16_0.wr W20
      have c21_1 := obj_oth c16_1 W20 ne_o0_sA
      have c21_2 := c16_2.other W20 (Or.inl ne_o0_sA)
      have c21_3 := c16_3.other W20 (Ne.symm ne_sA_tvA)
      have c21_4 := c16_4.other W20 (Ne.symm ne_sA_twA)
      have c21_5 := c16_5.other W20 (Ne.symm ne_sA_tsA)
      have c21_6 := c16_6.other W20 (Ne.symm ne_sA_tzA)
      have c21_7 := c16_7.other W20 (Ne.symm ne_sA_bA)
      have c21_8 := c16_8.other W20 ne_lA_sA
      have c21_9 := V15.other W20 ne_hA_sA
      have c21_11 := c16_11.other W20 (Ne.symm ne_sA_uA)
      have c21_12 := c16_12.other W20 (Ne.symm ne_sA_vA)
      have K20 : Keep h0 h20 [o0, lA, hA, sA, uA, vA] := K15.wr W20 (Or.inl (by simp))
      have Z20 := Nat.le_trans Z15 (Keep.of_wr W20).1
      refine Go.via st20 ?_
      refine Vi (T20.setTop (mkF m 0 #[sR o0, sI (Int32.ofNat mm), sI (tvF tt.toNatClampNeg), .val (.long (tsF tt.toNatClampNeg)), .second] [])) (fun tZ kZ => ?_) ?_
      · refine XS.goto X20.here hx rfl (pc0 := 105) (pc' := 0) rfl (hb hby d14_105) (by decide) (by decide) ?_
        exact kZ
      have eS : own_un tvF twF tsF tzF (mm + kt) S = (own_S.mk (up S.l (tvF tt.toNatClampNeg).toNatClampNeg (((tsF tt.toNatClampNeg) >>> ((32 : Int32) &&& 0x3f).toInt64).toInt32)) (up S.h (tvF tt.toNatClampNeg).toNatClampNeg ((tsF tt.toNatClampNeg).toInt32)) (up S.s (tvF tt.toNatClampNeg).toNatClampNeg (tzF tt.toNatClampNeg)) S.w0 S.w1) := by rw [← htt0]; exact own_unl hc48
      have FT2 : Fld Z h20 o0 Dn "trailLength" "I" (.int (Int32.ofNat (mm + kt))) := by have q := c21_2; rw [ett] at q; exact q
      exact lpB hw hx hby hZ hown o0 lA hA sA cA chA icA bA uA vA tvA twA tsA tzA nU nV tvF twF tsF tzF mm hne n0 hg hs kt (own_S.mk (up S.l (tvF tt.toNatClampNeg).toNatClampNeg (((tsF tt.toNatClampNeg) >>> ((32 : Int32) &&& 0x3f).toInt64).toInt32)) (up S.h (tvF tt.toNatClampNeg).toNatClampNeg ((tsF tt.toNatClampNeg).toInt32)) (up S.s (tvF tt.toNatClampNeg).toNatClampNeg (tzF tt.toNatClampNeg)) S.w0 S.w1) (tvF tt.toNatClampNeg) (tsF tt.toNatClampNeg) _ _ _ (by omega) (fun i h1 h2 => hok i h1 (by omega)) (by rw [← eS]; exact hk) X20 e20 N20 Z20 (hK.trans K20 (allS (Or.inl (by simp)) (allS (Or.inl (by simp)) (allS (Or.inl (by simp)) (allS (Or.inl (by simp)) (allS (Or.inl (by simp)) (allS (Or.inl (by simp)) all0))))))) c21_0 c21_1 FT2 c21_3 c21_4 c21_5 c21_6 c21_7 c21_8 c21_9 V20 c21_11 c21_12
    · refine Vi (T10.setTop (mkF m 73 #[sR o0, sI (Int32.ofNat mm), sI (tvF tt.toNatClampNeg), .val (.long (tsF tt.toNatClampNeg)), .second] [])) (fun tZ kZ => ?_) ?_
      · show Steps p.tables e below (T10.setTop (mkF m 48 #[sR o0, sI (Int32.ofNat mm), sI (tvF tt.toNatClampNeg), .val (.long (tsF tt.toNatClampNeg)), .second] [(.int (-1)), (.int (twF tt.toNatClampNeg))])) _
        refine XS.icmpYes X10.here hx rfl (pc0 := 48) (pc' := 73) rfl (hb hby d14_48) rfl (feq hc48).2 (by decide) (by decide) ?_
        exact kZ
      refine Vi (T10.setTop (mkF m 74 #[sR o0, sI (Int32.ofNat mm), sI (tvF tt.toNatClampNeg), .val (.long (tsF tt.toNatClampNeg)), .second] [(.ref o0)])) (fun tZ kZ => ?_) ?_
      · refine XS.aloadN X10.here hx rfl (hb hby d14_73) rfl rfl ?_
        exact kZ
      refine GF X10 hx hZ hown (wq hw 33 rfl) e10 (obj_bits c4_1) (hb hby d14_74) fun T22 X22 e22 => ?_
      refine Vi (T22.setTop (mkF m 78 #[sR o0, sI (Int32.ofNat mm), sI (tvF tt.toNatClampNeg), .val (.long (tsF tt.toNatClampNeg)), .second] [(.int (tvF tt.toNatClampNeg)), (.ref bA)])) (fun tZ kZ => ?_) ?_
      · refine XS.iloadN X22.here hx rfl (hb hby d14_77) rfl ?_
        exact kZ
      rcases hok1.1 with hq | hq
      · show Go p e below _ (T22.setTop (mkF m 78 #[sR o0, sI (Int32.ofNat mm), sI (tvF tt.toNatClampNeg), .val (.long (tsF tt.toNatClampNeg)), .second] [(.int (tvF tt.toNatClampNeg)), (.ref bA)]))
        refine Vi (T22.setTop (mkF m 80 #[sR o0, sI (Int32.ofNat mm), sI (tvF tt.toNatClampNeg), .val (.long (tsF tt.toNatClampNeg)), .second] [(.ref o0), (.ref uA)])) (fun tZ kZ => ?_) ?_
        · refine AV.aaload c4_7 rfl X22 hx hZ e22 (j := (tvF tt.toNatClampNeg)) (own_okb hok1) (hb hby d14_78) ?_
          rw [own_b2q0 hq]
          refine XS.aloadN X22.here hx rfl (hb hby d14_79) rfl rfl ?_
          exact kZ
        refine GF X22 hx hZ hown (wq hw 13 rfl) e22 (obj_trailWord c4_1) (hb hby d14_80) fun T23 X23 e23 => ?_
        refine Vi (T23.setTop (mkF m 84 #[sR o0, sI (Int32.ofNat mm), sI (tvF tt.toNatClampNeg), .val (.long (tsF tt.toNatClampNeg)), .second] [(.ref o0), (.ref twA), (.ref uA)])) (fun tZ kZ => ?_) ?_
        · refine XS.aloadN X23.here hx rfl (hb hby d14_83) rfl rfl ?_
          exact kZ
        refine GF X23 hx hZ hown (wq hw 57 rfl) e23 FT (hb hby d14_84) fun T24 X24 e24 => ?_
        refine Vi (T24.setTop (mkF m 89 #[sR o0, sI (Int32.ofNat mm), sI (tvF tt.toNatClampNeg), .val (.long (tsF tt.toNatClampNeg)), .second] [(.long (tsF tt.toNatClampNeg)), (.int (twF tt.toNatClampNeg)), (.ref uA)])) (fun tZ kZ => ?_) ?_
        · refine AV.iaload c4_4 X24 hx hZ e24 (j := tt) htt (hb hby d14_87) ?_
          refine XS.lloadN X24.here hx rfl (hb hby d14_88) rfl ?_
          exact kZ
        obtain ⟨T25, h25, X25, e25, W25, V25, st25⟩ := AV.lastore c4_11 X24 hx hZ e24 (j := (twF tt.toNatClampNeg)) (own_oku hok1 hc48 hq) (Ls := #[sR o0, sI (Int32.ofNat mm), sI (tvF tt.toNatClampNeg), .val (.long (tsF tt.toNatClampNeg)), .second]) (rest := []) (hb hby d14_89) (x := (tsF tt.toNatClampNeg))
        have N25 := Fr.snoc X25 N3 g_uA
        have c26_0 := c4_0.wr W25
        have c26_1 := obj_oth c4_1 W25 ne_o0_uA
        have c26_2 := FT.other W25 (Or.inl ne_o0_uA)
        have c26_3 := c4_3.other W25 (Ne.symm ne_uA_tvA)
        have c26_4 := c4_4.other W25 (Ne.symm ne_uA_twA)
        have c26_5 := c4_5.other W25 (Ne.symm ne_uA_tsA)
        have c26_6 := c4_6.other W25 (Ne.symm ne_uA_tzA)
        have c26_7 := c4_7.other W25 ne_bA_uA
        have c26_8 := c4_8.other W25 ne_lA_uA
        have c26_9 := c4_9.other W25 ne_hA_uA
        have c26_10 := c4_10.other W25 ne_sA_uA
        have c26_12 := c4_12.other W25 (Ne.symm ne_uA_vA)
        have K25 : Keep h0 h25 [o0, lA, hA, sA, uA, vA] := K3.wr W25 (Or.inl (by simp))
        have Z25 := Nat.le_trans Z3 (Keep.of_wr W25).1
        refine Go.via st25 ?_
        refine Vi (T25.setTop (mkF m 91 #[sR o0, sI (Int32.ofNat mm), sI (tvF tt.toNatClampNeg), .val (.long (tsF tt.toNatClampNeg)), .second] [(.ref o0)])) (fun tZ kZ => ?_) ?_
        · refine XS.aloadN X25.here hx rfl (hb hby d14_90) rfl rfl ?_
          exact kZ
        refine GF X25 hx hZ hown (wq hw 35 rfl) e25 (obj_sizes c26_1) (hb hby d14_91) fun T27 X27 e27 => ?_
        refine Vi (T27.setTop (mkF m 96 #[sR o0, sI (Int32.ofNat mm), sI (tvF tt.toNatClampNeg), .val (.long (tsF tt.toNatClampNeg)), .second] [(.ref o0), (.int (tvF tt.toNatClampNeg)), (.ref sA)])) (fun tZ kZ => ?_) ?_
        · refine XS.iloadN X27.here hx rfl (hb hby d14_94) rfl ?_
          refine XS.aloadN X27.here hx rfl (hb hby d14_95) rfl rfl ?_
          exact kZ
        refine GF X27 hx hZ hown (wq hw 18 rfl) e27 (obj_trailSize c26_1) (hb hby d14_96) fun T28 X28 e28 => ?_
        refine Vi (T28.setTop (mkF m 100 #[sR o0, sI (Int32.ofNat mm), sI (tvF tt.toNatClampNeg), .val (.long (tsF tt.toNatClampNeg)), .second] [(.ref o0), (.ref tzA), (.int (tvF tt.toNatClampNeg)), (.ref sA)])) (fun tZ kZ => ?_) ?_
        · refine XS.aloadN X28.here hx rfl (hb hby d14_99) rfl rfl ?_
          exact kZ
        refine GF X28 hx hZ hown (wq hw 57 rfl) e28 c26_2 (hb hby d14_100) fun T29 X29 e29 => ?_
        refine Vi (T29.setTop (mkF m 104 #[sR o0, sI (Int32.ofNat mm), sI (tvF tt.toNatClampNeg), .val (.long (tsF tt.toNatClampNeg)), .second] [(.int (tzF tt.toNatClampNeg)), (.int (tvF tt.toNatClampNeg)), (.ref sA)])) (fun tZ kZ => ?_) ?_
        · refine AV.iaload c26_6 X29 hx hZ e29 (j := tt) htt (hb hby d14_103) ?_
          exact kZ
        obtain ⟨T30, h30, X30, e30, W30, V30, st30⟩ := AV.iastore c26_10 X29 hx hZ e29 (j := (tvF tt.toNatClampNeg)) (own_okb hok1) (Ls := #[sR o0, sI (Int32.ofNat mm), sI (tvF tt.toNatClampNeg), .val (.long (tsF tt.toNatClampNeg)), .second]) (rest := []) (hb hby d14_104) (x := (tzF tt.toNatClampNeg))
        have N30 := Fr.snoc X30 N25 g_sA
        have c31_0 := c26_0.wr W30
        have c31_1 := obj_oth c26_1 W30 ne_o0_sA
        have c31_2 := c26_2.other W30 (Or.inl ne_o0_sA)
        have c31_3 := c26_3.other W30 (Ne.symm ne_sA_tvA)
        have c31_4 := c26_4.other W30 (Ne.symm ne_sA_twA)
        have c31_5 := c26_5.other W30 (Ne.symm ne_sA_tsA)
        have c31_6 := c26_6.other W30 (Ne.symm ne_sA_tzA)
        have c31_7 := c26_7.other W30 (Ne.symm ne_sA_bA)
        have c31_8 := c26_8.other W30 ne_lA_sA
        have c31_9 := c26_9.other W30 ne_hA_sA
        have c31_11 := V25.other W30 (Ne.symm ne_sA_uA)
        have c31_12 := c26_12.other W30 (Ne.symm ne_sA_vA)
        have K30 : Keep h0 h30 [o0, lA, hA, sA, uA, vA] := K25.wr W30 (Or.inl (by simp))
        have Z30 := Nat.le_trans Z25 (Keep.of_wr W30).1
        refine Go.via st30 ?_
        refine Vi (T30.setTop (mkF m 0 #[sR o0, sI (Int32.ofNat mm), sI (tvF tt.toNatClampNeg), .val (.long (tsF tt.toNatClampNeg)), .second] [])) (fun tZ kZ => ?_) ?_
        · refine XS.goto X30.here hx rfl (pc0 := 105) (pc' := 0) rfl (hb hby d14_105) (by decide) (by decide) ?_
          exact kZ
        have eS : own_un tvF twF tsF tzF (mm + kt) S = (own_S.mk S.l S.h (up S.s (tvF tt.toNatClampNeg).toNatClampNeg (tzF tt.toNatClampNeg)) (up S.w0 (twF tt.toNatClampNeg).toNatClampNeg (tsF tt.toNatClampNeg)) S.w1) := by rw [← htt0]; exact own_unu hc48 hq
        have FT2 : Fld Z h30 o0 Dn "trailLength" "I" (.int (Int32.ofNat (mm + kt))) := by have q := c31_2; rw [ett] at q; exact q
        exact lpB hw hx hby hZ hown o0 lA hA sA cA chA icA bA uA vA tvA twA tsA tzA nU nV tvF twF tsF tzF mm hne n0 hg hs kt (own_S.mk S.l S.h (up S.s (tvF tt.toNatClampNeg).toNatClampNeg (tzF tt.toNatClampNeg)) (up S.w0 (twF tt.toNatClampNeg).toNatClampNeg (tsF tt.toNatClampNeg)) S.w1) (tvF tt.toNatClampNeg) (tsF tt.toNatClampNeg) _ _ _ (by omega) (fun i h1 h2 => hok i h1 (by omega)) (by rw [← eS]; exact hk) X30 e30 N30 Z30 (hK.trans K30 (allS (Or.inl (by simp)) (allS (Or.inl (by simp)) (allS (Or.inl (by simp)) (allS (Or.inl (by simp)) (allS (Or.inl (by simp)) (allS (Or.inl (by simp)) all0))))))) c31_0 c31_1 FT2 c31_3 c31_4 c31_5 c31_6 c31_7 c31_8 c31_9 V30 c31_11 c31_12
      · show Go p e below _ (T22.setTop (mkF m 78 #[sR o0, sI (Int32.ofNat mm), sI (tvF tt.toNatClampNeg), .val (.long (tsF tt.toNatClampNeg)), .second] [(.int (tvF tt.toNatClampNeg)), (.ref bA)]))
        refine Vi (T22.setTop (mkF m 80 #[sR o0, sI (Int32.ofNat mm), sI (tvF tt.toNatClampNeg), .val (.long (tsF tt.toNatClampNeg)), .second] [(.ref o0), (.ref vA)])) (fun tZ kZ => ?_) ?_
        · refine AV.aaload c4_7 rfl X22 hx hZ e22 (j := (tvF tt.toNatClampNeg)) (own_okb hok1) (hb hby d14_78) ?_
          rw [own_b2q1 hq]
          refine XS.aloadN X22.here hx rfl (hb hby d14_79) rfl rfl ?_
          exact kZ
        refine GF X22 hx hZ hown (wq hw 13 rfl) e22 (obj_trailWord c4_1) (hb hby d14_80) fun T32 X32 e32 => ?_
        refine Vi (T32.setTop (mkF m 84 #[sR o0, sI (Int32.ofNat mm), sI (tvF tt.toNatClampNeg), .val (.long (tsF tt.toNatClampNeg)), .second] [(.ref o0), (.ref twA), (.ref vA)])) (fun tZ kZ => ?_) ?_
        · refine XS.aloadN X32.here hx rfl (hb hby d14_83) rfl rfl ?_
          exact kZ
        refine GF X32 hx hZ hown (wq hw 57 rfl) e32 FT (hb hby d14_84) fun T33 X33 e33 => ?_
        refine Vi (T33.setTop (mkF m 89 #[sR o0, sI (Int32.ofNat mm), sI (tvF tt.toNatClampNeg), .val (.long (tsF tt.toNatClampNeg)), .second] [(.long (tsF tt.toNatClampNeg)), (.int (twF tt.toNatClampNeg)), (.ref vA)])) (fun tZ kZ => ?_) ?_
        · refine AV.iaload c4_4 X33 hx hZ e33 (j := tt) htt (hb hby d14_87) ?_
          refine XS.lloadN X33.here hx rfl (hb hby d14_88) rfl ?_
          exact kZ
        obtain ⟨T34, h34, X34, e34, W34, V34, st34⟩ := AV.lastore c4_12 X33 hx hZ e33 (j := (twF tt.toNatClampNeg)) (own_okv hok1 hc48 hq) (Ls := #[sR o0, sI (Int32.ofNat mm), sI (tvF tt.toNatClampNeg), .val (.long (tsF tt.toNatClampNeg)), .second]) (rest := []) (hb hby d14_89) (x := (tsF tt.toNatClampNeg))
        have N34 := Fr.snoc X34 N3 g_vA
        have c35_0 := c4_0.wr W34
        have c35_1 := obj_oth c4_1 W34 ne_o0_vA
        have c35_2 := FT.other W34 (Or.inl ne_o0_vA)
        have c35_3 := c4_3.other W34 (Ne.symm ne_vA_tvA)
        have c35_4 := c4_4.other W34 (Ne.symm ne_vA_twA)
        have c35_5 := c4_5.other W34 (Ne.symm ne_vA_tsA)
        have c35_6 := c4_6.other W34 (Ne.symm ne_vA_tzA)
        have c35_7 := c4_7.other W34 ne_bA_vA
        have c35_8 := c4_8.other W34 ne_lA_vA
        have c35_9 := c4_9.other W34 ne_hA_vA
        have c35_10 := c4_10.other W34 ne_sA_vA
        have c35_11 := c4_11.other W34 ne_uA_vA
        have K34 : Keep h0 h34 [o0, lA, hA, sA, uA, vA] := K3.wr W34 (Or.inl (by simp))
        have Z34 := Nat.le_trans Z3 (Keep.of_wr W34).1
        refine Go.via st34 ?_
        refine Vi (T34.setTop (mkF m 91 #[sR o0, sI (Int32.ofNat mm), sI (tvF tt.toNatClampNeg), .val (.long (tsF tt.toNatClampNeg)), .second] [(.ref o0)])) (fun tZ kZ => ?_) ?_
        · refine XS.aloadN X34.here hx rfl (hb hby d14_90) rfl rfl ?_
          exact kZ
        refine GF X34 hx hZ hown (wq hw 35 rfl) e34 (obj_sizes c35_1) (hb hby d14_91) fun T36 X36 e36 => ?_
        refine Vi (T36.setTop (mkF m 96 #[sR o0, sI (Int32.ofNat mm), sI (tvF tt.toNatClampNeg), .val (.long (tsF tt.toNatClampNeg)), .second] [(.ref o0), (.int (tvF tt.toNatClampNeg)), (.ref sA)])) (fun tZ kZ => ?_) ?_
        · refine XS.iloadN X36.here hx rfl (hb hby d14_94) rfl ?_
          refine XS.aloadN X36.here hx rfl (hb hby d14_95) rfl rfl ?_
          exact kZ
        refine GF X36 hx hZ hown (wq hw 18 rfl) e36 (obj_trailSize c35_1) (hb hby d14_96) fun T37 X37 e37 => ?_
        refine Vi (T37.setTop (mkF m 100 #[sR o0, sI (Int32.ofNat mm), sI (tvF tt.toNatClampNeg), .val (.long (tsF tt.toNatClampNeg)), .second] [(.ref o0), (.ref tzA), (.int (tvF tt.toNatClampNeg)), (.ref sA)])) (fun tZ kZ => ?_) ?_
        · refine XS.aloadN X37.here hx rfl (hb hby d14_99) rfl rfl ?_
          exact kZ
        refine GF X37 hx hZ hown (wq hw 57 rfl) e37 c35_2 (hb hby d14_100) fun T38 X38 e38 => ?_
        refine Vi (T38.setTop (mkF m 104 #[sR o0, sI (Int32.ofNat mm), sI (tvF tt.toNatClampNeg), .val (.long (tsF tt.toNatClampNeg)), .second] [(.int (tzF tt.toNatClampNeg)), (.int (tvF tt.toNatClampNeg)), (.ref sA)])) (fun tZ kZ => ?_) ?_
        · refine AV.iaload c35_6 X38 hx hZ e38 (j := tt) htt (hb hby d14_103) ?_
          exact kZ
        obtain ⟨T39, h39, X39, e39, W39, V39, st39⟩ := AV.iastore c35_10 X38 hx hZ e38 (j := (tvF tt.toNatClampNeg)) (own_okb hok1) (Ls := #[sR o0, sI (Int32.ofNat mm), sI (tvF tt.toNatClampNeg), .val (.long (tsF tt.toNatClampNeg)), .second]) (rest := []) (hb hby d14_104) (x := (tzF tt.toNatClampNeg))
        have N39 := Fr.snoc X39 N34 g_sA
        have c40_0 := c35_0.wr W39
        have c40_1 := obj_oth c35_1 W39 ne_o0_sA
        have c40_2 := c35_2.other W39 (Or.inl ne_o0_sA)
        have c40_3 := c35_3.other W39 (Ne.symm ne_sA_tvA)
        have c40_4 := c35_4.other W39 (Ne.symm ne_sA_twA)
        have c40_5 := c35_5.other W39 (Ne.symm ne_sA_tsA)
        have c40_6 := c35_6.other W39 (Ne.symm ne_sA_tzA)
        have c40_7 := c35_7.other W39 (Ne.symm ne_sA_bA)
        have c40_8 := c35_8.other W39 ne_lA_sA
        have c40_9 := c35_9.other W39 ne_hA_sA
        have c40_11 := c35_11.other W39 (Ne.symm ne_sA_uA)
        have c40_12 := V34.other W39 (Ne.symm ne_sA_vA)
        have K39 : Keep h0 h39 [o0, lA, hA, sA, uA, vA] := K34.wr W39 (Or.inl (by simp))
        have Z39 := Nat.le_trans Z34 (Keep.of_wr W39).1
        refine Go.via st39 ?_
        refine Vi (T39.setTop (mkF m 0 #[sR o0, sI (Int32.ofNat mm), sI (tvF tt.toNatClampNeg), .val (.long (tsF tt.toNatClampNeg)), .second] [])) (fun tZ kZ => ?_) ?_
        · refine XS.goto X39.here hx rfl (pc0 := 105) (pc' := 0) rfl (hb hby d14_105) (by decide) (by decide) ?_
          exact kZ
        have eS : own_un tvF twF tsF tzF (mm + kt) S = (own_S.mk S.l S.h (up S.s (tvF tt.toNatClampNeg).toNatClampNeg (tzF tt.toNatClampNeg)) S.w0 (up S.w1 (twF tt.toNatClampNeg).toNatClampNeg (tsF tt.toNatClampNeg))) := by rw [← htt0]; exact own_unv hc48 hq
        have FT2 : Fld Z h39 o0 Dn "trailLength" "I" (.int (Int32.ofNat (mm + kt))) := by have q := c40_2; rw [ett] at q; exact q
        exact lpB hw hx hby hZ hown o0 lA hA sA cA chA icA bA uA vA tvA twA tsA tzA nU nV tvF twF tsF tzF mm hne n0 hg hs kt (own_S.mk S.l S.h (up S.s (tvF tt.toNatClampNeg).toNatClampNeg (tzF tt.toNatClampNeg)) S.w0 (up S.w1 (twF tt.toNatClampNeg).toNatClampNeg (tsF tt.toNatClampNeg))) (tvF tt.toNatClampNeg) (tsF tt.toNatClampNeg) _ _ _ (by omega) (fun i h1 h2 => hok i h1 (by omega)) (by rw [← eS]; exact hk) X39 e39 N39 Z39 (hK.trans K39 (allS (Or.inl (by simp)) (allS (Or.inl (by simp)) (allS (Or.inl (by simp)) (allS (Or.inl (by simp)) (allS (Or.inl (by simp)) (allS (Or.inl (by simp)) all0))))))) c40_0 c40_1 FT2 c40_3 c40_4 c40_5 c40_6 c40_7 c40_8 c40_9 V39 c40_11 c40_12
theorem d14_108 : DC B14 108 (.return_) 1 := by decide +kernel
def Q14 (Z : State) (o0 : Addr) (lA : Addr) (hA : Addr) (sA : Addr) (cA : Addr) (chA : Addr) (icA : Addr) (bA : Addr) (uA : Addr) (vA : Addr) (tvA : Addr) (twA : Addr) (tsA : Addr) (tzA : Addr) (nU : Nat) (nV : Nat) (tvF : Nat → Int32) (twF : Nat → Int32) (tsF : Nat → Int64) (tzF : Nat → Int32) (lF : Nat → Int32) (hF : Nat → Int32) (sF : Nat → Int32) (uF : Nat → Int64) (vF : Nat → Int64) (mm : Nat) (kk : Nat) (h0 : Heap) (n0 : Nat) (v : Option Value) (h : Heap) (L : List Loc) : Prop := v = none ∧ Fr n0 L ∧ Keep h0 h [o0, lA, hA, sA, uA, vA] ∧ Exa Z h o0 Dn ∧ Obj Z h o0 lA hA sA cA chA icA bA tvA twA tsA tzA ∧ Fld Z h o0 Dn "trailLength" "I" (.int (Int32.ofNat mm)) ∧ AV Z h tvA .int 1024 (fun k => .int (tvF k)) ∧ AV Z h twA .int 1024 (fun k => .int (twF k)) ∧ AV Z h tsA .long 1024 (fun k => .long (tsF k)) ∧ AV Z h tzA .int 1024 (fun k => .int (tzF k)) ∧ AV Z h bA (.array .long) 2 (own_b2 uA vA) ∧ AV Z h lA .int 2 (fun k => .int ((own_uns tvF twF tsF tzF mm kk (own_S.mk lF hF sF uF vF)).l k)) ∧ AV Z h hA .int 2 (fun k => .int ((own_uns tvF twF tsF tzF mm kk (own_S.mk lF hF sF uF vF)).h k)) ∧ AV Z h sA .int 2 (fun k => .int ((own_uns tvF twF tsF tzF mm kk (own_S.mk lF hF sF uF vF)).s k)) ∧ AV Z h uA .long nU (fun k => .long ((own_uns tvF twF tsF tzF mm kk (own_S.mk lF hF sF uF vF)).w0 k)) ∧ AV Z h vA .long nV (fun k => .long ((own_uns tvF twF tsF tzF mm kk (own_S.mk lF hF sF uF vF)).w1 k))
theorem ef_14_aa (m : MethodId) (x0 : Addr) (x1 : Int32) : entryFrame m #[(.ref x0), (.int x1)] 5 = mkF m 0 #[.val (.ref x0), .val (.int x1), .unset, .unset, .unset] [] := by first | (simp [entryFrame, mkF, argsToLocals, Value.category]; done) | rfl
theorem rm14 (l : Launch) (Z : State) (a0 : Array Value) (hw : HW a0 Z) (ws : List Jvm.Cond) (o0 : Addr) (lA : Addr) (hA : Addr) (sA : Addr) (cA : Addr) (chA : Addr) (icA : Addr) (bA : Addr) (uA : Addr) (vA : Addr) (tvA : Addr) (twA : Addr) (tsA : Addr) (tzA : Addr) (nU : Nat) (nV : Nat) (tvF : Nat → Int32) (twF : Nat → Int32) (tsF : Nat → Int64) (tzF : Nat → Int32) (lF : Nat → Int32) (hF : Nat → Int32) (sF : Nat → Int32) (uF : Nat → Int64) (vF : Nat → Int64) (mm : Nat) (kk : Nat) (h0 : Heap) (n0 : Nat) (Z0 : n0 ≤ h0.size) (ha0 : Exa Z h0 o0 Dn) (ha1 : Obj Z h0 o0 lA hA sA cA chA icA bA tvA twA tsA tzA) (ha2 : Fld Z h0 o0 Dn "trailLength" "I" (.int (Int32.ofNat (mm + kk)))) (ha3 : AV Z h0 tvA .int 1024 (fun k => .int (tvF k))) (ha4 : AV Z h0 twA .int 1024 (fun k => .int (twF k))) (ha5 : AV Z h0 tsA .long 1024 (fun k => .long (tsF k))) (ha6 : AV Z h0 tzA .int 1024 (fun k => .int (tzF k))) (ha7 : AV Z h0 bA (.array .long) 2 (own_b2 uA vA)) (ha8 : AV Z h0 lA .int 2 (fun k => .int (lF k))) (ha9 : AV Z h0 hA .int 2 (fun k => .int (hF k))) (ha10 : AV Z h0 sA .int 2 (fun k => .int (sF k))) (ha11 : AV Z h0 uA .long nU (fun k => .long (uF k))) (ha12 : AV Z h0 vA .long nV (fun k => .long (vF k))) (ha13 : n0 ≤ o0) (ha14 : n0 ≤ lA) (ha15 : n0 ≤ hA) (ha16 : n0 ≤ sA) (ha17 : n0 ≤ uA) (ha18 : n0 ≤ vA) (hne_o0_lA : o0 ≠ lA) (hne_o0_hA : o0 ≠ hA) (hne_o0_sA : o0 ≠ sA) (hne_o0_bA : o0 ≠ bA) (hne_o0_uA : o0 ≠ uA) (hne_o0_vA : o0 ≠ vA) (hne_o0_tvA : o0 ≠ tvA) (hne_o0_twA : o0 ≠ twA) (hne_o0_tsA : o0 ≠ tsA) (hne_o0_tzA : o0 ≠ tzA) (hne_lA_hA : lA ≠ hA) (hne_lA_sA : lA ≠ sA) (hne_lA_bA : lA ≠ bA) (hne_lA_uA : lA ≠ uA) (hne_lA_vA : lA ≠ vA) (hne_lA_tvA : lA ≠ tvA) (hne_lA_twA : lA ≠ twA) (hne_lA_tsA : lA ≠ tsA) (hne_lA_tzA : lA ≠ tzA) (hne_hA_sA : hA ≠ sA) (hne_hA_bA : hA ≠ bA) (hne_hA_uA : hA ≠ uA) (hne_hA_vA : hA ≠ vA) (hne_hA_tvA : hA ≠ tvA) (hne_hA_twA : hA ≠ twA) (hne_hA_tsA : hA ≠ tsA) (hne_hA_tzA : hA ≠ tzA) (hne_sA_bA : sA ≠ bA) (hne_sA_uA : sA ≠ uA) (hne_sA_vA : sA ≠ vA) (hne_sA_tvA : sA ≠ tvA) (hne_sA_twA : sA ≠ twA) (hne_sA_tsA : sA ≠ tsA) (hne_sA_tzA : sA ≠ tzA) (hne_bA_uA : bA ≠ uA) (hne_bA_vA : bA ≠ vA) (hne_bA_tvA : bA ≠ tvA) (hne_bA_twA : bA ≠ twA) (hne_bA_tsA : bA ≠ tsA) (hne_bA_tzA : bA ≠ tzA) (hne_uA_vA : uA ≠ vA) (hne_uA_tvA : uA ≠ tvA) (hne_uA_twA : uA ≠ twA) (hne_uA_tsA : uA ≠ tsA) (hne_uA_tzA : uA ≠ tzA) (hne_vA_tvA : vA ≠ tvA) (hne_vA_twA : vA ≠ twA) (hne_vA_tsA : vA ≠ tsA) (hne_vA_tzA : vA ≠ tzA) (hne_tvA_twA : tvA ≠ twA) (hne_tvA_tsA : tvA ≠ tsA) (hne_tvA_tzA : tvA ≠ tzA) (hne_twA_tsA : twA ≠ tsA) (hne_twA_tzA : twA ≠ tzA) (hne_tsA_tzA : tsA ≠ tzA) (hmk : mm + kk < 1000) (hok : ∀ i, mm ≤ i → i < mm + kk → own_ok tvF twF nU nV i) :
    MetFree l y14 (head1 (Jvm.Cond.code y14 prog_22_method_15_code 5 none :: ws) RM_0_0_0_0) (fun a U => a = #[(.ref o0), (.int (Int32.ofNat mm))] ∧ Z.Warmed39 U.vm ∧ U.heap = h0) (fun _ _ _ _ _ => True) (fun _ U o U' => ∃ v L, o = .returned v ∧ Q14 Z o0 lA hA sA cA chA icA bA uA vA tvA twA tsA tzA nU nV tvF twF tsF tzF lF hF sF uF vF mm kk h0 n0 v U'.heap L ∧ FrameEnd U o U' L RM_0_0_0_0.cells RM_0_0_0_0.slots) := by
  refine MetFree.of_bodySF (plainFor_of_name pn_2) hisR ?_
  intro p e s m args below meth c s₁ Bd hml0 hP hK
  obtain ⟨rfl, hZ, hh⟩ := hP
  have hx := Bd.exec
  have hby := Bd.bytes
  have hml : c.maxLocals = 5 := hml0
  have hown : s.vm.findClass Dn = some m.cls := findClass_of_methodNamed Bd.named
  have X0 : Stand p l e RM_0_0_0_0 s m _ below meth c s₁ [] 0 0 := Stand.of_body Bd
  have e0 : s₁.heap = h0 := by rw [← hh, Bd.state]; rfl
  have N0 := Fr.nil n0
  refine Go.into (P := fun oo uu => ∃ v L, oo = .returned v ∧ Q14 Z o0 lA hA sA cA chA icA bA uA vA tvA twA tsA tzA nU nV tvF twF tsF tzF lF hF sF uF vF mm kk h0 n0 v uu.heap L ∧ FrameEnd s oo uu L RM_0_0_0_0.cells RM_0_0_0_0.slots) (ef_14_aa m o0 (Int32.ofNat mm)) ?_
  show Go p e below _ (s₁.setTop (mkF m 0 #[sR o0, sI (Int32.ofNat mm), .unset, .unset, .unset] []))
  refine lpA hw hx hby hZ hown o0 lA hA sA cA chA icA bA uA vA tvA twA tsA tzA nU nV tvF twF tsF tzF mm ⟨hne_o0_lA, hne_o0_hA, hne_o0_sA, hne_o0_bA, hne_o0_uA, hne_o0_vA, hne_o0_tvA, hne_o0_twA, hne_o0_tsA, hne_o0_tzA, hne_lA_hA, hne_lA_sA, hne_lA_bA, hne_lA_uA, hne_lA_vA, hne_lA_tvA, hne_lA_twA, hne_lA_tsA, hne_lA_tzA, hne_hA_sA, hne_hA_bA, hne_hA_uA, hne_hA_vA, hne_hA_tvA, hne_hA_twA, hne_hA_tsA, hne_hA_tzA, hne_sA_bA, hne_sA_uA, hne_sA_vA, hne_sA_tvA, hne_sA_twA, hne_sA_tsA, hne_sA_tzA, hne_bA_uA, hne_bA_vA, hne_bA_tvA, hne_bA_twA, hne_bA_tsA, hne_bA_tzA, hne_uA_vA, hne_uA_tvA, hne_uA_twA, hne_uA_tsA, hne_uA_tzA, hne_vA_tvA, hne_vA_twA, hne_vA_tsA, hne_vA_tzA, hne_tvA_twA, hne_tvA_tsA, hne_tvA_tzA, hne_twA_tsA, hne_twA_tzA, hne_tsA_tzA⟩ n0 ⟨ha13, ha14, ha15, ha16, ha17, ha18⟩ h0 kk (own_S.mk lF hF sF uF vF) _ _ _ hmk hok ?_ X0 e0 N0 Z0 (Keep.refl h0 [o0, lA, hA, sA, uA, vA]) ha0 ha1 ha2 ha3 ha4 ha5 ha6 ha7 ha8 ha9 ha10 ha11 ha12
  intro T h locs Ls XT eT NT ZT KT b0 b1 b2 b3 b4 b5 b6 b7 b8 b9 b10 b11 b12
  refine Go.retV XT hx Bd.notSynchronized Bd.returns (hb hby d14_108) (by decide) (by decide) ?_
  rw [eT]
  exact ⟨rfl, NT, KT, b0, b2, b1, b3, b4, b5, b6, b7, b8, b9, b10, b11, b12⟩
def NEs (o0 bA uA vA sA lA hA chA icA tvA twA tsA tzA : Addr) : Prop := o0 ≠ bA ∧ o0 ≠ uA ∧ o0 ≠ vA ∧ o0 ≠ sA ∧ o0 ≠ lA ∧ o0 ≠ hA ∧ o0 ≠ chA ∧ o0 ≠ icA ∧ o0 ≠ tvA ∧ o0 ≠ twA ∧ o0 ≠ tsA ∧ o0 ≠ tzA ∧ bA ≠ uA ∧ bA ≠ vA ∧ bA ≠ sA ∧ bA ≠ lA ∧ bA ≠ hA ∧ bA ≠ chA ∧ bA ≠ icA ∧ bA ≠ tvA ∧ bA ≠ twA ∧ bA ≠ tsA ∧ bA ≠ tzA ∧ uA ≠ vA ∧ uA ≠ sA ∧ uA ≠ lA ∧ uA ≠ hA ∧ uA ≠ chA ∧ uA ≠ icA ∧ uA ≠ tvA ∧ uA ≠ twA ∧ uA ≠ tsA ∧ uA ≠ tzA ∧ vA ≠ sA ∧ vA ≠ lA ∧ vA ≠ hA ∧ vA ≠ chA ∧ vA ≠ icA ∧ vA ≠ tvA ∧ vA ≠ twA ∧ vA ≠ tsA ∧ vA ≠ tzA ∧ sA ≠ lA ∧ sA ≠ hA ∧ sA ≠ chA ∧ sA ≠ icA ∧ sA ≠ tvA ∧ sA ≠ twA ∧ sA ≠ tsA ∧ sA ≠ tzA ∧ lA ≠ hA ∧ lA ≠ chA ∧ lA ≠ icA ∧ lA ≠ tvA ∧ lA ≠ twA ∧ lA ≠ tsA ∧ lA ≠ tzA ∧ hA ≠ chA ∧ hA ≠ icA ∧ hA ≠ tvA ∧ hA ≠ twA ∧ hA ≠ tsA ∧ hA ≠ tzA ∧ chA ≠ icA ∧ chA ≠ tvA ∧ chA ≠ twA ∧ chA ≠ tsA ∧ chA ≠ tzA ∧ icA ≠ tvA ∧ icA ≠ twA ∧ icA ≠ tsA ∧ icA ≠ tzA ∧ tvA ≠ twA ∧ tvA ≠ tsA ∧ tvA ≠ tzA ∧ twA ≠ tsA ∧ twA ≠ tzA ∧ tsA ≠ tzA
def GEs (n0 : Nat) (o0 uA vA sA lA hA chA icA tvA twA tsA tzA : Addr) : Prop := n0 ≤ o0 ∧ n0 ≤ uA ∧ n0 ≤ vA ∧ n0 ≤ sA ∧ n0 ≤ lA ∧ n0 ≤ hA ∧ n0 ≤ chA ∧ n0 ≤ icA ∧ n0 ≤ tvA ∧ n0 ≤ twA ∧ n0 ≤ tsA ∧ n0 ≤ tzA
def Sts (Z : State) (h0 : Heap) (o0 lA hA sA cA chA icA bA tvA twA tsA tzA uA vA : Addr) (nU nV : Nat) (tl cc : Int32) (lF : Nat → Int32) (hF : Nat → Int32) (sF : Nat → Int32) (uF : Nat → Int64) (vF : Nat → Int64) (chF : Nat → Int32) (icF : Nat → Int32) (tvF : Nat → Int32) (twF : Nat → Int32) (tsF : Nat → Int64) (tzF : Nat → Int32) : Prop := Exa Z h0 o0 Dn ∧ Fld Z h0 o0 Dn "trailLength" "I" (.int tl) ∧ Fld Z h0 o0 Dn "changedCount" "I" (.int cc) ∧ Obj Z h0 o0 lA hA sA cA chA icA bA tvA twA tsA tzA ∧ AV Z h0 bA (.array .long) 2 (own_b2 uA vA) ∧ AV Z h0 lA .int 2 (fun k => .int (lF k)) ∧ AV Z h0 hA .int 2 (fun k => .int (hF k)) ∧ AV Z h0 sA .int 2 (fun k => .int (sF k)) ∧ AV Z h0 uA .long nU (fun k => .long (uF k)) ∧ AV Z h0 vA .long nV (fun k => .long (vF k)) ∧ AV Z h0 chA .int 2 (fun k => .int (chF k)) ∧ AV Z h0 icA .boolean 2 (fun k => .int (icF k)) ∧ AV Z h0 tvA .int 1024 (fun k => .int (tvF k)) ∧ AV Z h0 twA .int 1024 (fun k => .int (twF k)) ∧ AV Z h0 tsA .long 1024 (fun k => .long (tsF k)) ∧ AV Z h0 tzA .int 1024 (fun k => .int (tzF k))
def Com (l : Launch) (p : Program) (e : Env) (s : State) (m : MethodId) (args : Array Value) (below : List Frame) (meth : Method) (c : Code) (T0 : State) (locs0 : List Loc) (h0 : Heap) (n0 : Nat) (Z : State) : Prop := Stand p l e room_1 s m args below meth c T0 locs0 15 4130 ∧ p.tables.exec = Jvm.exec ∧ c.code = code ∧ c.maxLocals = 30 ∧ meth.locks = false ∧ meth.sig.returnType = some .boolean ∧ Z.Warmed39 s.vm ∧ s.vm.findClass "com/example/whittle/whittle/engine/DomainsUndoPinLaw" = some m.cls ∧ n0 ≤ h0.size ∧ T0.heap = h0 ∧ Fr n0 locs0
abbrev LQ (i0 i1 i2 i3 i4 i5 ca cb xv xa xb xy ka kb qq cv cx cz cy ri ami hd cmi : Int32) (r : List Slot) : Array Slot := (sI i0 :: sI i1 :: sI i2 :: sI i3 :: sI i4 :: sI i5 :: sI ca :: sI cb :: sI xv :: sI xa :: sI xb :: sI xy :: sI ka :: sI kb :: sI qq :: sI cv :: sI cx :: sI cz :: sI cy :: sI ri :: sI ami :: sI hd :: sI cmi :: r).toArray
def Q0 (n0 : Nat) (v : Option Value) (h : Heap) (L : List Loc) : Prop := v = some (.int 1) ∧ Fr n0 L
theorem tail3 (l : Launch) (Z : State) (a0 : Array Value) (hw : HW a0 Z) {p : Program} {e : Env} {s : State} {m : MethodId} {args : Array Value} {below : List Frame} {meth : Method} {c : Code} {T0 : State} {locs0 : List Loc} {h0 : Heap} {n0 : Nat} (hC : Com l p e s m args below meth c T0 locs0 h0 n0 Z) {i0 i1 i2 i3 i4 i5 ca cb xv xa xb xy ka kb qq cv cx cz cy ri ami hd cmi : Int32} {o0 lA hA sA cA chA icA bA tvA twA tsA tzA uA vA : Addr} {nU nV : Nat} (hH : own_H xv xa xb xy ca cb cv cx cz cy ri ami hd nU nV) (hN : NEs o0 bA uA vA sA lA hA chA icA tvA twA tsA tzA) (hG : GEs n0 o0 uA vA sA lA hA chA icA tvA twA tsA tzA) {lF hF sF chF icF tvF twF tzF : Nat → Int32} {uF vF tsF : Nat → Int64} {tl cc : Int32} {mm : Nat} {S0 : own_S} (hS : Sts Z h0 o0 lA hA sA cA chA icA bA tvA twA tsA tzA uA vA nU nV tl cc lF hF sF uF vF chF icF tvF twF tsF tzF) (hmm : mm ≤ 1) (hTr : own_Tr nU nV mm 2 tl tvF twF tsF tzF (own_S.mk lF hF sF uF vF) S0) (hNC : own_NC icF cc) (hb0 : own_BI (lF 0) (hF 0) uF nU) (hb1 : own_BI (lF 1) (hF 1) vF nV) (hA0 : own_at 0 xv ca ri (S0.l 0) (S0.h 0) (S0.s 0) S0.w0) (hA1 : own_at 1 xv cb ri (S0.l 1) (S0.h 1) (S0.s 1) S0.w1) (hB0 : own_BI (S0.l 0) (S0.h 0) S0.w0 nU) (hB1 : own_BI (S0.l 1) (S0.h 1) S0.w1 nV) :
    Go p e below (fun o u => ∃ v L, o = .returned v ∧ Q0 n0 v u.heap L ∧ FrameEnd s o u L 40 8384) (T0.setTop (mkF m 367 (LQ i0 i1 i2 i3 i4 i5 ca cb xv xa xb xy ka kb qq cv cx cz cy ri ami hd cmi [sR o0, sI (Int32.ofNat mm), .unset, .unset, .unset, .unset, .unset]) [])) := by
  obtain ⟨X0, hx, hby, hml, hlk, hret, hZ, hown, Z0, e0, N0⟩ := hC
  obtain ⟨ne_o0_bA, ne_o0_uA, ne_o0_vA, ne_o0_sA, ne_o0_lA, ne_o0_hA, ne_o0_chA, ne_o0_icA, ne_o0_tvA, ne_o0_twA, ne_o0_tsA, ne_o0_tzA, ne_bA_uA, ne_bA_vA, ne_bA_sA, ne_bA_lA, ne_bA_hA, ne_bA_chA, ne_bA_icA, ne_bA_tvA, ne_bA_twA, ne_bA_tsA, ne_bA_tzA, ne_uA_vA, ne_uA_sA, ne_uA_lA, ne_uA_hA, ne_uA_chA, ne_uA_icA, ne_uA_tvA, ne_uA_twA, ne_uA_tsA, ne_uA_tzA, ne_vA_sA, ne_vA_lA, ne_vA_hA, ne_vA_chA, ne_vA_icA, ne_vA_tvA, ne_vA_twA, ne_vA_tsA, ne_vA_tzA, ne_sA_lA, ne_sA_hA, ne_sA_chA, ne_sA_icA, ne_sA_tvA, ne_sA_twA, ne_sA_tsA, ne_sA_tzA, ne_lA_hA, ne_lA_chA, ne_lA_icA, ne_lA_tvA, ne_lA_twA, ne_lA_tsA, ne_lA_tzA, ne_hA_chA, ne_hA_icA, ne_hA_tvA, ne_hA_twA, ne_hA_tsA, ne_hA_tzA, ne_chA_icA, ne_chA_tvA, ne_chA_twA, ne_chA_tsA, ne_chA_tzA, ne_icA_tvA, ne_icA_twA, ne_icA_tsA, ne_icA_tzA, ne_tvA_twA, ne_tvA_tsA, ne_tvA_tzA, ne_twA_tsA, ne_twA_tzA, ne_tsA_tzA⟩ := id hN
  obtain ⟨g_o0, g_uA, g_vA, g_sA, g_lA, g_hA, g_chA, g_icA, g_tvA, g_twA, g_tsA, g_tzA⟩ := id hG
  obtain ⟨fa0, fa1, fa2, fa3, fa4, fa5, fa6, fa7, fa8, fa9, fa10, fa11, fa12, fa13, fa14, fa15⟩ := hS
  refine Vi (T0.setTop (mkF m 371 (LQ i0 i1 i2 i3 i4 i5 ca cb xv xa xb xy ka kb qq cv cx cz cy ri ami hd cmi [sR o0, sI (Int32.ofNat mm), .unset, .unset, .unset, .unset, .unset]) [(.int (Int32.ofNat mm)), (.ref o0)])) (fun tZ kZ => ?_) ?_
  · refine XS.aload X0.here hx rfl (hb hby at_367) rfl rfl ?_
    refine XS.iload X0.here hx rfl (hb hby at_369) rfl ?_
    exact kZ
  obtain ⟨kk, hkk, rfl, hok, hE⟩ := hTr
  obtain ⟨cq1, kq1, q1a, q1b, q1c⟩ := isOf hZ e0 fa0
  obtain ⟨_, _, ⟨T1, L1, k1, n1⟩, -, X1, ⟨Lc1, hQ1, l1, y1, z1⟩, st1⟩ := X0.virtualBack hx (y := y14) (z := y14) hown (wz hZ hw 105 rfl) (wz hZ hw 106 rfl) (notFace_of_selects (args := #[]) (wz hZ hw 108 rfl)) (wz hZ hw 108 rfl) (wz hZ hw 107 rfl) (by decide) (backOf (W := 0) (rm14 l Z a0 hw [] o0 lA hA sA cA chA icA bA uA vA tvA twA tsA tzA nU nV tvF twF tsF tzF lF hF sF uF vF mm kk h0 n0 Z0 fa0 fa3 fa1 fa12 fa13 fa14 fa15 fa4 fa5 fa6 fa7 fa8 fa9 g_o0 g_lA g_hA g_sA g_uA g_vA ne_o0_lA ne_o0_hA ne_o0_sA ne_o0_bA ne_o0_uA ne_o0_vA ne_o0_tvA ne_o0_twA ne_o0_tsA ne_o0_tzA ne_lA_hA (Ne.symm ne_sA_lA) (Ne.symm ne_bA_lA) (Ne.symm ne_uA_lA) (Ne.symm ne_vA_lA) ne_lA_tvA ne_lA_twA ne_lA_tsA ne_lA_tzA (Ne.symm ne_sA_hA) (Ne.symm ne_bA_hA) (Ne.symm ne_uA_hA) (Ne.symm ne_vA_hA) ne_hA_tvA ne_hA_twA ne_hA_tsA ne_hA_tzA (Ne.symm ne_bA_sA) (Ne.symm ne_uA_sA) (Ne.symm ne_vA_sA) ne_sA_tvA ne_sA_twA ne_sA_tsA ne_sA_tzA ne_bA_uA ne_bA_vA ne_bA_tvA ne_bA_twA ne_bA_tsA ne_bA_tzA ne_uA_vA ne_uA_tvA ne_uA_twA ne_uA_tsA ne_uA_tzA ne_vA_tvA ne_vA_twA ne_vA_tsA ne_vA_tzA ne_tvA_twA ne_tvA_tsA ne_tvA_tzA ne_twA_tsA ne_twA_tzA ne_tsA_tzA (by omega) hok) hZ (wq hw 109 rfl) (wq hw 3 rfl) (by decide) (by decide)) q1a q1c (g := (mkF m 371 (LQ i0 i1 i2 i3 i4 i5 ca cb xv xa xb xy ka kb qq cv cx cz cy ri ami hd cmi [sR o0, sI (Int32.ofNat mm), .unset, .unset, .unset, .unset, .unset]) [(.int (Int32.ofNat mm)), (.ref o0)])) rfl (by rw [hml]; rfl) (Steps.refl _) (argsL := [(.int (Int32.ofNat mm))]) (rest := []) (lenOf pd_9 rfl) rfl (leW rfl) (hb hby at_371) (fun _ _ => ⟨rfl, e0, (by decide : 15 + 0 ≤ _), (by decide : 4130 + 0 ≤ _)⟩)
  dsimp only [Pt.U, Pt.locs, Pt.cells, Pt.slots] at X1 l1 y1 z1 st1 hQ1
  subst l1 y1 z1
  obtain ⟨rfl, N1q, Kq1, f1_0, f1_1, f1_2, f1_3, f1_4, f1_5, f1_6, f1_7, f1_8, f1_9, f1_10, f1_11, f1_12⟩ := hQ1
  have c2_9 := fa10.keep Kq1 (ninS (Ne.symm ne_o0_chA) (ninS (Ne.symm ne_lA_chA) (ninS (Ne.symm ne_hA_chA) (ninS (Ne.symm ne_sA_chA) (ninS (Ne.symm ne_uA_chA) (ninS (Ne.symm ne_vA_chA) nin0))))))
  have c2_10 := fa11.keep Kq1 (ninS (Ne.symm ne_o0_icA) (ninS (Ne.symm ne_lA_icA) (ninS (Ne.symm ne_hA_icA) (ninS (Ne.symm ne_sA_icA) (ninS (Ne.symm ne_uA_icA) (ninS (Ne.symm ne_vA_icA) nin0))))))
  have K1 : Keep h0 T1.heap [o0, lA, hA, sA, uA, vA] := (Keep.refl h0 [o0, lA, hA, sA, uA, vA]).trans Kq1 (allS (Or.inl (by simp)) (allS (Or.inl (by simp)) (allS (Or.inl (by simp)) (allS (Or.inl (by simp)) (allS (Or.inl (by simp)) (allS (Or.inl (by simp)) all0))))))
  have Z1 := Nat.le_trans Z0 Kq1.1
  have N1 := Fr.app N0 N1q
  refine Go.via (fun t k => st1.trans k) ?_
  rw [hE] at f1_8
  rw [hE] at f1_9
  rw [hE] at f1_10
  rw [hE] at f1_11
  rw [hE] at f1_12
  obtain ⟨wY, nY, AY, IY⟩ := hH.y hA0 hA1 hB0 hB1
  refine Vi (T1.setTop (mkF m 395 (LQ i0 i1 i2 i3 i4 i5 ca cb xv xa xb xy ka kb qq cv cx cz cy ri ami hd cmi [sR o0, sI (Int32.ofNat mm), sI (if xv = xy then (if ri < cy then (1 : Int32) else (0 : Int32)) else (0 : Int32)), .unset, .unset, .unset, .unset]) [])) (fun tZ kZ => ?_) ?_
  · refine XS.iload X1.here hx rfl (hb hby at_374) rfl ?_
    refine XS.iload X1.here hx rfl (hb hby at_376) rfl ?_
    have sg378 : Steps p.tables e below (T1.setTop (mkF m 393 (LQ i0 i1 i2 i3 i4 i5 ca cb xv xa xb xy ka kb qq cv cx cz cy ri ami hd cmi [sR o0, sI (Int32.ofNat mm), .unset, .unset, .unset, .unset, .unset]) [(.int (if xv = xy then (if ri < cy then (1 : Int32) else (0 : Int32)) else (0 : Int32)))])) tZ → Steps p.tables e below (T1.setTop (mkF m 378 (LQ i0 i1 i2 i3 i4 i5 ca cb xv xa xb xy ka kb qq cv cx cz cy ri ami hd cmi [sR o0, sI (Int32.ofNat mm), .unset, .unset, .unset, .unset, .unset]) [(.int xy), (.int xv)])) tZ := by
      intro kj
      by_cases hc378 : xv = xy
      · try simp only [if_pos hc378] at kj
        refine XS.icmpNo X1.here hx rfl (hb hby at_378) rfl (teq hc378).2 ?_
        refine XS.iload X1.here hx rfl (hb hby at_381) rfl ?_
        refine XS.iload X1.here hx rfl (hb hby at_383) rfl ?_
        have sg385 : Steps p.tables e below (T1.setTop (mkF m 393 (LQ i0 i1 i2 i3 i4 i5 ca cb xv xa xb xy ka kb qq cv cx cz cy ri ami hd cmi [sR o0, sI (Int32.ofNat mm), .unset, .unset, .unset, .unset, .unset]) [(.int (if ri < cy then (1 : Int32) else (0 : Int32)))])) tZ → Steps p.tables e below (T1.setTop (mkF m 385 (LQ i0 i1 i2 i3 i4 i5 ca cb xv xa xb xy ka kb qq cv cx cz cy ri ami hd cmi [sR o0, sI (Int32.ofNat mm), .unset, .unset, .unset, .unset, .unset]) [(.int cy), (.int ri)])) tZ := by
          intro kj
          by_cases hc385 : ri < cy
          · try simp only [if_pos hc385] at kj
            refine XS.icmpNo X1.here hx rfl (hb hby at_385) rfl (tlt hc385).2.1 ?_
            refine XS.iconst X1.here hx rfl (hb hby at_388) ?_
            refine XS.goto X1.here hx rfl (pc0 := 389) (pc' := 393) rfl (hb hby at_389) (by decide) (by decide) ?_
            exact kj
          · try simp only [if_neg hc385] at kj
            refine XS.icmpYes X1.here hx rfl (pc0 := 385) (pc' := 392) rfl (hb hby at_385) rfl (flt hc385).2.1 (by decide) (by decide) ?_
            refine XS.iconst X1.here hx rfl (hb hby at_392) ?_
            exact kj
        refine sg385 ?_
        show Steps p.tables e below (T1.setTop (mkF m 393 (LQ i0 i1 i2 i3 i4 i5 ca cb xv xa xb xy ka kb qq cv cx cz cy ri ami hd cmi [sR o0, sI (Int32.ofNat mm), .unset, .unset, .unset, .unset, .unset]) [(.int (if ri < cy then (1 : Int32) else (0 : Int32)))])) _
        exact kj
      · try simp only [if_neg hc378] at kj
        refine XS.icmpYes X1.here hx rfl (pc0 := 378) (pc' := 392) rfl (hb hby at_378) rfl (feq hc378).2 (by decide) (by decide) ?_
        refine XS.iconst X1.here hx rfl (hb hby at_392) ?_
        exact kj
    refine sg378 ?_
    show Steps p.tables e below (T1.setTop (mkF m 393 (LQ i0 i1 i2 i3 i4 i5 ca cb xv xa xb xy ka kb qq cv cx cz cy ri ami hd cmi [sR o0, sI (Int32.ofNat mm), .unset, .unset, .unset, .unset, .unset]) [(.int (if xv = xy then (if ri < cy then (1 : Int32) else (0 : Int32)) else (0 : Int32)))])) _
    refine XS.istore X1.here hx rfl (hb hby at_393) rfl (l' := (LQ i0 i1 i2 i3 i4 i5 ca cb xv xa xb xy ka kb qq cv cx cz cy ri ami hd cmi [sR o0, sI (Int32.ofNat mm), sI (if xv = xy then (if ri < cy then (1 : Int32) else (0 : Int32)) else (0 : Int32)), .unset, .unset, .unset, .unset])) rfl ?_
    exact kZ
  obtain ⟨rv, e_rv⟩ : ∃ z, z = (if xv = xy then (if ri < cy then (1 : Int32) else (0 : Int32)) else (0 : Int32)) := ⟨_, rfl⟩
  rw [← e_rv]
  show Go p e below _ (T1.setTop (mkF m 395 (LQ i0 i1 i2 i3 i4 i5 ca cb xv xa xb xy ka kb qq cv cx cz cy ri ami hd cmi [sR o0, sI (Int32.ofNat mm), sI rv, .unset, .unset, .unset, .unset]) []))
  refine Vi (T1.setTop (mkF m 411 (LQ i0 i1 i2 i3 i4 i5 ca cb xv xa xb xy ka kb qq cv cx cz cy ri ami hd cmi [sR o0, sI (Int32.ofNat mm), sI rv, sI (if rv = (0 : Int32) then cy else (cy - (1 : Int32))), .unset, .unset, .unset]) [])) (fun tZ kZ => ?_) ?_
  · refine XS.iload X1.here hx rfl (hb hby at_395) rfl ?_
    have sg397 : Steps p.tables e below (T1.setTop (mkF m 409 (LQ i0 i1 i2 i3 i4 i5 ca cb xv xa xb xy ka kb qq cv cx cz cy ri ami hd cmi [sR o0, sI (Int32.ofNat mm), sI rv, .unset, .unset, .unset, .unset]) [(.int (if rv = (0 : Int32) then cy else (cy - (1 : Int32))))])) tZ → Steps p.tables e below (T1.setTop (mkF m 397 (LQ i0 i1 i2 i3 i4 i5 ca cb xv xa xb xy ka kb qq cv cx cz cy ri ami hd cmi [sR o0, sI (Int32.ofNat mm), sI rv, .unset, .unset, .unset, .unset]) [(.int rv)])) tZ := by
      intro kj
      by_cases hc397 : rv = (0 : Int32)
      · try simp only [if_pos hc397] at kj
        refine XS.ifYes X1.here hx rfl (pc0 := 397) (pc' := 407) rfl (hb hby at_397) rfl ((if0 _ _).trans (teq hc397).1) (by decide) (by decide) ?_
        refine XS.iload X1.here hx rfl (hb hby at_407) rfl ?_
        exact kj
      · try simp only [if_neg hc397] at kj
        refine XS.ifNo X1.here hx rfl (hb hby at_397) rfl ((if0 _ _).trans (feq hc397).1) ?_
        refine XS.iload X1.here hx rfl (hb hby at_400) rfl ?_
        refine XS.iconst X1.here hx rfl (hb hby at_402) ?_
        refine XS.isub X1.here hx rfl (hb hby at_403) rfl ?_
        refine XS.goto X1.here hx rfl (pc0 := 404) (pc' := 409) rfl (hb hby at_404) (by decide) (by decide) ?_
        exact kj
    refine sg397 ?_
    show Steps p.tables e below (T1.setTop (mkF m 409 (LQ i0 i1 i2 i3 i4 i5 ca cb xv xa xb xy ka kb qq cv cx cz cy ri ami hd cmi [sR o0, sI (Int32.ofNat mm), sI rv, .unset, .unset, .unset, .unset]) [(.int (if rv = (0 : Int32) then cy else (cy - (1 : Int32))))])) _
    refine XS.istore X1.here hx rfl (hb hby at_409) rfl (l' := (LQ i0 i1 i2 i3 i4 i5 ca cb xv xa xb xy ka kb qq cv cx cz cy ri ami hd cmi [sR o0, sI (Int32.ofNat mm), sI rv, sI (if rv = (0 : Int32) then cy else (cy - (1 : Int32))), .unset, .unset, .unset])) rfl ?_
    exact kZ
  obtain ⟨es, e_es⟩ : ∃ z, z = (if rv = (0 : Int32) then cy else (cy - (1 : Int32))) := ⟨_, rfl⟩
  rw [← e_es]
  show Go p e below _ (T1.setTop (mkF m 411 (LQ i0 i1 i2 i3 i4 i5 ca cb xv xa xb xy ka kb qq cv cx cz cy ri ami hd cmi [sR o0, sI (Int32.ofNat mm), sI rv, sI es, .unset, .unset, .unset]) []))
  refine Vi (T1.setTop (mkF m 428 (LQ i0 i1 i2 i3 i4 i5 ca cb xv xa xb xy ka kb qq cv cx cz cy ri ami hd cmi [sR o0, sI (Int32.ofNat mm), sI rv, sI es, sI (if rv = (0 : Int32) then (0 : Int32) else (if ri = (0 : Int32) then (1 : Int32) else (0 : Int32))), .unset, .unset]) [])) (fun tZ kZ => ?_) ?_
  · refine XS.iload X1.here hx rfl (hb hby at_411) rfl ?_
    have sg413 : Steps p.tables e below (T1.setTop (mkF m 426 (LQ i0 i1 i2 i3 i4 i5 ca cb xv xa xb xy ka kb qq cv cx cz cy ri ami hd cmi [sR o0, sI (Int32.ofNat mm), sI rv, sI es, .unset, .unset, .unset]) [(.int (if rv = (0 : Int32) then (0 : Int32) else (if ri = (0 : Int32) then (1 : Int32) else (0 : Int32))))])) tZ → Steps p.tables e below (T1.setTop (mkF m 413 (LQ i0 i1 i2 i3 i4 i5 ca cb xv xa xb xy ka kb qq cv cx cz cy ri ami hd cmi [sR o0, sI (Int32.ofNat mm), sI rv, sI es, .unset, .unset, .unset]) [(.int rv)])) tZ := by
      intro kj
      by_cases hc413 : rv = (0 : Int32)
      · try simp only [if_pos hc413] at kj
        refine XS.ifYes X1.here hx rfl (pc0 := 413) (pc' := 425) rfl (hb hby at_413) rfl ((if0 _ _).trans (teq hc413).1) (by decide) (by decide) ?_
        refine XS.iconst X1.here hx rfl (hb hby at_425) ?_
        exact kj
      · try simp only [if_neg hc413] at kj
        refine XS.ifNo X1.here hx rfl (hb hby at_413) rfl ((if0 _ _).trans (feq hc413).1) ?_
        refine XS.iload X1.here hx rfl (hb hby at_416) rfl ?_
        have sg418 : Steps p.tables e below (T1.setTop (mkF m 426 (LQ i0 i1 i2 i3 i4 i5 ca cb xv xa xb xy ka kb qq cv cx cz cy ri ami hd cmi [sR o0, sI (Int32.ofNat mm), sI rv, sI es, .unset, .unset, .unset]) [(.int (if ri = (0 : Int32) then (1 : Int32) else (0 : Int32)))])) tZ → Steps p.tables e below (T1.setTop (mkF m 418 (LQ i0 i1 i2 i3 i4 i5 ca cb xv xa xb xy ka kb qq cv cx cz cy ri ami hd cmi [sR o0, sI (Int32.ofNat mm), sI rv, sI es, .unset, .unset, .unset]) [(.int ri)])) tZ := by
          intro kj
          by_cases hc418 : ri = (0 : Int32)
          · try simp only [if_pos hc418] at kj
            refine XS.ifNo X1.here hx rfl (hb hby at_418) rfl ((if0 _ _).trans (teq hc418).2) ?_
            refine XS.iconst X1.here hx rfl (hb hby at_421) ?_
            refine XS.goto X1.here hx rfl (pc0 := 422) (pc' := 426) rfl (hb hby at_422) (by decide) (by decide) ?_
            exact kj
          · try simp only [if_neg hc418] at kj
            refine XS.ifYes X1.here hx rfl (pc0 := 418) (pc' := 425) rfl (hb hby at_418) rfl ((if0 _ _).trans (feq hc418).2) (by decide) (by decide) ?_
            refine XS.iconst X1.here hx rfl (hb hby at_425) ?_
            exact kj
        refine sg418 ?_
        show Steps p.tables e below (T1.setTop (mkF m 426 (LQ i0 i1 i2 i3 i4 i5 ca cb xv xa xb xy ka kb qq cv cx cz cy ri ami hd cmi [sR o0, sI (Int32.ofNat mm), sI rv, sI es, .unset, .unset, .unset]) [(.int (if ri = (0 : Int32) then (1 : Int32) else (0 : Int32)))])) _
        exact kj
    refine sg413 ?_
    show Steps p.tables e below (T1.setTop (mkF m 426 (LQ i0 i1 i2 i3 i4 i5 ca cb xv xa xb xy ka kb qq cv cx cz cy ri ami hd cmi [sR o0, sI (Int32.ofNat mm), sI rv, sI es, .unset, .unset, .unset]) [(.int (if rv = (0 : Int32) then (0 : Int32) else (if ri = (0 : Int32) then (1 : Int32) else (0 : Int32))))])) _
    refine XS.istore X1.here hx rfl (hb hby at_426) rfl (l' := (LQ i0 i1 i2 i3 i4 i5 ca cb xv xa xb xy ka kb qq cv cx cz cy ri ami hd cmi [sR o0, sI (Int32.ofNat mm), sI rv, sI es, sI (if rv = (0 : Int32) then (0 : Int32) else (if ri = (0 : Int32) then (1 : Int32) else (0 : Int32))), .unset, .unset])) rfl ?_
    exact kZ
  obtain ⟨ef, e_ef⟩ : ∃ z, z = (if rv = (0 : Int32) then (0 : Int32) else (if ri = (0 : Int32) then (1 : Int32) else (0 : Int32))) := ⟨_, rfl⟩
  rw [← e_ef]
  show Go p e below _ (T1.setTop (mkF m 428 (LQ i0 i1 i2 i3 i4 i5 ca cb xv xa xb xy ka kb qq cv cx cz cy ri ami hd cmi [sR o0, sI (Int32.ofNat mm), sI rv, sI es, sI ef, .unset, .unset]) []))
  refine Vi (T1.setTop (mkF m 460 (LQ i0 i1 i2 i3 i4 i5 ca cb xv xa xb xy ka kb qq cv cx cz cy ri ami hd cmi [sR o0, sI (Int32.ofNat mm), sI rv, sI es, sI ef, sI (if rv = (0 : Int32) then (cy - (1 : Int32)) else (if ri = (cy - (1 : Int32)) then (if ri = (0 : Int32) then (cy - (1 : Int32)) else (cy - (2 : Int32))) else (cy - (1 : Int32)))), .unset]) [])) (fun tZ kZ => ?_) ?_
  · refine XS.iload X1.here hx rfl (hb hby at_428) rfl ?_
    have sg430 : Steps p.tables e below (T1.setTop (mkF m 458 (LQ i0 i1 i2 i3 i4 i5 ca cb xv xa xb xy ka kb qq cv cx cz cy ri ami hd cmi [sR o0, sI (Int32.ofNat mm), sI rv, sI es, sI ef, .unset, .unset]) [(.int (if rv = (0 : Int32) then (cy - (1 : Int32)) else (if ri = (cy - (1 : Int32)) then (if ri = (0 : Int32) then (cy - (1 : Int32)) else (cy - (2 : Int32))) else (cy - (1 : Int32)))))])) tZ → Steps p.tables e below (T1.setTop (mkF m 430 (LQ i0 i1 i2 i3 i4 i5 ca cb xv xa xb xy ka kb qq cv cx cz cy ri ami hd cmi [sR o0, sI (Int32.ofNat mm), sI rv, sI es, sI ef, .unset, .unset]) [(.int rv)])) tZ := by
      intro kj
      by_cases hc430 : rv = (0 : Int32)
      · try simp only [if_pos hc430] at kj
        refine XS.ifYes X1.here hx rfl (pc0 := 430) (pc' := 454) rfl (hb hby at_430) rfl ((if0 _ _).trans (teq hc430).1) (by decide) (by decide) ?_
        refine XS.iload X1.here hx rfl (hb hby at_454) rfl ?_
        refine XS.iconst X1.here hx rfl (hb hby at_456) ?_
        refine XS.isub X1.here hx rfl (hb hby at_457) rfl ?_
        exact kj
      · try simp only [if_neg hc430] at kj
        refine XS.ifNo X1.here hx rfl (hb hby at_430) rfl ((if0 _ _).trans (feq hc430).1) ?_
        refine XS.iload X1.here hx rfl (hb hby at_433) rfl ?_
        refine XS.iload X1.here hx rfl (hb hby at_435) rfl ?_
        refine XS.iconst X1.here hx rfl (hb hby at_437) ?_
        refine XS.isub X1.here hx rfl (hb hby at_438) rfl ?_
        have sg439 : Steps p.tables e below (T1.setTop (mkF m 458 (LQ i0 i1 i2 i3 i4 i5 ca cb xv xa xb xy ka kb qq cv cx cz cy ri ami hd cmi [sR o0, sI (Int32.ofNat mm), sI rv, sI es, sI ef, .unset, .unset]) [(.int (if ri = (cy - (1 : Int32)) then (if ri = (0 : Int32) then (cy - (1 : Int32)) else (cy - (2 : Int32))) else (cy - (1 : Int32))))])) tZ → Steps p.tables e below (T1.setTop (mkF m 439 (LQ i0 i1 i2 i3 i4 i5 ca cb xv xa xb xy ka kb qq cv cx cz cy ri ami hd cmi [sR o0, sI (Int32.ofNat mm), sI rv, sI es, sI ef, .unset, .unset]) [(.int (cy - (1 : Int32))), (.int ri)])) tZ := by
          intro kj
          by_cases hc439 : ri = (cy - (1 : Int32))
          · try simp only [if_pos hc439] at kj
            refine XS.icmpNo X1.here hx rfl (hb hby at_439) rfl (teq hc439).2 ?_
            refine XS.iload X1.here hx rfl (hb hby at_442) rfl ?_
            have sg444 : Steps p.tables e below (T1.setTop (mkF m 458 (LQ i0 i1 i2 i3 i4 i5 ca cb xv xa xb xy ka kb qq cv cx cz cy ri ami hd cmi [sR o0, sI (Int32.ofNat mm), sI rv, sI es, sI ef, .unset, .unset]) [(.int (if ri = (0 : Int32) then (cy - (1 : Int32)) else (cy - (2 : Int32))))])) tZ → Steps p.tables e below (T1.setTop (mkF m 444 (LQ i0 i1 i2 i3 i4 i5 ca cb xv xa xb xy ka kb qq cv cx cz cy ri ami hd cmi [sR o0, sI (Int32.ofNat mm), sI rv, sI es, sI ef, .unset, .unset]) [(.int ri)])) tZ := by
              intro kj
              by_cases hc444 : ri = (0 : Int32)
              · try simp only [if_pos hc444] at kj
                refine XS.ifYes X1.here hx rfl (pc0 := 444) (pc' := 454) rfl (hb hby at_444) rfl ((if0 _ _).trans (teq hc444).1) (by decide) (by decide) ?_
                refine XS.iload X1.here hx rfl (hb hby at_454) rfl ?_
                refine XS.iconst X1.here hx rfl (hb hby at_456) ?_
                refine XS.isub X1.here hx rfl (hb hby at_457) rfl ?_
                exact kj
              · try simp only [if_neg hc444] at kj
                refine XS.ifNo X1.here hx rfl (hb hby at_444) rfl ((if0 _ _).trans (feq hc444).1) ?_
                refine XS.iload X1.here hx rfl (hb hby at_447) rfl ?_
                refine XS.iconst X1.here hx rfl (hb hby at_449) ?_
                refine XS.isub X1.here hx rfl (hb hby at_450) rfl ?_
                refine XS.goto X1.here hx rfl (pc0 := 451) (pc' := 458) rfl (hb hby at_451) (by decide) (by decide) ?_
                exact kj
            refine sg444 ?_
            show Steps p.tables e below (T1.setTop (mkF m 458 (LQ i0 i1 i2 i3 i4 i5 ca cb xv xa xb xy ka kb qq cv cx cz cy ri ami hd cmi [sR o0, sI (Int32.ofNat mm), sI rv, sI es, sI ef, .unset, .unset]) [(.int (if ri = (0 : Int32) then (cy - (1 : Int32)) else (cy - (2 : Int32))))])) _
            exact kj
          · try simp only [if_neg hc439] at kj
            refine XS.icmpYes X1.here hx rfl (pc0 := 439) (pc' := 454) rfl (hb hby at_439) rfl (feq hc439).2 (by decide) (by decide) ?_
            refine XS.iload X1.here hx rfl (hb hby at_454) rfl ?_
            refine XS.iconst X1.here hx rfl (hb hby at_456) ?_
            refine XS.isub X1.here hx rfl (hb hby at_457) rfl ?_
            exact kj
        refine sg439 ?_
        show Steps p.tables e below (T1.setTop (mkF m 458 (LQ i0 i1 i2 i3 i4 i5 ca cb xv xa xb xy ka kb qq cv cx cz cy ri ami hd cmi [sR o0, sI (Int32.ofNat mm), sI rv, sI es, sI ef, .unset, .unset]) [(.int (if ri = (cy - (1 : Int32)) then (if ri = (0 : Int32) then (cy - (1 : Int32)) else (cy - (2 : Int32))) else (cy - (1 : Int32))))])) _
        exact kj
    refine sg430 ?_
    show Steps p.tables e below (T1.setTop (mkF m 458 (LQ i0 i1 i2 i3 i4 i5 ca cb xv xa xb xy ka kb qq cv cx cz cy ri ami hd cmi [sR o0, sI (Int32.ofNat mm), sI rv, sI es, sI ef, .unset, .unset]) [(.int (if rv = (0 : Int32) then (cy - (1 : Int32)) else (if ri = (cy - (1 : Int32)) then (if ri = (0 : Int32) then (cy - (1 : Int32)) else (cy - (2 : Int32))) else (cy - (1 : Int32)))))])) _
    refine XS.istore X1.here hx rfl (hb hby at_458) rfl (l' := (LQ i0 i1 i2 i3 i4 i5 ca cb xv xa xb xy ka kb qq cv cx cz cy ri ami hd cmi [sR o0, sI (Int32.ofNat mm), sI rv, sI es, sI ef, sI (if rv = (0 : Int32) then (cy - (1 : Int32)) else (if ri = (cy - (1 : Int32)) then (if ri = (0 : Int32) then (cy - (1 : Int32)) else (cy - (2 : Int32))) else (cy - (1 : Int32)))), .unset])) rfl ?_
    exact kZ
  obtain ⟨el, e_el⟩ : ∃ z, z = (if rv = (0 : Int32) then (cy - (1 : Int32)) else (if ri = (cy - (1 : Int32)) then (if ri = (0 : Int32) then (cy - (1 : Int32)) else (cy - (2 : Int32))) else (cy - (1 : Int32)))) := ⟨_, rfl⟩
  rw [← e_el]
  show Go p e below _ (T1.setTop (mkF m 460 (LQ i0 i1 i2 i3 i4 i5 ca cb xv xa xb xy ka kb qq cv cx cz cy ri ami hd cmi [sR o0, sI (Int32.ofNat mm), sI rv, sI es, sI ef, sI el, .unset]) []))
  refine Vi (T1.setTop (mkF m 491 (LQ i0 i1 i2 i3 i4 i5 ca cb xv xa xb xy ka kb qq cv cx cz cy ri ami hd cmi [sR o0, sI (Int32.ofNat mm), sI rv, sI es, sI ef, sI el, sI (if qq < (0 : Int32) then (0 : Int32) else (if qq < cy then (if rv = (0 : Int32) then (1 : Int32) else (if qq = ri then (0 : Int32) else (1 : Int32))) else (0 : Int32)))]) [])) (fun tZ kZ => ?_) ?_
  · refine XS.iload X1.here hx rfl (hb hby at_460) rfl ?_
    have sg462 : Steps p.tables e below (T1.setTop (mkF m 489 (LQ i0 i1 i2 i3 i4 i5 ca cb xv xa xb xy ka kb qq cv cx cz cy ri ami hd cmi [sR o0, sI (Int32.ofNat mm), sI rv, sI es, sI ef, sI el, .unset]) [(.int (if qq < (0 : Int32) then (0 : Int32) else (if qq < cy then (if rv = (0 : Int32) then (1 : Int32) else (if qq = ri then (0 : Int32) else (1 : Int32))) else (0 : Int32))))])) tZ → Steps p.tables e below (T1.setTop (mkF m 462 (LQ i0 i1 i2 i3 i4 i5 ca cb xv xa xb xy ka kb qq cv cx cz cy ri ami hd cmi [sR o0, sI (Int32.ofNat mm), sI rv, sI es, sI ef, sI el, .unset]) [(.int qq)])) tZ := by
      intro kj
      by_cases hc462 : qq < (0 : Int32)
      · try simp only [if_pos hc462] at kj
        refine XS.ifYes X1.here hx rfl (pc0 := 462) (pc' := 488) rfl (hb hby at_462) rfl ((if0 _ _).trans (tlt hc462).1) (by decide) (by decide) ?_
        refine XS.iconst X1.here hx rfl (hb hby at_488) ?_
        exact kj
      · try simp only [if_neg hc462] at kj
        refine XS.ifNo X1.here hx rfl (hb hby at_462) rfl ((if0 _ _).trans (flt hc462).1) ?_
        refine XS.iload X1.here hx rfl (hb hby at_465) rfl ?_
        refine XS.iload X1.here hx rfl (hb hby at_467) rfl ?_
        have sg469 : Steps p.tables e below (T1.setTop (mkF m 489 (LQ i0 i1 i2 i3 i4 i5 ca cb xv xa xb xy ka kb qq cv cx cz cy ri ami hd cmi [sR o0, sI (Int32.ofNat mm), sI rv, sI es, sI ef, sI el, .unset]) [(.int (if qq < cy then (if rv = (0 : Int32) then (1 : Int32) else (if qq = ri then (0 : Int32) else (1 : Int32))) else (0 : Int32)))])) tZ → Steps p.tables e below (T1.setTop (mkF m 469 (LQ i0 i1 i2 i3 i4 i5 ca cb xv xa xb xy ka kb qq cv cx cz cy ri ami hd cmi [sR o0, sI (Int32.ofNat mm), sI rv, sI es, sI ef, sI el, .unset]) [(.int cy), (.int qq)])) tZ := by
          intro kj
          by_cases hc469 : qq < cy
          · try simp only [if_pos hc469] at kj
            refine XS.icmpNo X1.here hx rfl (hb hby at_469) rfl (tlt hc469).2.1 ?_
            refine XS.iload X1.here hx rfl (hb hby at_472) rfl ?_
            have sg474 : Steps p.tables e below (T1.setTop (mkF m 489 (LQ i0 i1 i2 i3 i4 i5 ca cb xv xa xb xy ka kb qq cv cx cz cy ri ami hd cmi [sR o0, sI (Int32.ofNat mm), sI rv, sI es, sI ef, sI el, .unset]) [(.int (if rv = (0 : Int32) then (1 : Int32) else (if qq = ri then (0 : Int32) else (1 : Int32))))])) tZ → Steps p.tables e below (T1.setTop (mkF m 474 (LQ i0 i1 i2 i3 i4 i5 ca cb xv xa xb xy ka kb qq cv cx cz cy ri ami hd cmi [sR o0, sI (Int32.ofNat mm), sI rv, sI es, sI ef, sI el, .unset]) [(.int rv)])) tZ := by
              intro kj
              by_cases hc474 : rv = (0 : Int32)
              · try simp only [if_pos hc474] at kj
                refine XS.ifYes X1.here hx rfl (pc0 := 474) (pc' := 484) rfl (hb hby at_474) rfl ((if0 _ _).trans (teq hc474).1) (by decide) (by decide) ?_
                refine XS.iconst X1.here hx rfl (hb hby at_484) ?_
                refine XS.goto X1.here hx rfl (pc0 := 485) (pc' := 489) rfl (hb hby at_485) (by decide) (by decide) ?_
                exact kj
              · try simp only [if_neg hc474] at kj
                refine XS.ifNo X1.here hx rfl (hb hby at_474) rfl ((if0 _ _).trans (feq hc474).1) ?_
                refine XS.iload X1.here hx rfl (hb hby at_477) rfl ?_
                refine XS.iload X1.here hx rfl (hb hby at_479) rfl ?_
                have sg481 : Steps p.tables e below (T1.setTop (mkF m 489 (LQ i0 i1 i2 i3 i4 i5 ca cb xv xa xb xy ka kb qq cv cx cz cy ri ami hd cmi [sR o0, sI (Int32.ofNat mm), sI rv, sI es, sI ef, sI el, .unset]) [(.int (if qq = ri then (0 : Int32) else (1 : Int32)))])) tZ → Steps p.tables e below (T1.setTop (mkF m 481 (LQ i0 i1 i2 i3 i4 i5 ca cb xv xa xb xy ka kb qq cv cx cz cy ri ami hd cmi [sR o0, sI (Int32.ofNat mm), sI rv, sI es, sI ef, sI el, .unset]) [(.int ri), (.int qq)])) tZ := by
                  intro kj
                  by_cases hc481 : qq = ri
                  · try simp only [if_pos hc481] at kj
                    refine XS.icmpYes X1.here hx rfl (pc0 := 481) (pc' := 488) rfl (hb hby at_481) rfl (teq hc481).1 (by decide) (by decide) ?_
                    refine XS.iconst X1.here hx rfl (hb hby at_488) ?_
                    exact kj
                  · try simp only [if_neg hc481] at kj
                    refine XS.icmpNo X1.here hx rfl (hb hby at_481) rfl (feq hc481).1 ?_
                    refine XS.iconst X1.here hx rfl (hb hby at_484) ?_
                    refine XS.goto X1.here hx rfl (pc0 := 485) (pc' := 489) rfl (hb hby at_485) (by decide) (by decide) ?_
                    exact kj
                refine sg481 ?_
                show Steps p.tables e below (T1.setTop (mkF m 489 (LQ i0 i1 i2 i3 i4 i5 ca cb xv xa xb xy ka kb qq cv cx cz cy ri ami hd cmi [sR o0, sI (Int32.ofNat mm), sI rv, sI es, sI ef, sI el, .unset]) [(.int (if qq = ri then (0 : Int32) else (1 : Int32)))])) _
                exact kj
            refine sg474 ?_
            show Steps p.tables e below (T1.setTop (mkF m 489 (LQ i0 i1 i2 i3 i4 i5 ca cb xv xa xb xy ka kb qq cv cx cz cy ri ami hd cmi [sR o0, sI (Int32.ofNat mm), sI rv, sI es, sI ef, sI el, .unset]) [(.int (if rv = (0 : Int32) then (1 : Int32) else (if qq = ri then (0 : Int32) else (1 : Int32))))])) _
            exact kj
          · try simp only [if_neg hc469] at kj
            refine XS.icmpYes X1.here hx rfl (pc0 := 469) (pc' := 488) rfl (hb hby at_469) rfl (flt hc469).2.1 (by decide) (by decide) ?_
            refine XS.iconst X1.here hx rfl (hb hby at_488) ?_
            exact kj
        refine sg469 ?_
        show Steps p.tables e below (T1.setTop (mkF m 489 (LQ i0 i1 i2 i3 i4 i5 ca cb xv xa xb xy ka kb qq cv cx cz cy ri ami hd cmi [sR o0, sI (Int32.ofNat mm), sI rv, sI es, sI ef, sI el, .unset]) [(.int (if qq < cy then (if rv = (0 : Int32) then (1 : Int32) else (if qq = ri then (0 : Int32) else (1 : Int32))) else (0 : Int32)))])) _
        exact kj
    refine sg462 ?_
    show Steps p.tables e below (T1.setTop (mkF m 489 (LQ i0 i1 i2 i3 i4 i5 ca cb xv xa xb xy ka kb qq cv cx cz cy ri ami hd cmi [sR o0, sI (Int32.ofNat mm), sI rv, sI es, sI ef, sI el, .unset]) [(.int (if qq < (0 : Int32) then (0 : Int32) else (if qq < cy then (if rv = (0 : Int32) then (1 : Int32) else (if qq = ri then (0 : Int32) else (1 : Int32))) else (0 : Int32))))])) _
    refine XS.istore X1.here hx rfl (hb hby at_489) rfl (l' := (LQ i0 i1 i2 i3 i4 i5 ca cb xv xa xb xy ka kb qq cv cx cz cy ri ami hd cmi [sR o0, sI (Int32.ofNat mm), sI rv, sI es, sI ef, sI el, sI (if qq < (0 : Int32) then (0 : Int32) else (if qq < cy then (if rv = (0 : Int32) then (1 : Int32) else (if qq = ri then (0 : Int32) else (1 : Int32))) else (0 : Int32)))])) rfl ?_
    exact kZ
  obtain ⟨ec, e_ec⟩ : ∃ z, z = (if qq < (0 : Int32) then (0 : Int32) else (if qq < cy then (if rv = (0 : Int32) then (1 : Int32) else (if qq = ri then (0 : Int32) else (1 : Int32))) else (0 : Int32))) := ⟨_, rfl⟩
  rw [← e_ec]
  show Go p e below _ (T1.setTop (mkF m 491 (LQ i0 i1 i2 i3 i4 i5 ca cb xv xa xb xy ka kb qq cv cx cz cy ri ami hd cmi [sR o0, sI (Int32.ofNat mm), sI rv, sI es, sI ef, sI el, sI ec]) []))
  refine Vi (T1.setTop (mkF m 495 (LQ i0 i1 i2 i3 i4 i5 ca cb xv xa xb xy ka kb qq cv cx cz cy ri ami hd cmi [sR o0, sI (Int32.ofNat mm), sI rv, sI es, sI ef, sI el, sI ec]) [(.int xy), (.ref o0)])) (fun tZ kZ => ?_) ?_
  · refine XS.aload X1.here hx rfl (hb hby at_491) rfl rfl ?_
    refine XS.iload X1.here hx rfl (hb hby at_493) rfl ?_
    exact kZ
  obtain ⟨cq3, kq3, q3a, q3b, q3c⟩ := isOf hZ rfl f1_0
  obtain ⟨_, _, ⟨T3, L3, k3, n3⟩, -, X3, ⟨Lc3, hQ3, l3, y3, z3⟩, st3⟩ := X1.virtualBack hx (y := y15) (z := y15) hown (wz hZ hw 110 rfl) (wz hZ hw 111 rfl) (notFace_of_selects (args := #[]) (wz hZ hw 113 rfl)) (wz hZ hw 113 rfl) (wz hZ hw 112 rfl) (by decide) (backOf (W := 0) (rm15 l Z a0 hw [] o0 xy sA S0.s T1.heap n0 Z1 f1_0 (obj_sizes f1_1) f1_10 (own_xb hH.hy)) hZ (wq hw 114 rfl) (wq hw 3 rfl) (by decide) (by decide)) q3a q3c (g := (mkF m 495 (LQ i0 i1 i2 i3 i4 i5 ca cb xv xa xb xy ka kb qq cv cx cz cy ri ami hd cmi [sR o0, sI (Int32.ofNat mm), sI rv, sI es, sI ef, sI el, sI ec]) [(.int xy), (.ref o0)])) rfl (by rw [hml]; rfl) (Steps.refl _) (argsL := [(.int xy)]) (rest := []) (lenOf pd_10 rfl) rfl (leW rfl) (hb hby at_495) (fun _ _ => ⟨rfl, rfl, (by decide : 15 + 0 + 0 ≤ _), (by decide : 4130 + 0 + 0 ≤ _)⟩)
  dsimp only [Pt.U, Pt.locs, Pt.cells, Pt.slots] at X3 l3 y3 z3 st3 hQ3
  subst l3 y3 z3
  obtain ⟨rfl, N3q, e3⟩ := hQ3
  have N3 := Fr.app N1 N3q
  refine Go.via (fun t k => st3.trans k) ?_
  refine Vi (T3.setTop (mkF m 507 (LQ i0 i1 i2 i3 i4 i5 ca cb xv xa xb xy ka kb qq cv cx cz cy ri ami hd cmi [sR o0, sI (Int32.ofNat mm), sI rv, sI es, sI ef, sI el, sI ec]) [(.int xy), (.ref o0)])) (fun tZ kZ => ?_) ?_
  · refine XS.iload X3.here hx rfl (hb hby at_498) rfl ?_
    refine XS.icmpNo X3.here hx rfl (hb hby at_500) rfl (teq ((own_fin AY IY hH.cy1.1 hH.cy1.2 hH.r0 e_rv (q := qq)).1.trans e_es.symm)).2 ?_
    refine XS.aload X3.here hx rfl (hb hby at_503) rfl rfl ?_
    refine XS.iload X3.here hx rfl (hb hby at_505) rfl ?_
    exact kZ
  obtain ⟨cq4, kq4, q4a, q4b, q4c⟩ := isOf hZ e3 f1_0
  obtain ⟨_, _, ⟨T4, L4, k4, n4⟩, -, X4, ⟨Lc4, hQ4, l4, y4, z4⟩, st4⟩ := X3.virtualBack hx (y := y16) (z := y16) hown (wz hZ hw 115 rfl) (wz hZ hw 116 rfl) (notFace_of_selects (args := #[]) (wz hZ hw 118 rfl)) (wz hZ hw 118 rfl) (wz hZ hw 117 rfl) (by decide) (backOf (W := 0) (rm16 l Z a0 hw [] o0 xy lA S0.l T1.heap n0 Z1 f1_0 (obj_low f1_1) f1_8 (own_xb hH.hy)) hZ (wq hw 119 rfl) (wq hw 3 rfl) (by decide) (by decide)) q4a q4c (g := (mkF m 507 (LQ i0 i1 i2 i3 i4 i5 ca cb xv xa xb xy ka kb qq cv cx cz cy ri ami hd cmi [sR o0, sI (Int32.ofNat mm), sI rv, sI es, sI ef, sI el, sI ec]) [(.int xy), (.ref o0)])) rfl (by rw [hml]; rfl) (Steps.refl _) (argsL := [(.int xy)]) (rest := []) (lenOf pd_10 rfl) rfl (leW rfl) (hb hby at_507) (fun _ _ => ⟨rfl, e3, (by decide : 15 + 0 + 0 + 0 ≤ _), (by decide : 4130 + 0 + 0 + 0 ≤ _)⟩)
  dsimp only [Pt.U, Pt.locs, Pt.cells, Pt.slots] at X4 l4 y4 z4 st4 hQ4
  subst l4 y4 z4
  obtain ⟨rfl, N4q, e4⟩ := hQ4
  have N4 := Fr.app N3 N4q
  refine Go.via (fun t k => st4.trans k) ?_
  refine Vi (T4.setTop (mkF m 519 (LQ i0 i1 i2 i3 i4 i5 ca cb xv xa xb xy ka kb qq cv cx cz cy ri ami hd cmi [sR o0, sI (Int32.ofNat mm), sI rv, sI es, sI ef, sI el, sI ec]) [(.int xy), (.ref o0)])) (fun tZ kZ => ?_) ?_
  · refine XS.iload X4.here hx rfl (hb hby at_510) rfl ?_
    refine XS.icmpNo X4.here hx rfl (hb hby at_512) rfl (teq ((own_fin AY IY hH.cy1.1 hH.cy1.2 hH.r0 e_rv (q := qq)).2.1.trans e_ef.symm)).2 ?_
    refine XS.aload X4.here hx rfl (hb hby at_515) rfl rfl ?_
    refine XS.iload X4.here hx rfl (hb hby at_517) rfl ?_
    exact kZ
  obtain ⟨cq5, kq5, q5a, q5b, q5c⟩ := isOf hZ e4 f1_0
  obtain ⟨_, _, ⟨T5, L5, k5, n5⟩, -, X5, ⟨Lc5, hQ5, l5, y5, z5⟩, st5⟩ := X4.virtualBack hx (y := y17) (z := y17) hown (wz hZ hw 120 rfl) (wz hZ hw 121 rfl) (notFace_of_selects (args := #[]) (wz hZ hw 123 rfl)) (wz hZ hw 123 rfl) (wz hZ hw 122 rfl) (by decide) (backOf (W := 0) (rm17 l Z a0 hw [] o0 xy hA S0.h T1.heap n0 Z1 f1_0 (obj_high f1_1) f1_9 (own_xb hH.hy)) hZ (wq hw 124 rfl) (wq hw 3 rfl) (by decide) (by decide)) q5a q5c (g := (mkF m 519 (LQ i0 i1 i2 i3 i4 i5 ca cb xv xa xb xy ka kb qq cv cx cz cy ri ami hd cmi [sR o0, sI (Int32.ofNat mm), sI rv, sI es, sI ef, sI el, sI ec]) [(.int xy), (.ref o0)])) rfl (by rw [hml]; rfl) (Steps.refl _) (argsL := [(.int xy)]) (rest := []) (lenOf pd_10 rfl) rfl (leW rfl) (hb hby at_519) (fun _ _ => ⟨rfl, e4, (by decide : 15 + 0 + 0 + 0 + 0 ≤ _), (by decide : 4130 + 0 + 0 + 0 + 0 ≤ _)⟩)
  dsimp only [Pt.U, Pt.locs, Pt.cells, Pt.slots] at X5 l5 y5 z5 st5 hQ5
  subst l5 y5 z5
  obtain ⟨rfl, N5q, e5⟩ := hQ5
  have N5 := Fr.app N4 N5q
  refine Go.via (fun t k => st5.trans k) ?_
  refine Vi (T5.setTop (mkF m 533 (LQ i0 i1 i2 i3 i4 i5 ca cb xv xa xb xy ka kb qq cv cx cz cy ri ami hd cmi [sR o0, sI (Int32.ofNat mm), sI rv, sI es, sI ef, sI el, sI ec]) [(.int qq), (.int xy), (.ref o0)])) (fun tZ kZ => ?_) ?_
  · refine XS.iload X5.here hx rfl (hb hby at_522) rfl ?_
    refine XS.icmpNo X5.here hx rfl (hb hby at_524) rfl (teq ((own_fin AY IY hH.cy1.1 hH.cy1.2 hH.r0 e_rv (q := qq)).2.2.1.trans e_el.symm)).2 ?_
    refine XS.aload X5.here hx rfl (hb hby at_527) rfl rfl ?_
    refine XS.iload X5.here hx rfl (hb hby at_529) rfl ?_
    refine XS.iload X5.here hx rfl (hb hby at_531) rfl ?_
    exact kZ
  rcases hH.hy with hq | hq
  · show Go p e below _ (T5.setTop (mkF m 533 (LQ i0 i1 i2 i3 i4 i5 ca cb xv xa xb xy ka kb qq cv cx cz cy ri ami hd cmi [sR o0, sI (Int32.ofNat mm), sI rv, sI es, sI ef, sI el, sI ec]) [(.int qq), (.int xy), (.ref o0)]))
    obtain ⟨cq6, kq6, q6a, q6b, q6c⟩ := isOf hZ e5 f1_0
    obtain ⟨_, _, ⟨T6, L6, k6, n6⟩, -, X6, ⟨Lc6, hQ6, l6, y6, z6⟩, st6⟩ := X5.virtualBack hx (y := y7) (z := y7) hown (wz hZ hw 125 rfl) (wz hZ hw 72 rfl) (notFace_of_selects (args := #[]) (wz hZ hw 74 rfl)) (wz hZ hw 74 rfl) (wz hZ hw 73 rfl) (by decide) (backOf (W := 0) (rm7 l Z a0 hw [] o0 xy qq lA S0.l hA S0.h bA (own_b2 uA vA) uA nU S0.w0 T1.heap n0 Z1 f1_0 (obj_low f1_1) f1_8 (obj_high f1_1) f1_9 (obj_bits f1_1) f1_7 f1_11 (own_xb hH.hy) (by rw [hq]; exact own_b20) (by rw [hq]; exact hB0.B _)) hZ (wq hw 75 rfl) (wq hw 3 rfl) (by decide) (by decide)) q6a q6c (g := (mkF m 533 (LQ i0 i1 i2 i3 i4 i5 ca cb xv xa xb xy ka kb qq cv cx cz cy ri ami hd cmi [sR o0, sI (Int32.ofNat mm), sI rv, sI es, sI ef, sI el, sI ec]) [(.int qq), (.int xy), (.ref o0)])) rfl (by rw [hml]; rfl) (Steps.refl _) (argsL := [(.int xy), (.int qq)]) (rest := []) (lenOf pd_4 rfl) rfl (leW rfl) (hb hby at_533) (fun _ _ => ⟨rfl, e5, (by decide : 15 + 0 + 0 + 0 + 0 + 0 ≤ _), (by decide : 4130 + 0 + 0 + 0 + 0 + 0 ≤ _)⟩)
    dsimp only [Pt.U, Pt.locs, Pt.cells, Pt.slots] at X6 l6 y6 z6 st6 hQ6
    subst l6 y6 z6
    obtain ⟨rfl, N6q, e6⟩ := hQ6
    have N6 := Fr.app N5 N6q
    refine Go.via (fun t k => st6.trans k) ?_
    refine Vi (T6.setTop (mkF m 546 (LQ i0 i1 i2 i3 i4 i5 ca cb xv xa xb xy ka kb qq cv cx cz cy ri ami hd cmi [sR o0, sI (Int32.ofNat mm), sI rv, sI es, sI ef, sI el, sI ec]) [(.int 1)])) (fun tZ kZ => ?_) ?_
    · refine XS.iload X6.here hx rfl (hb hby at_536) rfl ?_
      refine XS.icmpNo X6.here hx rfl (hb hby at_538) rfl (teq (by have z := (own_fin (hH.y0 hq hA0) hB0 hH.cy1.1 hH.cy1.2 hH.r0 e_rv (q := qq)).2.2.2; rw [e_ec]; rw [hq]; exact z)).2 ?_
      refine XS.iconst X6.here hx rfl (hb hby at_541) ?_
      refine XS.goto X6.here hx rfl (pc0 := 542) (pc' := 546) rfl (hb hby at_542) (by decide) (by decide) ?_
      exact kZ
    refine Go.retN X6 hx hlk (t := .boolean) hret (by simp) (hb hby at_546) (by decide) (by decide) ?_
    exact ⟨rfl, N6⟩
  · show Go p e below _ (T5.setTop (mkF m 533 (LQ i0 i1 i2 i3 i4 i5 ca cb xv xa xb xy ka kb qq cv cx cz cy ri ami hd cmi [sR o0, sI (Int32.ofNat mm), sI rv, sI es, sI ef, sI el, sI ec]) [(.int qq), (.int xy), (.ref o0)]))
    obtain ⟨cq7, kq7, q7a, q7b, q7c⟩ := isOf hZ e5 f1_0
    obtain ⟨_, _, ⟨T7, L7, k7, n7⟩, -, X7, ⟨Lc7, hQ7, l7, y7, z7⟩, st7⟩ := X5.virtualBack hx (y := y7) (z := y7) hown (wz hZ hw 125 rfl) (wz hZ hw 72 rfl) (notFace_of_selects (args := #[]) (wz hZ hw 74 rfl)) (wz hZ hw 74 rfl) (wz hZ hw 73 rfl) (by decide) (backOf (W := 0) (rm7 l Z a0 hw [] o0 xy qq lA S0.l hA S0.h bA (own_b2 uA vA) vA nV S0.w1 T1.heap n0 Z1 f1_0 (obj_low f1_1) f1_8 (obj_high f1_1) f1_9 (obj_bits f1_1) f1_7 f1_12 (own_xb hH.hy) (by rw [hq]; exact own_b21) (by rw [hq]; exact hB1.B _)) hZ (wq hw 75 rfl) (wq hw 3 rfl) (by decide) (by decide)) q7a q7c (g := (mkF m 533 (LQ i0 i1 i2 i3 i4 i5 ca cb xv xa xb xy ka kb qq cv cx cz cy ri ami hd cmi [sR o0, sI (Int32.ofNat mm), sI rv, sI es, sI ef, sI el, sI ec]) [(.int qq), (.int xy), (.ref o0)])) rfl (by rw [hml]; rfl) (Steps.refl _) (argsL := [(.int xy), (.int qq)]) (rest := []) (lenOf pd_4 rfl) rfl (leW rfl) (hb hby at_533) (fun _ _ => ⟨rfl, e5, (by decide : 15 + 0 + 0 + 0 + 0 + 0 ≤ _), (by decide : 4130 + 0 + 0 + 0 + 0 + 0 ≤ _)⟩)
    dsimp only [Pt.U, Pt.locs, Pt.cells, Pt.slots] at X7 l7 y7 z7 st7 hQ7
    subst l7 y7 z7
    obtain ⟨rfl, N7q, e7⟩ := hQ7
    have N7 := Fr.app N5 N7q
    refine Go.via (fun t k => st7.trans k) ?_
    refine Vi (T7.setTop (mkF m 546 (LQ i0 i1 i2 i3 i4 i5 ca cb xv xa xb xy ka kb qq cv cx cz cy ri ami hd cmi [sR o0, sI (Int32.ofNat mm), sI rv, sI es, sI ef, sI el, sI ec]) [(.int 1)])) (fun tZ kZ => ?_) ?_
    · refine XS.iload X7.here hx rfl (hb hby at_536) rfl ?_
      refine XS.icmpNo X7.here hx rfl (hb hby at_538) rfl (teq (by have z := (own_fin (hH.y1 hq hA1) hB1 hH.cy1.1 hH.cy1.2 hH.r0 e_rv (q := qq)).2.2.2; rw [e_ec]; rw [hq]; exact z)).2 ?_
      refine XS.iconst X7.here hx rfl (hb hby at_541) ?_
      refine XS.goto X7.here hx rfl (pc0 := 542) (pc' := 546) rfl (hb hby at_542) (by decide) (by decide) ?_
      exact kZ
    refine Go.retN X7 hx hlk (t := .boolean) hret (by simp) (hb hby at_546) (by decide) (by decide) ?_
    exact ⟨rfl, N7⟩
theorem pd_12 : parseMethodDescriptor "(III)Z" = some ⟨[.int, .int, .int], some .boolean⟩ := by decide +kernel
theorem tail2 (l : Launch) (Z : State) (a0 : Array Value) (hw : HW a0 Z) {p : Program} {e : Env} {s : State} {m : MethodId} {args : Array Value} {below : List Frame} {meth : Method} {c : Code} {T0 : State} {locs0 : List Loc} {h0 : Heap} {n0 : Nat} (hC : Com l p e s m args below meth c T0 locs0 h0 n0 Z) {i0 i1 i2 i3 i4 i5 ca cb xv xa xb xy ka kb qq cv cx cz cy ri ami hd cmi : Int32} {o0 lA hA sA cA chA icA bA tvA twA tsA tzA uA vA : Addr} {nU nV : Nat} (hH : own_H xv xa xb xy ca cb cv cx cz cy ri ami hd nU nV) (hN : NEs o0 bA uA vA sA lA hA chA icA tvA twA tsA tzA) (hG : GEs n0 o0 uA vA sA lA hA chA icA tvA twA tsA tzA) {lF hF sF chF icF tvF twF tzF : Nat → Int32} {uF vF tsF : Nat → Int64} {tl cc : Int32} {mm : Nat} {S0 : own_S} (hS : Sts Z h0 o0 lA hA sA cA chA icA bA tvA twA tsA tzA uA vA nU nV tl cc lF hF sF uF vF chF icF tvF twF tsF tzF) (hmm : mm ≤ 1) (hTr : own_Tr nU nV mm 1 tl tvF twF tsF tzF (own_S.mk lF hF sF uF vF) S0) (hNC : own_NC icF cc) (hb0 : own_BI (lF 0) (hF 0) uF nU) (hb1 : own_BI (lF 1) (hF 1) vF nV) (hA0 : own_at 0 xv ca ri (S0.l 0) (S0.h 0) (S0.s 0) S0.w0) (hA1 : own_at 1 xv cb ri (S0.l 1) (S0.h 1) (S0.s 1) S0.w1) (hB0 : own_BI (S0.l 0) (S0.h 0) S0.w0 nU) (hB1 : own_BI (S0.l 1) (S0.h 1) S0.w1 nV) :
    Go p e below (fun o u => ∃ v L, o = .returned v ∧ Q0 n0 v u.heap L ∧ FrameEnd s o u L 40 8384) (T0.setTop (mkF m 327 (LQ i0 i1 i2 i3 i4 i5 ca cb xv xa xb xy ka kb qq cv cx cz cy ri ami hd cmi [sR o0, sI (Int32.ofNat mm), .unset, .unset, .unset, .unset, .unset]) [])) := by
  obtain ⟨X0, hx, hby, hml, hlk, hret, hZ, hown, Z0, e0, N0⟩ := hC
  obtain ⟨ne_o0_bA, ne_o0_uA, ne_o0_vA, ne_o0_sA, ne_o0_lA, ne_o0_hA, ne_o0_chA, ne_o0_icA, ne_o0_tvA, ne_o0_twA, ne_o0_tsA, ne_o0_tzA, ne_bA_uA, ne_bA_vA, ne_bA_sA, ne_bA_lA, ne_bA_hA, ne_bA_chA, ne_bA_icA, ne_bA_tvA, ne_bA_twA, ne_bA_tsA, ne_bA_tzA, ne_uA_vA, ne_uA_sA, ne_uA_lA, ne_uA_hA, ne_uA_chA, ne_uA_icA, ne_uA_tvA, ne_uA_twA, ne_uA_tsA, ne_uA_tzA, ne_vA_sA, ne_vA_lA, ne_vA_hA, ne_vA_chA, ne_vA_icA, ne_vA_tvA, ne_vA_twA, ne_vA_tsA, ne_vA_tzA, ne_sA_lA, ne_sA_hA, ne_sA_chA, ne_sA_icA, ne_sA_tvA, ne_sA_twA, ne_sA_tsA, ne_sA_tzA, ne_lA_hA, ne_lA_chA, ne_lA_icA, ne_lA_tvA, ne_lA_twA, ne_lA_tsA, ne_lA_tzA, ne_hA_chA, ne_hA_icA, ne_hA_tvA, ne_hA_twA, ne_hA_tsA, ne_hA_tzA, ne_chA_icA, ne_chA_tvA, ne_chA_twA, ne_chA_tsA, ne_chA_tzA, ne_icA_tvA, ne_icA_twA, ne_icA_tsA, ne_icA_tzA, ne_tvA_twA, ne_tvA_tsA, ne_tvA_tzA, ne_twA_tsA, ne_twA_tzA, ne_tsA_tzA⟩ := id hN
  obtain ⟨g_o0, g_uA, g_vA, g_sA, g_lA, g_hA, g_chA, g_icA, g_tvA, g_twA, g_tsA, g_tzA⟩ := id hG
  obtain ⟨fa0, fa1, fa2, fa3, fa4, fa5, fa6, fa7, fa8, fa9, fa10, fa11, fa12, fa13, fa14, fa15⟩ := hS
  have tp := own_Tr.tp (by omega) hTr
  refine Vi (T0.setTop (mkF m 329 (LQ i0 i1 i2 i3 i4 i5 ca cb xv xa xb xy ka kb qq cv cx cz cy ri ami hd cmi [sR o0, sI (Int32.ofNat mm), .unset, .unset, .unset, .unset, .unset]) [(.int kb)])) (fun tZ kZ => ?_) ?_
  · refine XS.iload X0.here hx rfl (hb hby at_327) rfl ?_
    exact kZ
  by_cases hc329 : kb = (0 : Int32)
  · refine Vi (T0.setTop (mkF m 332 (LQ i0 i1 i2 i3 i4 i5 ca cb xv xa xb xy ka kb qq cv cx cz cy ri ami hd cmi [sR o0, sI (Int32.ofNat mm), .unset, .unset, .unset, .unset, .unset]) [])) (fun tZ kZ => ?_) ?_
    · show Steps p.tables e below (T0.setTop (mkF m 329 (LQ i0 i1 i2 i3 i4 i5 ca cb xv xa xb xy ka kb qq cv cx cz cy ri ami hd cmi [sR o0, sI (Int32.ofNat mm), .unset, .unset, .unset, .unset, .unset]) [(.int kb)])) _
      refine XS.ifNo X0.here hx rfl (hb hby at_329) rfl ((if0 _ _).trans (teq hc329).2) ?_
      exact kZ
    refine Vi (T0.setTop (mkF m 338 (LQ i0 i1 i2 i3 i4 i5 ca cb xv xa xb xy ka kb qq cv cx cz cy ri ami hd cmi [sR o0, sI (Int32.ofNat mm), .unset, .unset, .unset, .unset, .unset]) [(.int cmi), (.int xb), (.ref o0)])) (fun tZ kZ => ?_) ?_
    · refine XS.aload X0.here hx rfl (hb hby at_332) rfl rfl ?_
      refine XS.iload X0.here hx rfl (hb hby at_334) rfl ?_
      refine XS.iload X0.here hx rfl (hb hby at_336) rfl ?_
      exact kZ
    rcases hH.hb with hq | hq
    · show Go p e below _ (T0.setTop (mkF m 338 (LQ i0 i1 i2 i3 i4 i5 ca cb xv xa xb xy ka kb qq cv cx cz cy ri ami hd cmi [sR o0, sI (Int32.ofNat mm), .unset, .unset, .unset, .unset, .unset]) [(.int cmi), (.int xb), (.ref o0)]))
      obtain ⟨cq1, kq1, q1a, q1b, q1c⟩ := isOf hZ e0 fa0
      obtain ⟨_, _, ⟨T1, L1, k1, n1⟩, -, X1, ⟨Lc1, hQ1, l1, y1, z1⟩, st1⟩ := X0.virtualBack hx (y := y6) (z := y6) hown (wz hZ hw 66 rfl) (wz hZ hw 67 rfl) (notFace_of_selects (args := #[]) (wz hZ hw 69 rfl)) (wz hZ hw 69 rfl) (wz hZ hw 68 rfl) (by decide) (backOf (W := 0) (rm6 l Z a0 hw [] o0 xb cmi tl cc lA hA sA cA chA icA bA tvA twA tsA tzA (own_b2 uA vA) uA nU uF sF lF hF chF icF tvF twF tsF tzF h0 n0 Z0 fa0 fa1 fa2 fa3 fa4 fa8 fa7 fa5 fa6 fa10 fa11 fa12 fa13 fa14 fa15 g_o0 g_uA g_sA g_lA g_hA g_chA g_icA g_tvA g_twA g_tsA g_tzA ne_o0_bA ne_o0_uA ne_o0_sA ne_o0_lA ne_o0_hA ne_o0_chA ne_o0_icA ne_o0_tvA ne_o0_twA ne_o0_tsA ne_o0_tzA ne_bA_uA ne_bA_sA ne_bA_lA ne_bA_hA ne_bA_chA ne_bA_icA ne_bA_tvA ne_bA_twA ne_bA_tsA ne_bA_tzA ne_uA_sA ne_uA_lA ne_uA_hA ne_uA_chA ne_uA_icA ne_uA_tvA ne_uA_twA ne_uA_tsA ne_uA_tzA ne_sA_lA ne_sA_hA ne_sA_chA ne_sA_icA ne_sA_tvA ne_sA_twA ne_sA_tsA ne_sA_tzA ne_lA_hA ne_lA_chA ne_lA_icA ne_lA_tvA ne_lA_twA ne_lA_tsA ne_lA_tzA ne_hA_chA ne_hA_icA ne_hA_tvA ne_hA_twA ne_hA_tsA ne_hA_tzA ne_chA_icA ne_chA_tvA ne_chA_twA ne_chA_tsA ne_chA_tzA ne_icA_tvA ne_icA_twA ne_icA_tsA ne_icA_tzA ne_tvA_twA ne_tvA_tsA ne_tvA_tzA ne_twA_tsA ne_twA_tzA ne_tsA_tzA hH.hb (by rw [hq]; exact own_b20) (by rw [hq]; exact hb0) tp.1 tp.2 hNC) hZ (wq hw 70 rfl) (wq hw 3 rfl) (by decide) (by decide)) q1a q1c (g := (mkF m 338 (LQ i0 i1 i2 i3 i4 i5 ca cb xv xa xb xy ka kb qq cv cx cz cy ri ami hd cmi [sR o0, sI (Int32.ofNat mm), .unset, .unset, .unset, .unset, .unset]) [(.int cmi), (.int xb), (.ref o0)])) rfl (by rw [hml]; rfl) (Steps.refl _) (argsL := [(.int xb), (.int cmi)]) (rest := []) (lenOf pd_4 rfl) rfl (leW rfl) (hb hby at_338) (fun _ _ => ⟨rfl, e0, (by decide : 15 + 0 ≤ _), (by decide : 4130 + 0 ≤ _)⟩)
      dsimp only [Pt.U, Pt.locs, Pt.cells, Pt.slots] at X1 l1 y1 z1 st1 hQ1
      subst l1 y1 z1
      obtain ⟨lF_1, hF_1, sF_1, chF_1, icF_1, tvF_1, twF_1, tsF_1, tzF_1, tl_1, cc_1, wF_1, rr1, rfl, N1q, Kq1, f1_0, f1_1, f1_2, f1_3, f1_4, f1_5, f1_6, f1_7, f1_8, f1_9, f1_10, f1_11, f1_12, f1_13, f1_14, rel1⟩ := hQ1
      have c2_9 := fa9.keep Kq1 (ninS ne_vA_tvA (ninS ne_vA_twA (ninS ne_vA_tsA (ninS ne_vA_tzA (ninS (Ne.symm ne_o0_vA) (ninS ne_vA_lA (ninS ne_vA_hA (ninS ne_vA_sA (ninS ne_vA_icA (ninS ne_vA_chA (ninS (Ne.symm ne_uA_vA) nin0)))))))))))
      have K1 : Keep h0 T1.heap [tvA, twA, tsA, tzA, o0, lA, hA, sA, icA, chA, uA, vA] := (Keep.refl h0 [tvA, twA, tsA, tzA, o0, lA, hA, sA, icA, chA, uA, vA]).trans Kq1 (allS (Or.inl (by simp)) (allS (Or.inl (by simp)) (allS (Or.inl (by simp)) (allS (Or.inl (by simp)) (allS (Or.inl (by simp)) (allS (Or.inl (by simp)) (allS (Or.inl (by simp)) (allS (Or.inl (by simp)) (allS (Or.inl (by simp)) (allS (Or.inl (by simp)) (allS (Or.inl (by simp)) all0)))))))))))
      have Z1 := Nat.le_trans Z0 Kq1.1
      have N1 := Fr.app N0 N1q
      refine Go.via (fun t k => st1.trans k) ?_
      refine Vi (T1.setTop (mkF m 367 (LQ i0 i1 i2 i3 i4 i5 ca cb xv xa xb xy ka kb qq cv cx cz cy ri ami hd cmi [sR o0, sI (Int32.ofNat mm), .unset, .unset, .unset, .unset, .unset]) [])) (fun tZ kZ => ?_) ?_
      · refine XS.pop X1.here hx rfl (hb hby at_341) rfl rfl ?_
        refine XS.goto X1.here hx rfl (pc0 := 342) (pc' := 367) rfl (hb hby at_342) (by decide) (by decide) ?_
        exact kZ
      rw [hq] at rel1
      exact tail3 l Z a0 hw ⟨X1, hx, hby, hml, hlk, hret, hZ, hown, Z1, rfl, N1⟩ hH hN hG  ⟨f1_0, f1_1, f1_2, f1_3, f1_4, f1_7, f1_8, f1_6, f1_5, c2_9, f1_9, f1_10, f1_11, f1_12, f1_13, f1_14⟩ hmm (own_Tr.push (by omega) hTr (Or.inl ⟨rfl, rel1.1.1⟩)) rel1.2 rel1.1.2.1 (rel1.1.1.bi hb1 (by decide)) hA0 hA1 hB0 hB1
    · show Go p e below _ (T0.setTop (mkF m 338 (LQ i0 i1 i2 i3 i4 i5 ca cb xv xa xb xy ka kb qq cv cx cz cy ri ami hd cmi [sR o0, sI (Int32.ofNat mm), .unset, .unset, .unset, .unset, .unset]) [(.int cmi), (.int xb), (.ref o0)]))
      obtain ⟨cq3, kq3, q3a, q3b, q3c⟩ := isOf hZ e0 fa0
      obtain ⟨_, _, ⟨T3, L3, k3, n3⟩, -, X3, ⟨Lc3, hQ3, l3, y3, z3⟩, st3⟩ := X0.virtualBack hx (y := y6) (z := y6) hown (wz hZ hw 66 rfl) (wz hZ hw 67 rfl) (notFace_of_selects (args := #[]) (wz hZ hw 69 rfl)) (wz hZ hw 69 rfl) (wz hZ hw 68 rfl) (by decide) (backOf (W := 0) (rm6 l Z a0 hw [] o0 xb cmi tl cc lA hA sA cA chA icA bA tvA twA tsA tzA (own_b2 uA vA) vA nV vF sF lF hF chF icF tvF twF tsF tzF h0 n0 Z0 fa0 fa1 fa2 fa3 fa4 fa9 fa7 fa5 fa6 fa10 fa11 fa12 fa13 fa14 fa15 g_o0 g_vA g_sA g_lA g_hA g_chA g_icA g_tvA g_twA g_tsA g_tzA ne_o0_bA ne_o0_vA ne_o0_sA ne_o0_lA ne_o0_hA ne_o0_chA ne_o0_icA ne_o0_tvA ne_o0_twA ne_o0_tsA ne_o0_tzA ne_bA_vA ne_bA_sA ne_bA_lA ne_bA_hA ne_bA_chA ne_bA_icA ne_bA_tvA ne_bA_twA ne_bA_tsA ne_bA_tzA ne_vA_sA ne_vA_lA ne_vA_hA ne_vA_chA ne_vA_icA ne_vA_tvA ne_vA_twA ne_vA_tsA ne_vA_tzA ne_sA_lA ne_sA_hA ne_sA_chA ne_sA_icA ne_sA_tvA ne_sA_twA ne_sA_tsA ne_sA_tzA ne_lA_hA ne_lA_chA ne_lA_icA ne_lA_tvA ne_lA_twA ne_lA_tsA ne_lA_tzA ne_hA_chA ne_hA_icA ne_hA_tvA ne_hA_twA ne_hA_tsA ne_hA_tzA ne_chA_icA ne_chA_tvA ne_chA_twA ne_chA_tsA ne_chA_tzA ne_icA_tvA ne_icA_twA ne_icA_tsA ne_icA_tzA ne_tvA_twA ne_tvA_tsA ne_tvA_tzA ne_twA_tsA ne_twA_tzA ne_tsA_tzA hH.hb (by rw [hq]; exact own_b21) (by rw [hq]; exact hb1) tp.1 tp.2 hNC) hZ (wq hw 70 rfl) (wq hw 3 rfl) (by decide) (by decide)) q3a q3c (g := (mkF m 338 (LQ i0 i1 i2 i3 i4 i5 ca cb xv xa xb xy ka kb qq cv cx cz cy ri ami hd cmi [sR o0, sI (Int32.ofNat mm), .unset, .unset, .unset, .unset, .unset]) [(.int cmi), (.int xb), (.ref o0)])) rfl (by rw [hml]; rfl) (Steps.refl _) (argsL := [(.int xb), (.int cmi)]) (rest := []) (lenOf pd_4 rfl) rfl (leW rfl) (hb hby at_338) (fun _ _ => ⟨rfl, e0, (by decide : 15 + 0 ≤ _), (by decide : 4130 + 0 ≤ _)⟩)
      dsimp only [Pt.U, Pt.locs, Pt.cells, Pt.slots] at X3 l3 y3 z3 st3 hQ3
      subst l3 y3 z3
      obtain ⟨lF_3, hF_3, sF_3, chF_3, icF_3, tvF_3, twF_3, tsF_3, tzF_3, tl_3, cc_3, wF_3, rr3, rfl, N3q, Kq3, f3_0, f3_1, f3_2, f3_3, f3_4, f3_5, f3_6, f3_7, f3_8, f3_9, f3_10, f3_11, f3_12, f3_13, f3_14, rel3⟩ := hQ3
      have c4_8 := fa8.keep Kq3 (ninS ne_uA_tvA (ninS ne_uA_twA (ninS ne_uA_tsA (ninS ne_uA_tzA (ninS (Ne.symm ne_o0_uA) (ninS ne_uA_lA (ninS ne_uA_hA (ninS ne_uA_sA (ninS ne_uA_icA (ninS ne_uA_chA (ninS ne_uA_vA nin0)))))))))))
      have K3 : Keep h0 T3.heap [tvA, twA, tsA, tzA, o0, lA, hA, sA, icA, chA, uA, vA] := (Keep.refl h0 [tvA, twA, tsA, tzA, o0, lA, hA, sA, icA, chA, uA, vA]).trans Kq3 (allS (Or.inl (by simp)) (allS (Or.inl (by simp)) (allS (Or.inl (by simp)) (allS (Or.inl (by simp)) (allS (Or.inl (by simp)) (allS (Or.inl (by simp)) (allS (Or.inl (by simp)) (allS (Or.inl (by simp)) (allS (Or.inl (by simp)) (allS (Or.inl (by simp)) (allS (Or.inl (by simp)) all0)))))))))))
      have Z3 := Nat.le_trans Z0 Kq3.1
      have N3 := Fr.app N0 N3q
      refine Go.via (fun t k => st3.trans k) ?_
      refine Vi (T3.setTop (mkF m 367 (LQ i0 i1 i2 i3 i4 i5 ca cb xv xa xb xy ka kb qq cv cx cz cy ri ami hd cmi [sR o0, sI (Int32.ofNat mm), .unset, .unset, .unset, .unset, .unset]) [])) (fun tZ kZ => ?_) ?_
      · refine XS.pop X3.here hx rfl (hb hby at_341) rfl rfl ?_
        refine XS.goto X3.here hx rfl (pc0 := 342) (pc' := 367) rfl (hb hby at_342) (by decide) (by decide) ?_
        exact kZ
      rw [hq] at rel3
      exact tail3 l Z a0 hw ⟨X3, hx, hby, hml, hlk, hret, hZ, hown, Z3, rfl, N3⟩ hH hN hG  ⟨f3_0, f3_1, f3_2, f3_3, f3_4, f3_7, f3_8, f3_6, c4_8, f3_5, f3_9, f3_10, f3_11, f3_12, f3_13, f3_14⟩ hmm (own_Tr.push (by omega) hTr (Or.inr ⟨rfl, rel3.1.1⟩)) rel3.2 (rel3.1.1.bi hb0 (by decide)) rel3.1.2.1 hA0 hA1 hB0 hB1
  · refine Vi (T0.setTop (mkF m 345 (LQ i0 i1 i2 i3 i4 i5 ca cb xv xa xb xy ka kb qq cv cx cz cy ri ami hd cmi [sR o0, sI (Int32.ofNat mm), .unset, .unset, .unset, .unset, .unset]) [])) (fun tZ kZ => ?_) ?_
    · show Steps p.tables e below (T0.setTop (mkF m 329 (LQ i0 i1 i2 i3 i4 i5 ca cb xv xa xb xy ka kb qq cv cx cz cy ri ami hd cmi [sR o0, sI (Int32.ofNat mm), .unset, .unset, .unset, .unset, .unset]) [(.int kb)])) _
      refine XS.ifYes X0.here hx rfl (pc0 := 329) (pc' := 345) rfl (hb hby at_329) rfl ((if0 _ _).trans (feq hc329).2) (by decide) (by decide) ?_
      exact kZ
    refine Vi (T0.setTop (mkF m 363 (LQ i0 i1 i2 i3 i4 i5 ca cb xv xa xb xy ka kb qq cv cx cz cy ri ami hd cmi [sR o0, sI (Int32.ofNat mm), .unset, .unset, .unset, .unset, .unset]) [(.int (i5 % (cz + (2 : Int32)))), (.int (i4 % (cz + (2 : Int32)))), (.int xb), (.ref o0)])) (fun tZ kZ => ?_) ?_
    · refine XS.aload X0.here hx rfl (hb hby at_345) rfl rfl ?_
      refine XS.iload X0.here hx rfl (hb hby at_347) rfl ?_
      refine XS.iload X0.here hx rfl (hb hby at_349) rfl ?_
      refine XS.iload X0.here hx rfl (hb hby at_351) rfl ?_
      refine XS.iconst X0.here hx rfl (hb hby at_353) ?_
      refine XS.iadd X0.here hx rfl (hb hby at_354) rfl ?_
      refine iremM X0 hx rfl (hb hby at_355) rfl (own_nz1 (d := 2) hH.cz1 (by decide)) ?_
      refine XS.iload X0.here hx rfl (hb hby at_356) rfl ?_
      refine XS.iload X0.here hx rfl (hb hby at_358) rfl ?_
      refine XS.iconst X0.here hx rfl (hb hby at_360) ?_
      refine XS.iadd X0.here hx rfl (hb hby at_361) rfl ?_
      refine iremM X0 hx rfl (hb hby at_362) rfl (own_nz1 (d := 2) hH.cz1 (by decide)) ?_
      exact kZ
    rcases hH.hb with hq | hq
    · show Go p e below _ (T0.setTop (mkF m 363 (LQ i0 i1 i2 i3 i4 i5 ca cb xv xa xb xy ka kb qq cv cx cz cy ri ami hd cmi [sR o0, sI (Int32.ofNat mm), .unset, .unset, .unset, .unset, .unset]) [(.int (i5 % (cz + (2 : Int32)))), (.int (i4 % (cz + (2 : Int32)))), (.int xb), (.ref o0)]))
      obtain ⟨cq5, kq5, q5a, q5b, q5c⟩ := isOf hZ e0 fa0
      obtain ⟨_, _, ⟨T5, L5, k5, n5⟩, -, X5, ⟨Lc5, hQ5, l5, y5, z5⟩, st5⟩ := X0.virtualBack hx (y := y22) (z := y22) hown (wz hZ hw 143 rfl) (wz hZ hw 144 rfl) (notFace_of_selects (args := #[]) (wz hZ hw 146 rfl)) (wz hZ hw 146 rfl) (wz hZ hw 145 rfl) (by decide) (backOf (W := 0) (rm22 l Z a0 hw [] o0 xb (i4 % (cz + (2 : Int32))) (i5 % (cz + (2 : Int32))) tl cc lA hA sA cA chA icA bA tvA twA tsA tzA (own_b2 uA vA) uA nU uF sF lF hF chF icF tvF twF tsF tzF h0 n0 Z0 fa0 fa1 fa2 fa3 fa4 fa8 fa7 fa5 fa6 fa10 fa11 fa12 fa13 fa14 fa15 g_o0 g_sA g_lA g_hA g_chA g_icA g_tvA g_twA g_tsA g_tzA ne_o0_bA ne_o0_uA ne_o0_sA ne_o0_lA ne_o0_hA ne_o0_chA ne_o0_icA ne_o0_tvA ne_o0_twA ne_o0_tsA ne_o0_tzA ne_bA_uA ne_bA_sA ne_bA_lA ne_bA_hA ne_bA_chA ne_bA_icA ne_bA_tvA ne_bA_twA ne_bA_tsA ne_bA_tzA ne_uA_sA ne_uA_lA ne_uA_hA ne_uA_chA ne_uA_icA ne_uA_tvA ne_uA_twA ne_uA_tsA ne_uA_tzA ne_sA_lA ne_sA_hA ne_sA_chA ne_sA_icA ne_sA_tvA ne_sA_twA ne_sA_tsA ne_sA_tzA ne_lA_hA ne_lA_chA ne_lA_icA ne_lA_tvA ne_lA_twA ne_lA_tsA ne_lA_tzA ne_hA_chA ne_hA_icA ne_hA_tvA ne_hA_twA ne_hA_tsA ne_hA_tzA ne_chA_icA ne_chA_tvA ne_chA_twA ne_chA_tsA ne_chA_tzA ne_icA_tvA ne_icA_twA ne_icA_tsA ne_icA_tzA ne_tvA_twA ne_tvA_tsA ne_tvA_tzA ne_twA_tsA ne_twA_tzA ne_tsA_tzA hH.hb (by rw [hq]; exact own_b20) (by rw [hq]; exact hb0) tp.1 tp.2 hNC) hZ (wq hw 147 rfl) (wq hw 3 rfl) (by decide) (by decide)) q5a q5c (g := (mkF m 363 (LQ i0 i1 i2 i3 i4 i5 ca cb xv xa xb xy ka kb qq cv cx cz cy ri ami hd cmi [sR o0, sI (Int32.ofNat mm), .unset, .unset, .unset, .unset, .unset]) [(.int (i5 % (cz + (2 : Int32)))), (.int (i4 % (cz + (2 : Int32)))), (.int xb), (.ref o0)])) rfl (by rw [hml]; rfl) (Steps.refl _) (argsL := [(.int xb), (.int (i4 % (cz + (2 : Int32)))), (.int (i5 % (cz + (2 : Int32))))]) (rest := []) (lenOf pd_12 rfl) rfl (leW rfl) (hb hby at_363) (fun _ _ => ⟨rfl, e0, (by decide : 15 + 0 ≤ _), (by decide : 4130 + 0 ≤ _)⟩)
      dsimp only [Pt.U, Pt.locs, Pt.cells, Pt.slots] at X5 l5 y5 z5 st5 hQ5
      subst l5 y5 z5
      obtain ⟨lF_5, hF_5, sF_5, chF_5, icF_5, tvF_5, twF_5, tsF_5, tzF_5, tl_5, cc_5, rr5, rfl, N5q, Kq5, f5_0, f5_1, f5_2, f5_3, f5_4, f5_5, f5_6, f5_7, f5_8, f5_9, f5_10, f5_11, f5_12, f5_13, f5_14, rel5⟩ := hQ5
      have c6_9 := fa9.keep Kq5 (ninS ne_vA_tvA (ninS ne_vA_twA (ninS ne_vA_tsA (ninS ne_vA_tzA (ninS (Ne.symm ne_o0_vA) (ninS ne_vA_lA (ninS ne_vA_hA (ninS ne_vA_sA (ninS ne_vA_icA (ninS ne_vA_chA nin0))))))))))
      have K5 : Keep h0 T5.heap [tvA, twA, tsA, tzA, o0, lA, hA, sA, icA, chA, uA, vA] := (Keep.refl h0 [tvA, twA, tsA, tzA, o0, lA, hA, sA, icA, chA, uA, vA]).trans Kq5 (allS (Or.inl (by simp)) (allS (Or.inl (by simp)) (allS (Or.inl (by simp)) (allS (Or.inl (by simp)) (allS (Or.inl (by simp)) (allS (Or.inl (by simp)) (allS (Or.inl (by simp)) (allS (Or.inl (by simp)) (allS (Or.inl (by simp)) (allS (Or.inl (by simp)) all0))))))))))
      have Z5 := Nat.le_trans Z0 Kq5.1
      have N5 := Fr.app N0 N5q
      refine Go.via (fun t k => st5.trans k) ?_
      refine Vi (T5.setTop (mkF m 367 (LQ i0 i1 i2 i3 i4 i5 ca cb xv xa xb xy ka kb qq cv cx cz cy ri ami hd cmi [sR o0, sI (Int32.ofNat mm), .unset, .unset, .unset, .unset, .unset]) [])) (fun tZ kZ => ?_) ?_
      · refine XS.pop X5.here hx rfl (hb hby at_366) rfl rfl ?_
        exact kZ
      rw [hq] at rel5
      exact tail3 l Z a0 hw ⟨X5, hx, hby, hml, hlk, hret, hZ, hown, Z5, rfl, N5⟩ hH hN hG  ⟨f5_0, f5_1, f5_2, f5_3, f5_4, f5_7, f5_8, f5_6, f5_5, c6_9, f5_9, f5_10, f5_11, f5_12, f5_13, f5_14⟩ hmm (own_Tr.push (by omega) hTr (Or.inl ⟨rfl, rel5.1.1⟩)) rel5.2 rel5.1.2 (rel5.1.1.bi hb1 (by decide)) hA0 hA1 hB0 hB1
    · show Go p e below _ (T0.setTop (mkF m 363 (LQ i0 i1 i2 i3 i4 i5 ca cb xv xa xb xy ka kb qq cv cx cz cy ri ami hd cmi [sR o0, sI (Int32.ofNat mm), .unset, .unset, .unset, .unset, .unset]) [(.int (i5 % (cz + (2 : Int32)))), (.int (i4 % (cz + (2 : Int32)))), (.int xb), (.ref o0)]))
      obtain ⟨cq7, kq7, q7a, q7b, q7c⟩ := isOf hZ e0 fa0
      obtain ⟨_, _, ⟨T7, L7, k7, n7⟩, -, X7, ⟨Lc7, hQ7, l7, y7, z7⟩, st7⟩ := X0.virtualBack hx (y := y22) (z := y22) hown (wz hZ hw 143 rfl) (wz hZ hw 144 rfl) (notFace_of_selects (args := #[]) (wz hZ hw 146 rfl)) (wz hZ hw 146 rfl) (wz hZ hw 145 rfl) (by decide) (backOf (W := 0) (rm22 l Z a0 hw [] o0 xb (i4 % (cz + (2 : Int32))) (i5 % (cz + (2 : Int32))) tl cc lA hA sA cA chA icA bA tvA twA tsA tzA (own_b2 uA vA) vA nV vF sF lF hF chF icF tvF twF tsF tzF h0 n0 Z0 fa0 fa1 fa2 fa3 fa4 fa9 fa7 fa5 fa6 fa10 fa11 fa12 fa13 fa14 fa15 g_o0 g_sA g_lA g_hA g_chA g_icA g_tvA g_twA g_tsA g_tzA ne_o0_bA ne_o0_vA ne_o0_sA ne_o0_lA ne_o0_hA ne_o0_chA ne_o0_icA ne_o0_tvA ne_o0_twA ne_o0_tsA ne_o0_tzA ne_bA_vA ne_bA_sA ne_bA_lA ne_bA_hA ne_bA_chA ne_bA_icA ne_bA_tvA ne_bA_twA ne_bA_tsA ne_bA_tzA ne_vA_sA ne_vA_lA ne_vA_hA ne_vA_chA ne_vA_icA ne_vA_tvA ne_vA_twA ne_vA_tsA ne_vA_tzA ne_sA_lA ne_sA_hA ne_sA_chA ne_sA_icA ne_sA_tvA ne_sA_twA ne_sA_tsA ne_sA_tzA ne_lA_hA ne_lA_chA ne_lA_icA ne_lA_tvA ne_lA_twA ne_lA_tsA ne_lA_tzA ne_hA_chA ne_hA_icA ne_hA_tvA ne_hA_twA ne_hA_tsA ne_hA_tzA ne_chA_icA ne_chA_tvA ne_chA_twA ne_chA_tsA ne_chA_tzA ne_icA_tvA ne_icA_twA ne_icA_tsA ne_icA_tzA ne_tvA_twA ne_tvA_tsA ne_tvA_tzA ne_twA_tsA ne_twA_tzA ne_tsA_tzA hH.hb (by rw [hq]; exact own_b21) (by rw [hq]; exact hb1) tp.1 tp.2 hNC) hZ (wq hw 147 rfl) (wq hw 3 rfl) (by decide) (by decide)) q7a q7c (g := (mkF m 363 (LQ i0 i1 i2 i3 i4 i5 ca cb xv xa xb xy ka kb qq cv cx cz cy ri ami hd cmi [sR o0, sI (Int32.ofNat mm), .unset, .unset, .unset, .unset, .unset]) [(.int (i5 % (cz + (2 : Int32)))), (.int (i4 % (cz + (2 : Int32)))), (.int xb), (.ref o0)])) rfl (by rw [hml]; rfl) (Steps.refl _) (argsL := [(.int xb), (.int (i4 % (cz + (2 : Int32)))), (.int (i5 % (cz + (2 : Int32))))]) (rest := []) (lenOf pd_12 rfl) rfl (leW rfl) (hb hby at_363) (fun _ _ => ⟨rfl, e0, (by decide : 15 + 0 ≤ _), (by decide : 4130 + 0 ≤ _)⟩)
      dsimp only [Pt.U, Pt.locs, Pt.cells, Pt.slots] at X7 l7 y7 z7 st7 hQ7
      subst l7 y7 z7
      obtain ⟨lF_7, hF_7, sF_7, chF_7, icF_7, tvF_7, twF_7, tsF_7, tzF_7, tl_7, cc_7, rr7, rfl, N7q, Kq7, f7_0, f7_1, f7_2, f7_3, f7_4, f7_5, f7_6, f7_7, f7_8, f7_9, f7_10, f7_11, f7_12, f7_13, f7_14, rel7⟩ := hQ7
      have c8_8 := fa8.keep Kq7 (ninS ne_uA_tvA (ninS ne_uA_twA (ninS ne_uA_tsA (ninS ne_uA_tzA (ninS (Ne.symm ne_o0_uA) (ninS ne_uA_lA (ninS ne_uA_hA (ninS ne_uA_sA (ninS ne_uA_icA (ninS ne_uA_chA nin0))))))))))
      have K7 : Keep h0 T7.heap [tvA, twA, tsA, tzA, o0, lA, hA, sA, icA, chA, uA, vA] := (Keep.refl h0 [tvA, twA, tsA, tzA, o0, lA, hA, sA, icA, chA, uA, vA]).trans Kq7 (allS (Or.inl (by simp)) (allS (Or.inl (by simp)) (allS (Or.inl (by simp)) (allS (Or.inl (by simp)) (allS (Or.inl (by simp)) (allS (Or.inl (by simp)) (allS (Or.inl (by simp)) (allS (Or.inl (by simp)) (allS (Or.inl (by simp)) (allS (Or.inl (by simp)) all0))))))))))
      have Z7 := Nat.le_trans Z0 Kq7.1
      have N7 := Fr.app N0 N7q
      refine Go.via (fun t k => st7.trans k) ?_
      refine Vi (T7.setTop (mkF m 367 (LQ i0 i1 i2 i3 i4 i5 ca cb xv xa xb xy ka kb qq cv cx cz cy ri ami hd cmi [sR o0, sI (Int32.ofNat mm), .unset, .unset, .unset, .unset, .unset]) [])) (fun tZ kZ => ?_) ?_
      · refine XS.pop X7.here hx rfl (hb hby at_366) rfl rfl ?_
        exact kZ
      rw [hq] at rel7
      exact tail3 l Z a0 hw ⟨X7, hx, hby, hml, hlk, hret, hZ, hown, Z7, rfl, N7⟩ hH hN hG  ⟨f7_0, f7_1, f7_2, f7_3, f7_4, f7_7, f7_8, f7_6, c8_8, f7_5, f7_9, f7_10, f7_11, f7_12, f7_13, f7_14⟩ hmm (own_Tr.push (by omega) hTr (Or.inr ⟨rfl, rel7.1.1⟩)) rel7.2 (rel7.1.1.bi hb0 (by decide)) rel7.1.2 hA0 hA1 hB0 hB1
theorem pd_15 : parseMethodDescriptor "(II)V" = some ⟨[.int, .int], none⟩ := by decide +kernel
theorem tail1 (l : Launch) (Z : State) (a0 : Array Value) (hw : HW a0 Z) {p : Program} {e : Env} {s : State} {m : MethodId} {args : Array Value} {below : List Frame} {meth : Method} {c : Code} {T0 : State} {locs0 : List Loc} {h0 : Heap} {n0 : Nat} (hC : Com l p e s m args below meth c T0 locs0 h0 n0 Z) {i0 i1 i2 i3 i4 i5 ca cb xv xa xb xy ka kb qq cv cx cz cy ri ami hd cmi : Int32} {o0 lA hA sA cA chA icA bA tvA twA tsA tzA uA vA : Addr} {nU nV : Nat} (hH : own_H xv xa xb xy ca cb cv cx cz cy ri ami hd nU nV) (hN : NEs o0 bA uA vA sA lA hA chA icA tvA twA tsA tzA) (hG : GEs n0 o0 uA vA sA lA hA chA icA tvA twA tsA tzA) {lF hF sF chF icF tvF twF tzF : Nat → Int32} {uF vF tsF : Nat → Int64} {cc : Int32} {mm : Nat} (hS : Sts Z h0 o0 lA hA sA cA chA icA bA tvA twA tsA tzA uA vA nU nV (Int32.ofNat mm) cc lF hF sF uF vF chF icF tvF twF tsF tzF) (hmm : mm ≤ 1) (hNC : own_NC icF cc) (hb0 : own_BI (lF 0) (hF 0) uF nU) (hb1 : own_BI (lF 1) (hF 1) vF nV) (hA0 : own_at 0 xv ca ri (lF 0) (hF 0) (sF 0) uF) (hA1 : own_at 1 xv cb ri (lF 1) (hF 1) (sF 1) vF) :
    Go p e below (fun o u => ∃ v L, o = .returned v ∧ Q0 n0 v u.heap L ∧ FrameEnd s o u L 40 8384) (T0.setTop (mkF m 235 (LQ i0 i1 i2 i3 i4 i5 ca cb xv xa xb xy ka kb qq cv cx cz cy ri ami hd cmi [sR o0, sI (Int32.ofNat mm), .unset, .unset, .unset, .unset, .unset]) [])) := by
  obtain ⟨X0, hx, hby, hml, hlk, hret, hZ, hown, Z0, e0, N0⟩ := hC
  obtain ⟨ne_o0_bA, ne_o0_uA, ne_o0_vA, ne_o0_sA, ne_o0_lA, ne_o0_hA, ne_o0_chA, ne_o0_icA, ne_o0_tvA, ne_o0_twA, ne_o0_tsA, ne_o0_tzA, ne_bA_uA, ne_bA_vA, ne_bA_sA, ne_bA_lA, ne_bA_hA, ne_bA_chA, ne_bA_icA, ne_bA_tvA, ne_bA_twA, ne_bA_tsA, ne_bA_tzA, ne_uA_vA, ne_uA_sA, ne_uA_lA, ne_uA_hA, ne_uA_chA, ne_uA_icA, ne_uA_tvA, ne_uA_twA, ne_uA_tsA, ne_uA_tzA, ne_vA_sA, ne_vA_lA, ne_vA_hA, ne_vA_chA, ne_vA_icA, ne_vA_tvA, ne_vA_twA, ne_vA_tsA, ne_vA_tzA, ne_sA_lA, ne_sA_hA, ne_sA_chA, ne_sA_icA, ne_sA_tvA, ne_sA_twA, ne_sA_tsA, ne_sA_tzA, ne_lA_hA, ne_lA_chA, ne_lA_icA, ne_lA_tvA, ne_lA_twA, ne_lA_tsA, ne_lA_tzA, ne_hA_chA, ne_hA_icA, ne_hA_tvA, ne_hA_twA, ne_hA_tsA, ne_hA_tzA, ne_chA_icA, ne_chA_tvA, ne_chA_twA, ne_chA_tsA, ne_chA_tzA, ne_icA_tvA, ne_icA_twA, ne_icA_tsA, ne_icA_tzA, ne_tvA_twA, ne_tvA_tsA, ne_tvA_tzA, ne_twA_tsA, ne_twA_tzA, ne_tsA_tzA⟩ := id hN
  obtain ⟨g_o0, g_uA, g_vA, g_sA, g_lA, g_hA, g_chA, g_icA, g_tvA, g_twA, g_tsA, g_tzA⟩ := id hG
  obtain ⟨fa0, fa1, fa2, fa3, fa4, fa5, fa6, fa7, fa8, fa9, fa10, fa11, fa12, fa13, fa14, fa15⟩ := hS
  have hTr : own_Tr nU nV mm 0 (Int32.ofNat mm) tvF twF tsF tzF (own_S.mk lF hF sF uF vF) (own_S.mk lF hF sF uF vF) := own_Tr0
  have tp := own_Tr.tp (by omega) hTr
  refine Vi (T0.setTop (mkF m 237 (LQ i0 i1 i2 i3 i4 i5 ca cb xv xa xb xy ka kb qq cv cx cz cy ri ami hd cmi [sR o0, sI (Int32.ofNat mm), .unset, .unset, .unset, .unset, .unset]) [(.int ka)])) (fun tZ kZ => ?_) ?_
  · refine XS.iload X0.here hx rfl (hb hby at_235) rfl ?_
    exact kZ
  by_cases hc237 : ka = (0 : Int32)
  · refine Vi (T0.setTop (mkF m 240 (LQ i0 i1 i2 i3 i4 i5 ca cb xv xa xb xy ka kb qq cv cx cz cy ri ami hd cmi [sR o0, sI (Int32.ofNat mm), .unset, .unset, .unset, .unset, .unset]) [])) (fun tZ kZ => ?_) ?_
    · show Steps p.tables e below (T0.setTop (mkF m 237 (LQ i0 i1 i2 i3 i4 i5 ca cb xv xa xb xy ka kb qq cv cx cz cy ri ami hd cmi [sR o0, sI (Int32.ofNat mm), .unset, .unset, .unset, .unset, .unset]) [(.int ka)])) _
      refine XS.ifNo X0.here hx rfl (hb hby at_237) rfl ((if0 _ _).trans (teq hc237).2) ?_
      exact kZ
    refine Vi (T0.setTop (mkF m 246 (LQ i0 i1 i2 i3 i4 i5 ca cb xv xa xb xy ka kb qq cv cx cz cy ri ami hd cmi [sR o0, sI (Int32.ofNat mm), .unset, .unset, .unset, .unset, .unset]) [(.int ami), (.int xa), (.ref o0)])) (fun tZ kZ => ?_) ?_
    · refine XS.aload X0.here hx rfl (hb hby at_240) rfl rfl ?_
      refine XS.iload X0.here hx rfl (hb hby at_242) rfl ?_
      refine XS.iload X0.here hx rfl (hb hby at_244) rfl ?_
      exact kZ
    rcases hH.ha with hq | hq
    · show Go p e below _ (T0.setTop (mkF m 246 (LQ i0 i1 i2 i3 i4 i5 ca cb xv xa xb xy ka kb qq cv cx cz cy ri ami hd cmi [sR o0, sI (Int32.ofNat mm), .unset, .unset, .unset, .unset, .unset]) [(.int ami), (.int xa), (.ref o0)]))
      obtain ⟨cq1, kq1, q1a, q1b, q1c⟩ := isOf hZ e0 fa0
      obtain ⟨_, _, ⟨T1, L1, k1, n1⟩, -, X1, ⟨Lc1, hQ1, l1, y1, z1⟩, st1⟩ := X0.virtualBack hx (y := y6) (z := y6) hown (wz hZ hw 66 rfl) (wz hZ hw 67 rfl) (notFace_of_selects (args := #[]) (wz hZ hw 69 rfl)) (wz hZ hw 69 rfl) (wz hZ hw 68 rfl) (by decide) (backOf (W := 0) (rm6 l Z a0 hw [] o0 xa ami (Int32.ofNat mm) cc lA hA sA cA chA icA bA tvA twA tsA tzA (own_b2 uA vA) uA nU uF sF lF hF chF icF tvF twF tsF tzF h0 n0 Z0 fa0 fa1 fa2 fa3 fa4 fa8 fa7 fa5 fa6 fa10 fa11 fa12 fa13 fa14 fa15 g_o0 g_uA g_sA g_lA g_hA g_chA g_icA g_tvA g_twA g_tsA g_tzA ne_o0_bA ne_o0_uA ne_o0_sA ne_o0_lA ne_o0_hA ne_o0_chA ne_o0_icA ne_o0_tvA ne_o0_twA ne_o0_tsA ne_o0_tzA ne_bA_uA ne_bA_sA ne_bA_lA ne_bA_hA ne_bA_chA ne_bA_icA ne_bA_tvA ne_bA_twA ne_bA_tsA ne_bA_tzA ne_uA_sA ne_uA_lA ne_uA_hA ne_uA_chA ne_uA_icA ne_uA_tvA ne_uA_twA ne_uA_tsA ne_uA_tzA ne_sA_lA ne_sA_hA ne_sA_chA ne_sA_icA ne_sA_tvA ne_sA_twA ne_sA_tsA ne_sA_tzA ne_lA_hA ne_lA_chA ne_lA_icA ne_lA_tvA ne_lA_twA ne_lA_tsA ne_lA_tzA ne_hA_chA ne_hA_icA ne_hA_tvA ne_hA_twA ne_hA_tsA ne_hA_tzA ne_chA_icA ne_chA_tvA ne_chA_twA ne_chA_tsA ne_chA_tzA ne_icA_tvA ne_icA_twA ne_icA_tsA ne_icA_tzA ne_tvA_twA ne_tvA_tsA ne_tvA_tzA ne_twA_tsA ne_twA_tzA ne_tsA_tzA hH.ha (by rw [hq]; exact own_b20) (by rw [hq]; exact hb0) tp.1 tp.2 hNC) hZ (wq hw 70 rfl) (wq hw 3 rfl) (by decide) (by decide)) q1a q1c (g := (mkF m 246 (LQ i0 i1 i2 i3 i4 i5 ca cb xv xa xb xy ka kb qq cv cx cz cy ri ami hd cmi [sR o0, sI (Int32.ofNat mm), .unset, .unset, .unset, .unset, .unset]) [(.int ami), (.int xa), (.ref o0)])) rfl (by rw [hml]; rfl) (Steps.refl _) (argsL := [(.int xa), (.int ami)]) (rest := []) (lenOf pd_4 rfl) rfl (leW rfl) (hb hby at_246) (fun _ _ => ⟨rfl, e0, (by decide : 15 + 0 ≤ _), (by decide : 4130 + 0 ≤ _)⟩)
      dsimp only [Pt.U, Pt.locs, Pt.cells, Pt.slots] at X1 l1 y1 z1 st1 hQ1
      subst l1 y1 z1
      obtain ⟨lF_1, hF_1, sF_1, chF_1, icF_1, tvF_1, twF_1, tsF_1, tzF_1, tl_1, cc_1, wF_1, rr1, rfl, N1q, Kq1, f1_0, f1_1, f1_2, f1_3, f1_4, f1_5, f1_6, f1_7, f1_8, f1_9, f1_10, f1_11, f1_12, f1_13, f1_14, rel1⟩ := hQ1
      have c2_9 := fa9.keep Kq1 (ninS ne_vA_tvA (ninS ne_vA_twA (ninS ne_vA_tsA (ninS ne_vA_tzA (ninS (Ne.symm ne_o0_vA) (ninS ne_vA_lA (ninS ne_vA_hA (ninS ne_vA_sA (ninS ne_vA_icA (ninS ne_vA_chA (ninS (Ne.symm ne_uA_vA) nin0)))))))))))
      have K1 : Keep h0 T1.heap [tvA, twA, tsA, tzA, o0, lA, hA, sA, icA, chA, uA, vA] := (Keep.refl h0 [tvA, twA, tsA, tzA, o0, lA, hA, sA, icA, chA, uA, vA]).trans Kq1 (allS (Or.inl (by simp)) (allS (Or.inl (by simp)) (allS (Or.inl (by simp)) (allS (Or.inl (by simp)) (allS (Or.inl (by simp)) (allS (Or.inl (by simp)) (allS (Or.inl (by simp)) (allS (Or.inl (by simp)) (allS (Or.inl (by simp)) (allS (Or.inl (by simp)) (allS (Or.inl (by simp)) all0)))))))))))
      have Z1 := Nat.le_trans Z0 Kq1.1
      have N1 := Fr.app N0 N1q
      refine Go.via (fun t k => st1.trans k) ?_
      refine Vi (T1.setTop (mkF m 327 (LQ i0 i1 i2 i3 i4 i5 ca cb xv xa xb xy ka kb qq cv cx cz cy ri ami hd cmi [sR o0, sI (Int32.ofNat mm), .unset, .unset, .unset, .unset, .unset]) [])) (fun tZ kZ => ?_) ?_
      · refine XS.pop X1.here hx rfl (hb hby at_249) rfl rfl ?_
        refine XS.goto X1.here hx rfl (pc0 := 250) (pc' := 327) rfl (hb hby at_250) (by decide) (by decide) ?_
        exact kZ
      rw [hq] at rel1
      exact tail2 l Z a0 hw ⟨X1, hx, hby, hml, hlk, hret, hZ, hown, Z1, rfl, N1⟩ hH hN hG  ⟨f1_0, f1_1, f1_2, f1_3, f1_4, f1_7, f1_8, f1_6, f1_5, c2_9, f1_9, f1_10, f1_11, f1_12, f1_13, f1_14⟩ hmm (own_Tr.push (by omega) hTr (Or.inl ⟨rfl, rel1.1.1⟩)) rel1.2 rel1.1.2.1 (rel1.1.1.bi hb1 (by decide)) hA0 hA1 hb0 hb1
    · show Go p e below _ (T0.setTop (mkF m 246 (LQ i0 i1 i2 i3 i4 i5 ca cb xv xa xb xy ka kb qq cv cx cz cy ri ami hd cmi [sR o0, sI (Int32.ofNat mm), .unset, .unset, .unset, .unset, .unset]) [(.int ami), (.int xa), (.ref o0)]))
      obtain ⟨cq3, kq3, q3a, q3b, q3c⟩ := isOf hZ e0 fa0
      obtain ⟨_, _, ⟨T3, L3, k3, n3⟩, -, X3, ⟨Lc3, hQ3, l3, y3, z3⟩, st3⟩ := X0.virtualBack hx (y := y6) (z := y6) hown (wz hZ hw 66 rfl) (wz hZ hw 67 rfl) (notFace_of_selects (args := #[]) (wz hZ hw 69 rfl)) (wz hZ hw 69 rfl) (wz hZ hw 68 rfl) (by decide) (backOf (W := 0) (rm6 l Z a0 hw [] o0 xa ami (Int32.ofNat mm) cc lA hA sA cA chA icA bA tvA twA tsA tzA (own_b2 uA vA) vA nV vF sF lF hF chF icF tvF twF tsF tzF h0 n0 Z0 fa0 fa1 fa2 fa3 fa4 fa9 fa7 fa5 fa6 fa10 fa11 fa12 fa13 fa14 fa15 g_o0 g_vA g_sA g_lA g_hA g_chA g_icA g_tvA g_twA g_tsA g_tzA ne_o0_bA ne_o0_vA ne_o0_sA ne_o0_lA ne_o0_hA ne_o0_chA ne_o0_icA ne_o0_tvA ne_o0_twA ne_o0_tsA ne_o0_tzA ne_bA_vA ne_bA_sA ne_bA_lA ne_bA_hA ne_bA_chA ne_bA_icA ne_bA_tvA ne_bA_twA ne_bA_tsA ne_bA_tzA ne_vA_sA ne_vA_lA ne_vA_hA ne_vA_chA ne_vA_icA ne_vA_tvA ne_vA_twA ne_vA_tsA ne_vA_tzA ne_sA_lA ne_sA_hA ne_sA_chA ne_sA_icA ne_sA_tvA ne_sA_twA ne_sA_tsA ne_sA_tzA ne_lA_hA ne_lA_chA ne_lA_icA ne_lA_tvA ne_lA_twA ne_lA_tsA ne_lA_tzA ne_hA_chA ne_hA_icA ne_hA_tvA ne_hA_twA ne_hA_tsA ne_hA_tzA ne_chA_icA ne_chA_tvA ne_chA_twA ne_chA_tsA ne_chA_tzA ne_icA_tvA ne_icA_twA ne_icA_tsA ne_icA_tzA ne_tvA_twA ne_tvA_tsA ne_tvA_tzA ne_twA_tsA ne_twA_tzA ne_tsA_tzA hH.ha (by rw [hq]; exact own_b21) (by rw [hq]; exact hb1) tp.1 tp.2 hNC) hZ (wq hw 70 rfl) (wq hw 3 rfl) (by decide) (by decide)) q3a q3c (g := (mkF m 246 (LQ i0 i1 i2 i3 i4 i5 ca cb xv xa xb xy ka kb qq cv cx cz cy ri ami hd cmi [sR o0, sI (Int32.ofNat mm), .unset, .unset, .unset, .unset, .unset]) [(.int ami), (.int xa), (.ref o0)])) rfl (by rw [hml]; rfl) (Steps.refl _) (argsL := [(.int xa), (.int ami)]) (rest := []) (lenOf pd_4 rfl) rfl (leW rfl) (hb hby at_246) (fun _ _ => ⟨rfl, e0, (by decide : 15 + 0 ≤ _), (by decide : 4130 + 0 ≤ _)⟩)
      dsimp only [Pt.U, Pt.locs, Pt.cells, Pt.slots] at X3 l3 y3 z3 st3 hQ3
      subst l3 y3 z3
      obtain ⟨lF_3, hF_3, sF_3, chF_3, icF_3, tvF_3, twF_3, tsF_3, tzF_3, tl_3, cc_3, wF_3, rr3, rfl, N3q, Kq3, f3_0, f3_1, f3_2, f3_3, f3_4, f3_5, f3_6, f3_7, f3_8, f3_9, f3_10, f3_11, f3_12, f3_13, f3_14, rel3⟩ := hQ3
      have c4_8 := fa8.keep Kq3 (ninS ne_uA_tvA (ninS ne_uA_twA (ninS ne_uA_tsA (ninS ne_uA_tzA (ninS (Ne.symm ne_o0_uA) (ninS ne_uA_lA (ninS ne_uA_hA (ninS ne_uA_sA (ninS ne_uA_icA (ninS ne_uA_chA (ninS ne_uA_vA nin0)))))))))))
      have K3 : Keep h0 T3.heap [tvA, twA, tsA, tzA, o0, lA, hA, sA, icA, chA, uA, vA] := (Keep.refl h0 [tvA, twA, tsA, tzA, o0, lA, hA, sA, icA, chA, uA, vA]).trans Kq3 (allS (Or.inl (by simp)) (allS (Or.inl (by simp)) (allS (Or.inl (by simp)) (allS (Or.inl (by simp)) (allS (Or.inl (by simp)) (allS (Or.inl (by simp)) (allS (Or.inl (by simp)) (allS (Or.inl (by simp)) (allS (Or.inl (by simp)) (allS (Or.inl (by simp)) (allS (Or.inl (by simp)) all0)))))))))))
      have Z3 := Nat.le_trans Z0 Kq3.1
      have N3 := Fr.app N0 N3q
      refine Go.via (fun t k => st3.trans k) ?_
      refine Vi (T3.setTop (mkF m 327 (LQ i0 i1 i2 i3 i4 i5 ca cb xv xa xb xy ka kb qq cv cx cz cy ri ami hd cmi [sR o0, sI (Int32.ofNat mm), .unset, .unset, .unset, .unset, .unset]) [])) (fun tZ kZ => ?_) ?_
      · refine XS.pop X3.here hx rfl (hb hby at_249) rfl rfl ?_
        refine XS.goto X3.here hx rfl (pc0 := 250) (pc' := 327) rfl (hb hby at_250) (by decide) (by decide) ?_
        exact kZ
      rw [hq] at rel3
      exact tail2 l Z a0 hw ⟨X3, hx, hby, hml, hlk, hret, hZ, hown, Z3, rfl, N3⟩ hH hN hG  ⟨f3_0, f3_1, f3_2, f3_3, f3_4, f3_7, f3_8, f3_6, c4_8, f3_5, f3_9, f3_10, f3_11, f3_12, f3_13, f3_14⟩ hmm (own_Tr.push (by omega) hTr (Or.inr ⟨rfl, rel3.1.1⟩)) rel3.2 (rel3.1.1.bi hb0 (by decide)) rel3.1.2.1 hA0 hA1 hb0 hb1
  · refine Vi (T0.setTop (mkF m 253 (LQ i0 i1 i2 i3 i4 i5 ca cb xv xa xb xy ka kb qq cv cx cz cy ri ami hd cmi [sR o0, sI (Int32.ofNat mm), .unset, .unset, .unset, .unset, .unset]) [])) (fun tZ kZ => ?_) ?_
    · show Steps p.tables e below (T0.setTop (mkF m 237 (LQ i0 i1 i2 i3 i4 i5 ca cb xv xa xb xy ka kb qq cv cx cz cy ri ami hd cmi [sR o0, sI (Int32.ofNat mm), .unset, .unset, .unset, .unset, .unset]) [(.int ka)])) _
      refine XS.ifYes X0.here hx rfl (pc0 := 237) (pc' := 253) rfl (hb hby at_237) rfl ((if0 _ _).trans (feq hc237).2) (by decide) (by decide) ?_
      exact kZ
    refine Vi (T0.setTop (mkF m 256 (LQ i0 i1 i2 i3 i4 i5 ca cb xv xa xb xy ka kb qq cv cx cz cy ri ami hd cmi [sR o0, sI (Int32.ofNat mm), .unset, .unset, .unset, .unset, .unset]) [(.int 1), (.int ka)])) (fun tZ kZ => ?_) ?_
    · refine XS.iload X0.here hx rfl (hb hby at_253) rfl ?_
      refine XS.iconst X0.here hx rfl (hb hby at_255) ?_
      exact kZ
    by_cases hc256 : ka = (1 : Int32)
    · refine Vi (T0.setTop (mkF m 259 (LQ i0 i1 i2 i3 i4 i5 ca cb xv xa xb xy ka kb qq cv cx cz cy ri ami hd cmi [sR o0, sI (Int32.ofNat mm), .unset, .unset, .unset, .unset, .unset]) [])) (fun tZ kZ => ?_) ?_
      · show Steps p.tables e below (T0.setTop (mkF m 256 (LQ i0 i1 i2 i3 i4 i5 ca cb xv xa xb xy ka kb qq cv cx cz cy ri ami hd cmi [sR o0, sI (Int32.ofNat mm), .unset, .unset, .unset, .unset, .unset]) [(.int 1), (.int ka)])) _
        refine XS.icmpNo X0.here hx rfl (hb hby at_256) rfl (teq hc256).2 ?_
        exact kZ
      refine Vi (T0.setTop (mkF m 275 (LQ i0 i1 i2 i3 i4 i5 ca cb xv xa xb xy ka kb qq cv cx cz cy ri ami hd cmi [sR o0, sI (Int32.ofNat mm), .unset, .unset, .unset, .unset, .unset]) [(.int (i3 % (cx + (2 : Int32)))), (.int (i2 % (cx + (2 : Int32)))), (.int xa), (.ref o0)])) (fun tZ kZ => ?_) ?_
      · refine XS.aload X0.here hx rfl (hb hby at_259) rfl rfl ?_
        refine XS.iload X0.here hx rfl (hb hby at_261) rfl ?_
        refine XS.iloadN X0.here hx rfl (hb hby at_263) rfl ?_
        refine XS.iload X0.here hx rfl (hb hby at_264) rfl ?_
        refine XS.iconst X0.here hx rfl (hb hby at_266) ?_
        refine XS.iadd X0.here hx rfl (hb hby at_267) rfl ?_
        refine iremM X0 hx rfl (hb hby at_268) rfl (own_nz1 (d := 2) hH.cx1 (by decide)) ?_
        refine XS.iloadN X0.here hx rfl (hb hby at_269) rfl ?_
        refine XS.iload X0.here hx rfl (hb hby at_270) rfl ?_
        refine XS.iconst X0.here hx rfl (hb hby at_272) ?_
        refine XS.iadd X0.here hx rfl (hb hby at_273) rfl ?_
        refine iremM X0 hx rfl (hb hby at_274) rfl (own_nz1 (d := 2) hH.cx1 (by decide)) ?_
        exact kZ
      rcases hH.ha with hq | hq
      · show Go p e below _ (T0.setTop (mkF m 275 (LQ i0 i1 i2 i3 i4 i5 ca cb xv xa xb xy ka kb qq cv cx cz cy ri ami hd cmi [sR o0, sI (Int32.ofNat mm), .unset, .unset, .unset, .unset, .unset]) [(.int (i3 % (cx + (2 : Int32)))), (.int (i2 % (cx + (2 : Int32)))), (.int xa), (.ref o0)]))
        obtain ⟨cq5, kq5, q5a, q5b, q5c⟩ := isOf hZ e0 fa0
        obtain ⟨_, _, ⟨T5, L5, k5, n5⟩, -, X5, ⟨Lc5, hQ5, l5, y5, z5⟩, st5⟩ := X0.virtualBack hx (y := y22) (z := y22) hown (wz hZ hw 143 rfl) (wz hZ hw 144 rfl) (notFace_of_selects (args := #[]) (wz hZ hw 146 rfl)) (wz hZ hw 146 rfl) (wz hZ hw 145 rfl) (by decide) (backOf (W := 0) (rm22 l Z a0 hw [] o0 xa (i2 % (cx + (2 : Int32))) (i3 % (cx + (2 : Int32))) (Int32.ofNat mm) cc lA hA sA cA chA icA bA tvA twA tsA tzA (own_b2 uA vA) uA nU uF sF lF hF chF icF tvF twF tsF tzF h0 n0 Z0 fa0 fa1 fa2 fa3 fa4 fa8 fa7 fa5 fa6 fa10 fa11 fa12 fa13 fa14 fa15 g_o0 g_sA g_lA g_hA g_chA g_icA g_tvA g_twA g_tsA g_tzA ne_o0_bA ne_o0_uA ne_o0_sA ne_o0_lA ne_o0_hA ne_o0_chA ne_o0_icA ne_o0_tvA ne_o0_twA ne_o0_tsA ne_o0_tzA ne_bA_uA ne_bA_sA ne_bA_lA ne_bA_hA ne_bA_chA ne_bA_icA ne_bA_tvA ne_bA_twA ne_bA_tsA ne_bA_tzA ne_uA_sA ne_uA_lA ne_uA_hA ne_uA_chA ne_uA_icA ne_uA_tvA ne_uA_twA ne_uA_tsA ne_uA_tzA ne_sA_lA ne_sA_hA ne_sA_chA ne_sA_icA ne_sA_tvA ne_sA_twA ne_sA_tsA ne_sA_tzA ne_lA_hA ne_lA_chA ne_lA_icA ne_lA_tvA ne_lA_twA ne_lA_tsA ne_lA_tzA ne_hA_chA ne_hA_icA ne_hA_tvA ne_hA_twA ne_hA_tsA ne_hA_tzA ne_chA_icA ne_chA_tvA ne_chA_twA ne_chA_tsA ne_chA_tzA ne_icA_tvA ne_icA_twA ne_icA_tsA ne_icA_tzA ne_tvA_twA ne_tvA_tsA ne_tvA_tzA ne_twA_tsA ne_twA_tzA ne_tsA_tzA hH.ha (by rw [hq]; exact own_b20) (by rw [hq]; exact hb0) tp.1 tp.2 hNC) hZ (wq hw 147 rfl) (wq hw 3 rfl) (by decide) (by decide)) q5a q5c (g := (mkF m 275 (LQ i0 i1 i2 i3 i4 i5 ca cb xv xa xb xy ka kb qq cv cx cz cy ri ami hd cmi [sR o0, sI (Int32.ofNat mm), .unset, .unset, .unset, .unset, .unset]) [(.int (i3 % (cx + (2 : Int32)))), (.int (i2 % (cx + (2 : Int32)))), (.int xa), (.ref o0)])) rfl (by rw [hml]; rfl) (Steps.refl _) (argsL := [(.int xa), (.int (i2 % (cx + (2 : Int32)))), (.int (i3 % (cx + (2 : Int32))))]) (rest := []) (lenOf pd_12 rfl) rfl (leW rfl) (hb hby at_275) (fun _ _ => ⟨rfl, e0, (by decide : 15 + 0 ≤ _), (by decide : 4130 + 0 ≤ _)⟩)
        dsimp only [Pt.U, Pt.locs, Pt.cells, Pt.slots] at X5 l5 y5 z5 st5 hQ5
        subst l5 y5 z5
        obtain ⟨lF_5, hF_5, sF_5, chF_5, icF_5, tvF_5, twF_5, tsF_5, tzF_5, tl_5, cc_5, rr5, rfl, N5q, Kq5, f5_0, f5_1, f5_2, f5_3, f5_4, f5_5, f5_6, f5_7, f5_8, f5_9, f5_10, f5_11, f5_12, f5_13, f5_14, rel5⟩ := hQ5
        have c6_9 := fa9.keep Kq5 (ninS ne_vA_tvA (ninS ne_vA_twA (ninS ne_vA_tsA (ninS ne_vA_tzA (ninS (Ne.symm ne_o0_vA) (ninS ne_vA_lA (ninS ne_vA_hA (ninS ne_vA_sA (ninS ne_vA_icA (ninS ne_vA_chA nin0))))))))))
        have K5 : Keep h0 T5.heap [tvA, twA, tsA, tzA, o0, lA, hA, sA, icA, chA, uA, vA] := (Keep.refl h0 [tvA, twA, tsA, tzA, o0, lA, hA, sA, icA, chA, uA, vA]).trans Kq5 (allS (Or.inl (by simp)) (allS (Or.inl (by simp)) (allS (Or.inl (by simp)) (allS (Or.inl (by simp)) (allS (Or.inl (by simp)) (allS (Or.inl (by simp)) (allS (Or.inl (by simp)) (allS (Or.inl (by simp)) (allS (Or.inl (by simp)) (allS (Or.inl (by simp)) all0))))))))))
        have Z5 := Nat.le_trans Z0 Kq5.1
        have N5 := Fr.app N0 N5q
        refine Go.via (fun t k => st5.trans k) ?_
        refine Vi (T5.setTop (mkF m 327 (LQ i0 i1 i2 i3 i4 i5 ca cb xv xa xb xy ka kb qq cv cx cz cy ri ami hd cmi [sR o0, sI (Int32.ofNat mm), .unset, .unset, .unset, .unset, .unset]) [])) (fun tZ kZ => ?_) ?_
        · refine XS.pop X5.here hx rfl (hb hby at_278) rfl rfl ?_
          refine XS.goto X5.here hx rfl (pc0 := 279) (pc' := 327) rfl (hb hby at_279) (by decide) (by decide) ?_
          exact kZ
        rw [hq] at rel5
        exact tail2 l Z a0 hw ⟨X5, hx, hby, hml, hlk, hret, hZ, hown, Z5, rfl, N5⟩ hH hN hG  ⟨f5_0, f5_1, f5_2, f5_3, f5_4, f5_7, f5_8, f5_6, f5_5, c6_9, f5_9, f5_10, f5_11, f5_12, f5_13, f5_14⟩ hmm (own_Tr.push (by omega) hTr (Or.inl ⟨rfl, rel5.1.1⟩)) rel5.2 rel5.1.2 (rel5.1.1.bi hb1 (by decide)) hA0 hA1 hb0 hb1
      · show Go p e below _ (T0.setTop (mkF m 275 (LQ i0 i1 i2 i3 i4 i5 ca cb xv xa xb xy ka kb qq cv cx cz cy ri ami hd cmi [sR o0, sI (Int32.ofNat mm), .unset, .unset, .unset, .unset, .unset]) [(.int (i3 % (cx + (2 : Int32)))), (.int (i2 % (cx + (2 : Int32)))), (.int xa), (.ref o0)]))
        obtain ⟨cq7, kq7, q7a, q7b, q7c⟩ := isOf hZ e0 fa0
        obtain ⟨_, _, ⟨T7, L7, k7, n7⟩, -, X7, ⟨Lc7, hQ7, l7, y7, z7⟩, st7⟩ := X0.virtualBack hx (y := y22) (z := y22) hown (wz hZ hw 143 rfl) (wz hZ hw 144 rfl) (notFace_of_selects (args := #[]) (wz hZ hw 146 rfl)) (wz hZ hw 146 rfl) (wz hZ hw 145 rfl) (by decide) (backOf (W := 0) (rm22 l Z a0 hw [] o0 xa (i2 % (cx + (2 : Int32))) (i3 % (cx + (2 : Int32))) (Int32.ofNat mm) cc lA hA sA cA chA icA bA tvA twA tsA tzA (own_b2 uA vA) vA nV vF sF lF hF chF icF tvF twF tsF tzF h0 n0 Z0 fa0 fa1 fa2 fa3 fa4 fa9 fa7 fa5 fa6 fa10 fa11 fa12 fa13 fa14 fa15 g_o0 g_sA g_lA g_hA g_chA g_icA g_tvA g_twA g_tsA g_tzA ne_o0_bA ne_o0_vA ne_o0_sA ne_o0_lA ne_o0_hA ne_o0_chA ne_o0_icA ne_o0_tvA ne_o0_twA ne_o0_tsA ne_o0_tzA ne_bA_vA ne_bA_sA ne_bA_lA ne_bA_hA ne_bA_chA ne_bA_icA ne_bA_tvA ne_bA_twA ne_bA_tsA ne_bA_tzA ne_vA_sA ne_vA_lA ne_vA_hA ne_vA_chA ne_vA_icA ne_vA_tvA ne_vA_twA ne_vA_tsA ne_vA_tzA ne_sA_lA ne_sA_hA ne_sA_chA ne_sA_icA ne_sA_tvA ne_sA_twA ne_sA_tsA ne_sA_tzA ne_lA_hA ne_lA_chA ne_lA_icA ne_lA_tvA ne_lA_twA ne_lA_tsA ne_lA_tzA ne_hA_chA ne_hA_icA ne_hA_tvA ne_hA_twA ne_hA_tsA ne_hA_tzA ne_chA_icA ne_chA_tvA ne_chA_twA ne_chA_tsA ne_chA_tzA ne_icA_tvA ne_icA_twA ne_icA_tsA ne_icA_tzA ne_tvA_twA ne_tvA_tsA ne_tvA_tzA ne_twA_tsA ne_twA_tzA ne_tsA_tzA hH.ha (by rw [hq]; exact own_b21) (by rw [hq]; exact hb1) tp.1 tp.2 hNC) hZ (wq hw 147 rfl) (wq hw 3 rfl) (by decide) (by decide)) q7a q7c (g := (mkF m 275 (LQ i0 i1 i2 i3 i4 i5 ca cb xv xa xb xy ka kb qq cv cx cz cy ri ami hd cmi [sR o0, sI (Int32.ofNat mm), .unset, .unset, .unset, .unset, .unset]) [(.int (i3 % (cx + (2 : Int32)))), (.int (i2 % (cx + (2 : Int32)))), (.int xa), (.ref o0)])) rfl (by rw [hml]; rfl) (Steps.refl _) (argsL := [(.int xa), (.int (i2 % (cx + (2 : Int32)))), (.int (i3 % (cx + (2 : Int32))))]) (rest := []) (lenOf pd_12 rfl) rfl (leW rfl) (hb hby at_275) (fun _ _ => ⟨rfl, e0, (by decide : 15 + 0 ≤ _), (by decide : 4130 + 0 ≤ _)⟩)
        dsimp only [Pt.U, Pt.locs, Pt.cells, Pt.slots] at X7 l7 y7 z7 st7 hQ7
        subst l7 y7 z7
        obtain ⟨lF_7, hF_7, sF_7, chF_7, icF_7, tvF_7, twF_7, tsF_7, tzF_7, tl_7, cc_7, rr7, rfl, N7q, Kq7, f7_0, f7_1, f7_2, f7_3, f7_4, f7_5, f7_6, f7_7, f7_8, f7_9, f7_10, f7_11, f7_12, f7_13, f7_14, rel7⟩ := hQ7
        have c8_8 := fa8.keep Kq7 (ninS ne_uA_tvA (ninS ne_uA_twA (ninS ne_uA_tsA (ninS ne_uA_tzA (ninS (Ne.symm ne_o0_uA) (ninS ne_uA_lA (ninS ne_uA_hA (ninS ne_uA_sA (ninS ne_uA_icA (ninS ne_uA_chA nin0))))))))))
        have K7 : Keep h0 T7.heap [tvA, twA, tsA, tzA, o0, lA, hA, sA, icA, chA, uA, vA] := (Keep.refl h0 [tvA, twA, tsA, tzA, o0, lA, hA, sA, icA, chA, uA, vA]).trans Kq7 (allS (Or.inl (by simp)) (allS (Or.inl (by simp)) (allS (Or.inl (by simp)) (allS (Or.inl (by simp)) (allS (Or.inl (by simp)) (allS (Or.inl (by simp)) (allS (Or.inl (by simp)) (allS (Or.inl (by simp)) (allS (Or.inl (by simp)) (allS (Or.inl (by simp)) all0))))))))))
        have Z7 := Nat.le_trans Z0 Kq7.1
        have N7 := Fr.app N0 N7q
        refine Go.via (fun t k => st7.trans k) ?_
        refine Vi (T7.setTop (mkF m 327 (LQ i0 i1 i2 i3 i4 i5 ca cb xv xa xb xy ka kb qq cv cx cz cy ri ami hd cmi [sR o0, sI (Int32.ofNat mm), .unset, .unset, .unset, .unset, .unset]) [])) (fun tZ kZ => ?_) ?_
        · refine XS.pop X7.here hx rfl (hb hby at_278) rfl rfl ?_
          refine XS.goto X7.here hx rfl (pc0 := 279) (pc' := 327) rfl (hb hby at_279) (by decide) (by decide) ?_
          exact kZ
        rw [hq] at rel7
        exact tail2 l Z a0 hw ⟨X7, hx, hby, hml, hlk, hret, hZ, hown, Z7, rfl, N7⟩ hH hN hG  ⟨f7_0, f7_1, f7_2, f7_3, f7_4, f7_7, f7_8, f7_6, c8_8, f7_5, f7_9, f7_10, f7_11, f7_12, f7_13, f7_14⟩ hmm (own_Tr.push (by omega) hTr (Or.inr ⟨rfl, rel7.1.1⟩)) rel7.2 (rel7.1.1.bi hb0 (by decide)) rel7.1.2 hA0 hA1 hb0 hb1
    · refine Vi (T0.setTop (mkF m 282 (LQ i0 i1 i2 i3 i4 i5 ca cb xv xa xb xy ka kb qq cv cx cz cy ri ami hd cmi [sR o0, sI (Int32.ofNat mm), .unset, .unset, .unset, .unset, .unset]) [])) (fun tZ kZ => ?_) ?_
      · show Steps p.tables e below (T0.setTop (mkF m 256 (LQ i0 i1 i2 i3 i4 i5 ca cb xv xa xb xy ka kb qq cv cx cz cy ri ami hd cmi [sR o0, sI (Int32.ofNat mm), .unset, .unset, .unset, .unset, .unset]) [(.int 1), (.int ka)])) _
        refine XS.icmpYes X0.here hx rfl (pc0 := 256) (pc' := 282) rfl (hb hby at_256) rfl (feq hc256).2 (by decide) (by decide) ?_
        exact kZ
      refine Vi (T0.setTop (mkF m 285 (LQ i0 i1 i2 i3 i4 i5 ca cb xv xa xb xy ka kb qq cv cx cz cy ri ami hd cmi [sR o0, sI (Int32.ofNat mm), .unset, .unset, .unset, .unset, .unset]) [(.int 2), (.int ka)])) (fun tZ kZ => ?_) ?_
      · refine XS.iload X0.here hx rfl (hb hby at_282) rfl ?_
        refine XS.iconst X0.here hx rfl (hb hby at_284) ?_
        exact kZ
      by_cases hc285 : ka = (2 : Int32)
      · refine Vi (T0.setTop (mkF m 288 (LQ i0 i1 i2 i3 i4 i5 ca cb xv xa xb xy ka kb qq cv cx cz cy ri ami hd cmi [sR o0, sI (Int32.ofNat mm), .unset, .unset, .unset, .unset, .unset]) [])) (fun tZ kZ => ?_) ?_
        · show Steps p.tables e below (T0.setTop (mkF m 285 (LQ i0 i1 i2 i3 i4 i5 ca cb xv xa xb xy ka kb qq cv cx cz cy ri ami hd cmi [sR o0, sI (Int32.ofNat mm), .unset, .unset, .unset, .unset, .unset]) [(.int 2), (.int ka)])) _
          refine XS.icmpNo X0.here hx rfl (hb hby at_285) rfl (teq hc285).2 ?_
          exact kZ
        refine Vi (T0.setTop (mkF m 290 (LQ i0 i1 i2 i3 i4 i5 ca cb xv xa xb xy ka kb qq cv cx cz cy ri ami hd cmi [sR o0, sI (Int32.ofNat mm), .unset, .unset, .unset, .unset, .unset]) [(.int hd)])) (fun tZ kZ => ?_) ?_
        · refine XS.iload X0.here hx rfl (hb hby at_288) rfl ?_
          exact kZ
        by_cases hc290 : hd = (0 : Int32)
        · refine Vi (T0.setTop (mkF m 305 (LQ i0 i1 i2 i3 i4 i5 ca cb xv xa xb xy ka kb qq cv cx cz cy ri ami hd cmi [sR o0, sI (Int32.ofNat mm), .unset, .unset, .unset, .unset, .unset]) [])) (fun tZ kZ => ?_) ?_
          · show Steps p.tables e below (T0.setTop (mkF m 290 (LQ i0 i1 i2 i3 i4 i5 ca cb xv xa xb xy ka kb qq cv cx cz cy ri ami hd cmi [sR o0, sI (Int32.ofNat mm), .unset, .unset, .unset, .unset, .unset]) [(.int hd)])) _
            refine XS.ifYes X0.here hx rfl (pc0 := 290) (pc' := 305) rfl (hb hby at_290) rfl ((if0 _ _).trans (teq hc290).1) (by decide) (by decide) ?_
            exact kZ
          refine Vi (T0.setTop (mkF m 311 (LQ i0 i1 i2 i3 i4 i5 ca cb xv xa xb xy ka kb qq cv cx cz cy ri ami hd cmi [sR o0, sI (Int32.ofNat mm), .unset, .unset, .unset, .unset, .unset]) [(.int ami), (.int xa), (.ref o0)])) (fun tZ kZ => ?_) ?_
          · refine XS.aload X0.here hx rfl (hb hby at_305) rfl rfl ?_
            refine XS.iload X0.here hx rfl (hb hby at_307) rfl ?_
            refine XS.iload X0.here hx rfl (hb hby at_309) rfl ?_
            exact kZ
          rcases hH.ha with hq | hq
          · show Go p e below _ (T0.setTop (mkF m 311 (LQ i0 i1 i2 i3 i4 i5 ca cb xv xa xb xy ka kb qq cv cx cz cy ri ami hd cmi [sR o0, sI (Int32.ofNat mm), .unset, .unset, .unset, .unset, .unset]) [(.int ami), (.int xa), (.ref o0)]))
            obtain ⟨cq9, kq9, q9a, q9b, q9c⟩ := isOf hZ e0 fa0
            obtain ⟨_, _, ⟨T9, L9, k9, n9⟩, -, X9, ⟨Lc9, hQ9, l9, y9, z9⟩, st9⟩ := X0.virtualBack hx (y := y6) (z := y6) hown (wz hZ hw 66 rfl) (wz hZ hw 67 rfl) (notFace_of_selects (args := #[]) (wz hZ hw 69 rfl)) (wz hZ hw 69 rfl) (wz hZ hw 68 rfl) (by decide) (backOf (W := 0) (rm6 l Z a0 hw [] o0 xa ami (Int32.ofNat mm) cc lA hA sA cA chA icA bA tvA twA tsA tzA (own_b2 uA vA) uA nU uF sF lF hF chF icF tvF twF tsF tzF h0 n0 Z0 fa0 fa1 fa2 fa3 fa4 fa8 fa7 fa5 fa6 fa10 fa11 fa12 fa13 fa14 fa15 g_o0 g_uA g_sA g_lA g_hA g_chA g_icA g_tvA g_twA g_tsA g_tzA ne_o0_bA ne_o0_uA ne_o0_sA ne_o0_lA ne_o0_hA ne_o0_chA ne_o0_icA ne_o0_tvA ne_o0_twA ne_o0_tsA ne_o0_tzA ne_bA_uA ne_bA_sA ne_bA_lA ne_bA_hA ne_bA_chA ne_bA_icA ne_bA_tvA ne_bA_twA ne_bA_tsA ne_bA_tzA ne_uA_sA ne_uA_lA ne_uA_hA ne_uA_chA ne_uA_icA ne_uA_tvA ne_uA_twA ne_uA_tsA ne_uA_tzA ne_sA_lA ne_sA_hA ne_sA_chA ne_sA_icA ne_sA_tvA ne_sA_twA ne_sA_tsA ne_sA_tzA ne_lA_hA ne_lA_chA ne_lA_icA ne_lA_tvA ne_lA_twA ne_lA_tsA ne_lA_tzA ne_hA_chA ne_hA_icA ne_hA_tvA ne_hA_twA ne_hA_tsA ne_hA_tzA ne_chA_icA ne_chA_tvA ne_chA_twA ne_chA_tsA ne_chA_tzA ne_icA_tvA ne_icA_twA ne_icA_tsA ne_icA_tzA ne_tvA_twA ne_tvA_tsA ne_tvA_tzA ne_twA_tsA ne_twA_tzA ne_tsA_tzA hH.ha (by rw [hq]; exact own_b20) (by rw [hq]; exact hb0) tp.1 tp.2 hNC) hZ (wq hw 70 rfl) (wq hw 3 rfl) (by decide) (by decide)) q9a q9c (g := (mkF m 311 (LQ i0 i1 i2 i3 i4 i5 ca cb xv xa xb xy ka kb qq cv cx cz cy ri ami hd cmi [sR o0, sI (Int32.ofNat mm), .unset, .unset, .unset, .unset, .unset]) [(.int ami), (.int xa), (.ref o0)])) rfl (by rw [hml]; rfl) (Steps.refl _) (argsL := [(.int xa), (.int ami)]) (rest := []) (lenOf pd_4 rfl) rfl (leW rfl) (hb hby at_311) (fun _ _ => ⟨rfl, e0, (by decide : 15 + 0 ≤ _), (by decide : 4130 + 0 ≤ _)⟩)
            dsimp only [Pt.U, Pt.locs, Pt.cells, Pt.slots] at X9 l9 y9 z9 st9 hQ9
            subst l9 y9 z9
            obtain ⟨lF_9, hF_9, sF_9, chF_9, icF_9, tvF_9, twF_9, tsF_9, tzF_9, tl_9, cc_9, wF_9, rr9, rfl, N9q, Kq9, f9_0, f9_1, f9_2, f9_3, f9_4, f9_5, f9_6, f9_7, f9_8, f9_9, f9_10, f9_11, f9_12, f9_13, f9_14, rel9⟩ := hQ9
            have c10_9 := fa9.keep Kq9 (ninS ne_vA_tvA (ninS ne_vA_twA (ninS ne_vA_tsA (ninS ne_vA_tzA (ninS (Ne.symm ne_o0_vA) (ninS ne_vA_lA (ninS ne_vA_hA (ninS ne_vA_sA (ninS ne_vA_icA (ninS ne_vA_chA (ninS (Ne.symm ne_uA_vA) nin0)))))))))))
            have K9 : Keep h0 T9.heap [tvA, twA, tsA, tzA, o0, lA, hA, sA, icA, chA, uA, vA] := (Keep.refl h0 [tvA, twA, tsA, tzA, o0, lA, hA, sA, icA, chA, uA, vA]).trans Kq9 (allS (Or.inl (by simp)) (allS (Or.inl (by simp)) (allS (Or.inl (by simp)) (allS (Or.inl (by simp)) (allS (Or.inl (by simp)) (allS (Or.inl (by simp)) (allS (Or.inl (by simp)) (allS (Or.inl (by simp)) (allS (Or.inl (by simp)) (allS (Or.inl (by simp)) (allS (Or.inl (by simp)) all0)))))))))))
            have Z9 := Nat.le_trans Z0 Kq9.1
            have N9 := Fr.app N0 N9q
            refine Go.via (fun t k => st9.trans k) ?_
            refine Vi (T9.setTop (mkF m 327 (LQ i0 i1 i2 i3 i4 i5 ca cb xv xa xb xy ka kb qq cv cx cz cy ri ami hd cmi [sR o0, sI (Int32.ofNat mm), .unset, .unset, .unset, .unset, .unset]) [])) (fun tZ kZ => ?_) ?_
            · refine XS.pop X9.here hx rfl (hb hby at_314) rfl rfl ?_
              refine XS.goto X9.here hx rfl (pc0 := 315) (pc' := 327) rfl (hb hby at_315) (by decide) (by decide) ?_
              exact kZ
            rw [hq] at rel9
            exact tail2 l Z a0 hw ⟨X9, hx, hby, hml, hlk, hret, hZ, hown, Z9, rfl, N9⟩ hH hN hG  ⟨f9_0, f9_1, f9_2, f9_3, f9_4, f9_7, f9_8, f9_6, f9_5, c10_9, f9_9, f9_10, f9_11, f9_12, f9_13, f9_14⟩ hmm (own_Tr.push (by omega) hTr (Or.inl ⟨rfl, rel9.1.1⟩)) rel9.2 rel9.1.2.1 (rel9.1.1.bi hb1 (by decide)) hA0 hA1 hb0 hb1
          · show Go p e below _ (T0.setTop (mkF m 311 (LQ i0 i1 i2 i3 i4 i5 ca cb xv xa xb xy ka kb qq cv cx cz cy ri ami hd cmi [sR o0, sI (Int32.ofNat mm), .unset, .unset, .unset, .unset, .unset]) [(.int ami), (.int xa), (.ref o0)]))
            obtain ⟨cq11, kq11, q11a, q11b, q11c⟩ := isOf hZ e0 fa0
            obtain ⟨_, _, ⟨T11, L11, k11, n11⟩, -, X11, ⟨Lc11, hQ11, l11, y11, z11⟩, st11⟩ := X0.virtualBack hx (y := y6) (z := y6) hown (wz hZ hw 66 rfl) (wz hZ hw 67 rfl) (notFace_of_selects (args := #[]) (wz hZ hw 69 rfl)) (wz hZ hw 69 rfl) (wz hZ hw 68 rfl) (by decide) (backOf (W := 0) (rm6 l Z a0 hw [] o0 xa ami (Int32.ofNat mm) cc lA hA sA cA chA icA bA tvA twA tsA tzA (own_b2 uA vA) vA nV vF sF lF hF chF icF tvF twF tsF tzF h0 n0 Z0 fa0 fa1 fa2 fa3 fa4 fa9 fa7 fa5 fa6 fa10 fa11 fa12 fa13 fa14 fa15 g_o0 g_vA g_sA g_lA g_hA g_chA g_icA g_tvA g_twA g_tsA g_tzA ne_o0_bA ne_o0_vA ne_o0_sA ne_o0_lA ne_o0_hA ne_o0_chA ne_o0_icA ne_o0_tvA ne_o0_twA ne_o0_tsA ne_o0_tzA ne_bA_vA ne_bA_sA ne_bA_lA ne_bA_hA ne_bA_chA ne_bA_icA ne_bA_tvA ne_bA_twA ne_bA_tsA ne_bA_tzA ne_vA_sA ne_vA_lA ne_vA_hA ne_vA_chA ne_vA_icA ne_vA_tvA ne_vA_twA ne_vA_tsA ne_vA_tzA ne_sA_lA ne_sA_hA ne_sA_chA ne_sA_icA ne_sA_tvA ne_sA_twA ne_sA_tsA ne_sA_tzA ne_lA_hA ne_lA_chA ne_lA_icA ne_lA_tvA ne_lA_twA ne_lA_tsA ne_lA_tzA ne_hA_chA ne_hA_icA ne_hA_tvA ne_hA_twA ne_hA_tsA ne_hA_tzA ne_chA_icA ne_chA_tvA ne_chA_twA ne_chA_tsA ne_chA_tzA ne_icA_tvA ne_icA_twA ne_icA_tsA ne_icA_tzA ne_tvA_twA ne_tvA_tsA ne_tvA_tzA ne_twA_tsA ne_twA_tzA ne_tsA_tzA hH.ha (by rw [hq]; exact own_b21) (by rw [hq]; exact hb1) tp.1 tp.2 hNC) hZ (wq hw 70 rfl) (wq hw 3 rfl) (by decide) (by decide)) q11a q11c (g := (mkF m 311 (LQ i0 i1 i2 i3 i4 i5 ca cb xv xa xb xy ka kb qq cv cx cz cy ri ami hd cmi [sR o0, sI (Int32.ofNat mm), .unset, .unset, .unset, .unset, .unset]) [(.int ami), (.int xa), (.ref o0)])) rfl (by rw [hml]; rfl) (Steps.refl _) (argsL := [(.int xa), (.int ami)]) (rest := []) (lenOf pd_4 rfl) rfl (leW rfl) (hb hby at_311) (fun _ _ => ⟨rfl, e0, (by decide : 15 + 0 ≤ _), (by decide : 4130 + 0 ≤ _)⟩)
            dsimp only [Pt.U, Pt.locs, Pt.cells, Pt.slots] at X11 l11 y11 z11 st11 hQ11
            subst l11 y11 z11
            obtain ⟨lF_11, hF_11, sF_11, chF_11, icF_11, tvF_11, twF_11, tsF_11, tzF_11, tl_11, cc_11, wF_11, rr11, rfl, N11q, Kq11, f11_0, f11_1, f11_2, f11_3, f11_4, f11_5, f11_6, f11_7, f11_8, f11_9, f11_10, f11_11, f11_12, f11_13, f11_14, rel11⟩ := hQ11
            have c12_8 := fa8.keep Kq11 (ninS ne_uA_tvA (ninS ne_uA_twA (ninS ne_uA_tsA (ninS ne_uA_tzA (ninS (Ne.symm ne_o0_uA) (ninS ne_uA_lA (ninS ne_uA_hA (ninS ne_uA_sA (ninS ne_uA_icA (ninS ne_uA_chA (ninS ne_uA_vA nin0)))))))))))
            have K11 : Keep h0 T11.heap [tvA, twA, tsA, tzA, o0, lA, hA, sA, icA, chA, uA, vA] := (Keep.refl h0 [tvA, twA, tsA, tzA, o0, lA, hA, sA, icA, chA, uA, vA]).trans Kq11 (allS (Or.inl (by simp)) (allS (Or.inl (by simp)) (allS (Or.inl (by simp)) (allS (Or.inl (by simp)) (allS (Or.inl (by simp)) (allS (Or.inl (by simp)) (allS (Or.inl (by simp)) (allS (Or.inl (by simp)) (allS (Or.inl (by simp)) (allS (Or.inl (by simp)) (allS (Or.inl (by simp)) all0)))))))))))
            have Z11 := Nat.le_trans Z0 Kq11.1
            have N11 := Fr.app N0 N11q
            refine Go.via (fun t k => st11.trans k) ?_
            refine Vi (T11.setTop (mkF m 327 (LQ i0 i1 i2 i3 i4 i5 ca cb xv xa xb xy ka kb qq cv cx cz cy ri ami hd cmi [sR o0, sI (Int32.ofNat mm), .unset, .unset, .unset, .unset, .unset]) [])) (fun tZ kZ => ?_) ?_
            · refine XS.pop X11.here hx rfl (hb hby at_314) rfl rfl ?_
              refine XS.goto X11.here hx rfl (pc0 := 315) (pc' := 327) rfl (hb hby at_315) (by decide) (by decide) ?_
              exact kZ
            rw [hq] at rel11
            exact tail2 l Z a0 hw ⟨X11, hx, hby, hml, hlk, hret, hZ, hown, Z11, rfl, N11⟩ hH hN hG  ⟨f11_0, f11_1, f11_2, f11_3, f11_4, f11_7, f11_8, f11_6, c12_8, f11_5, f11_9, f11_10, f11_11, f11_12, f11_13, f11_14⟩ hmm (own_Tr.push (by omega) hTr (Or.inr ⟨rfl, rel11.1.1⟩)) rel11.2 (rel11.1.1.bi hb0 (by decide)) rel11.1.2.1 hA0 hA1 hb0 hb1
        · refine Vi (T0.setTop (mkF m 293 (LQ i0 i1 i2 i3 i4 i5 ca cb xv xa xb xy ka kb qq cv cx cz cy ri ami hd cmi [sR o0, sI (Int32.ofNat mm), .unset, .unset, .unset, .unset, .unset]) [])) (fun tZ kZ => ?_) ?_
          · show Steps p.tables e below (T0.setTop (mkF m 290 (LQ i0 i1 i2 i3 i4 i5 ca cb xv xa xb xy ka kb qq cv cx cz cy ri ami hd cmi [sR o0, sI (Int32.ofNat mm), .unset, .unset, .unset, .unset, .unset]) [(.int hd)])) _
            refine XS.ifNo X0.here hx rfl (hb hby at_290) rfl ((if0 _ _).trans (feq hc290).1) ?_
            exact kZ
          refine Vi (T0.setTop (mkF m 299 (LQ i0 i1 i2 i3 i4 i5 ca cb xv xa xb xy ka kb qq cv cx cz cy ri ami hd cmi [sR o0, sI (Int32.ofNat mm), .unset, .unset, .unset, .unset, .unset]) [(.int ami), (.int xa), (.ref o0)])) (fun tZ kZ => ?_) ?_
          · refine XS.aload X0.here hx rfl (hb hby at_293) rfl rfl ?_
            refine XS.iload X0.here hx rfl (hb hby at_295) rfl ?_
            refine XS.iload X0.here hx rfl (hb hby at_297) rfl ?_
            exact kZ
          rcases hH.ha with hq | hq
          · show Go p e below _ (T0.setTop (mkF m 299 (LQ i0 i1 i2 i3 i4 i5 ca cb xv xa xb xy ka kb qq cv cx cz cy ri ami hd cmi [sR o0, sI (Int32.ofNat mm), .unset, .unset, .unset, .unset, .unset]) [(.int ami), (.int xa), (.ref o0)]))
            obtain ⟨cq13, kq13, q13a, q13b, q13c⟩ := isOf hZ e0 fa0
            obtain ⟨_, _, ⟨T13, L13, k13, n13⟩, -, X13, ⟨Lc13, hQ13, l13, y13, z13⟩, st13⟩ := X0.virtualBack hx (y := y29) (z := y29) hown (wz hZ hw 172 rfl) (wz hZ hw 173 rfl) (notFace_of_selects (args := #[]) (wz hZ hw 175 rfl)) (wz hZ hw 175 rfl) (wz hZ hw 174 rfl) (by decide) (backOf (W := 0) (rm29 l Z a0 hw [] o0 xa ami (Int32.ofNat mm) cc lA hA sA cA chA icA bA tvA twA tsA tzA (own_b2 uA vA) uA nU uF sF lF hF chF icF tvF twF tsF tzF h0 n0 Z0 fa0 fa1 fa2 fa3 fa4 fa8 fa7 fa5 fa6 fa10 fa11 fa12 fa13 fa14 fa15 g_o0 g_sA g_lA g_hA g_chA g_icA g_tvA g_twA g_tsA g_tzA ne_o0_bA ne_o0_uA ne_o0_sA ne_o0_lA ne_o0_hA ne_o0_chA ne_o0_icA ne_o0_tvA ne_o0_twA ne_o0_tsA ne_o0_tzA ne_bA_uA ne_bA_sA ne_bA_lA ne_bA_hA ne_bA_chA ne_bA_icA ne_bA_tvA ne_bA_twA ne_bA_tsA ne_bA_tzA ne_uA_sA ne_uA_lA ne_uA_hA ne_uA_chA ne_uA_icA ne_uA_tvA ne_uA_twA ne_uA_tsA ne_uA_tzA ne_sA_lA ne_sA_hA ne_sA_chA ne_sA_icA ne_sA_tvA ne_sA_twA ne_sA_tsA ne_sA_tzA ne_lA_hA ne_lA_chA ne_lA_icA ne_lA_tvA ne_lA_twA ne_lA_tsA ne_lA_tzA ne_hA_chA ne_hA_icA ne_hA_tvA ne_hA_twA ne_hA_tsA ne_hA_tzA ne_chA_icA ne_chA_tvA ne_chA_twA ne_chA_tsA ne_chA_tzA ne_icA_tvA ne_icA_twA ne_icA_tsA ne_icA_tzA ne_tvA_twA ne_tvA_tsA ne_tvA_tzA ne_twA_tsA ne_twA_tzA ne_tsA_tzA hH.ha (by rw [hq]; exact own_b20) (by rw [hq]; exact hb0) tp.1 tp.2 hNC (by rw [hq]; exact hH.hd0 hq hc290 hA0 hb0)) hZ (wq hw 176 rfl) (wq hw 3 rfl) (by decide) (by decide)) q13a q13c (g := (mkF m 299 (LQ i0 i1 i2 i3 i4 i5 ca cb xv xa xb xy ka kb qq cv cx cz cy ri ami hd cmi [sR o0, sI (Int32.ofNat mm), .unset, .unset, .unset, .unset, .unset]) [(.int ami), (.int xa), (.ref o0)])) rfl (by rw [hml]; rfl) (Steps.refl _) (argsL := [(.int xa), (.int ami)]) (rest := []) (lenOf pd_15 rfl) rfl (leW rfl) (hb hby at_299) (fun _ _ => ⟨rfl, e0, (by decide : 15 + 0 ≤ _), (by decide : 4130 + 0 ≤ _)⟩)
            dsimp only [Pt.U, Pt.locs, Pt.cells, Pt.slots] at X13 l13 y13 z13 st13 hQ13
            subst l13 y13 z13
            obtain ⟨lF_13, hF_13, sF_13, chF_13, icF_13, tvF_13, twF_13, tsF_13, tzF_13, tl_13, cc_13, rr13, rfl, N13q, Kq13, f13_0, f13_1, f13_2, f13_3, f13_4, f13_5, f13_6, f13_7, f13_8, f13_9, f13_10, f13_11, f13_12, f13_13, f13_14, rel13⟩ := hQ13
            have c14_9 := fa9.keep Kq13 (ninS ne_vA_tvA (ninS ne_vA_twA (ninS ne_vA_tsA (ninS ne_vA_tzA (ninS (Ne.symm ne_o0_vA) (ninS ne_vA_lA (ninS ne_vA_hA (ninS ne_vA_sA (ninS ne_vA_icA (ninS ne_vA_chA nin0))))))))))
            have K13 : Keep h0 T13.heap [tvA, twA, tsA, tzA, o0, lA, hA, sA, icA, chA, uA, vA] := (Keep.refl h0 [tvA, twA, tsA, tzA, o0, lA, hA, sA, icA, chA, uA, vA]).trans Kq13 (allS (Or.inl (by simp)) (allS (Or.inl (by simp)) (allS (Or.inl (by simp)) (allS (Or.inl (by simp)) (allS (Or.inl (by simp)) (allS (Or.inl (by simp)) (allS (Or.inl (by simp)) (allS (Or.inl (by simp)) (allS (Or.inl (by simp)) (allS (Or.inl (by simp)) all0))))))))))
            have Z13 := Nat.le_trans Z0 Kq13.1
            have N13 := Fr.app N0 N13q
            refine Go.via (fun t k => st13.trans k) ?_
            refine Vi (T13.setTop (mkF m 327 (LQ i0 i1 i2 i3 i4 i5 ca cb xv xa xb xy ka kb qq cv cx cz cy ri ami hd cmi [sR o0, sI (Int32.ofNat mm), .unset, .unset, .unset, .unset, .unset]) [])) (fun tZ kZ => ?_) ?_
            · refine XS.goto X13.here hx rfl (pc0 := 302) (pc' := 327) rfl (hb hby at_302) (by decide) (by decide) ?_
              exact kZ
            rw [hq] at rel13
            exact tail2 l Z a0 hw ⟨X13, hx, hby, hml, hlk, hret, hZ, hown, Z13, rfl, N13⟩ hH hN hG  ⟨f13_0, f13_1, f13_2, f13_3, f13_4, f13_7, f13_8, f13_6, f13_5, c14_9, f13_9, f13_10, f13_11, f13_12, f13_13, f13_14⟩ hmm (own_Tr.push (by omega) hTr (Or.inl ⟨rfl, rel13.1.1⟩)) rel13.2 rel13.1.2 (rel13.1.1.bi hb1 (by decide)) hA0 hA1 hb0 hb1
          · show Go p e below _ (T0.setTop (mkF m 299 (LQ i0 i1 i2 i3 i4 i5 ca cb xv xa xb xy ka kb qq cv cx cz cy ri ami hd cmi [sR o0, sI (Int32.ofNat mm), .unset, .unset, .unset, .unset, .unset]) [(.int ami), (.int xa), (.ref o0)]))
            obtain ⟨cq15, kq15, q15a, q15b, q15c⟩ := isOf hZ e0 fa0
            obtain ⟨_, _, ⟨T15, L15, k15, n15⟩, -, X15, ⟨Lc15, hQ15, l15, y15, z15⟩, st15⟩ := X0.virtualBack hx (y := y29) (z := y29) hown (wz hZ hw 172 rfl) (wz hZ hw 173 rfl) (notFace_of_selects (args := #[]) (wz hZ hw 175 rfl)) (wz hZ hw 175 rfl) (wz hZ hw 174 rfl) (by decide) (backOf (W := 0) (rm29 l Z a0 hw [] o0 xa ami (Int32.ofNat mm) cc lA hA sA cA chA icA bA tvA twA tsA tzA (own_b2 uA vA) vA nV vF sF lF hF chF icF tvF twF tsF tzF h0 n0 Z0 fa0 fa1 fa2 fa3 fa4 fa9 fa7 fa5 fa6 fa10 fa11 fa12 fa13 fa14 fa15 g_o0 g_sA g_lA g_hA g_chA g_icA g_tvA g_twA g_tsA g_tzA ne_o0_bA ne_o0_vA ne_o0_sA ne_o0_lA ne_o0_hA ne_o0_chA ne_o0_icA ne_o0_tvA ne_o0_twA ne_o0_tsA ne_o0_tzA ne_bA_vA ne_bA_sA ne_bA_lA ne_bA_hA ne_bA_chA ne_bA_icA ne_bA_tvA ne_bA_twA ne_bA_tsA ne_bA_tzA ne_vA_sA ne_vA_lA ne_vA_hA ne_vA_chA ne_vA_icA ne_vA_tvA ne_vA_twA ne_vA_tsA ne_vA_tzA ne_sA_lA ne_sA_hA ne_sA_chA ne_sA_icA ne_sA_tvA ne_sA_twA ne_sA_tsA ne_sA_tzA ne_lA_hA ne_lA_chA ne_lA_icA ne_lA_tvA ne_lA_twA ne_lA_tsA ne_lA_tzA ne_hA_chA ne_hA_icA ne_hA_tvA ne_hA_twA ne_hA_tsA ne_hA_tzA ne_chA_icA ne_chA_tvA ne_chA_twA ne_chA_tsA ne_chA_tzA ne_icA_tvA ne_icA_twA ne_icA_tsA ne_icA_tzA ne_tvA_twA ne_tvA_tsA ne_tvA_tzA ne_twA_tsA ne_twA_tzA ne_tsA_tzA hH.ha (by rw [hq]; exact own_b21) (by rw [hq]; exact hb1) tp.1 tp.2 hNC (by rw [hq]; exact hH.hd1 hq hc290 hA1 hb1)) hZ (wq hw 176 rfl) (wq hw 3 rfl) (by decide) (by decide)) q15a q15c (g := (mkF m 299 (LQ i0 i1 i2 i3 i4 i5 ca cb xv xa xb xy ka kb qq cv cx cz cy ri ami hd cmi [sR o0, sI (Int32.ofNat mm), .unset, .unset, .unset, .unset, .unset]) [(.int ami), (.int xa), (.ref o0)])) rfl (by rw [hml]; rfl) (Steps.refl _) (argsL := [(.int xa), (.int ami)]) (rest := []) (lenOf pd_15 rfl) rfl (leW rfl) (hb hby at_299) (fun _ _ => ⟨rfl, e0, (by decide : 15 + 0 ≤ _), (by decide : 4130 + 0 ≤ _)⟩)
            dsimp only [Pt.U, Pt.locs, Pt.cells, Pt.slots] at X15 l15 y15 z15 st15 hQ15
            subst l15 y15 z15
            obtain ⟨lF_15, hF_15, sF_15, chF_15, icF_15, tvF_15, twF_15, tsF_15, tzF_15, tl_15, cc_15, rr15, rfl, N15q, Kq15, f15_0, f15_1, f15_2, f15_3, f15_4, f15_5, f15_6, f15_7, f15_8, f15_9, f15_10, f15_11, f15_12, f15_13, f15_14, rel15⟩ := hQ15
            have c16_8 := fa8.keep Kq15 (ninS ne_uA_tvA (ninS ne_uA_twA (ninS ne_uA_tsA (ninS ne_uA_tzA (ninS (Ne.symm ne_o0_uA) (ninS ne_uA_lA (ninS ne_uA_hA (ninS ne_uA_sA (ninS ne_uA_icA (ninS ne_uA_chA nin0))))))))))
            have K15 : Keep h0 T15.heap [tvA, twA, tsA, tzA, o0, lA, hA, sA, icA, chA, uA, vA] := (Keep.refl h0 [tvA, twA, tsA, tzA, o0, lA, hA, sA, icA, chA, uA, vA]).trans Kq15 (allS (Or.inl (by simp)) (allS (Or.inl (by simp)) (allS (Or.inl (by simp)) (allS (Or.inl (by simp)) (allS (Or.inl (by simp)) (allS (Or.inl (by simp)) (allS (Or.inl (by simp)) (allS (Or.inl (by simp)) (allS (Or.inl (by simp)) (allS (Or.inl (by simp)) all0))))))))))
            have Z15 := Nat.le_trans Z0 Kq15.1
            have N15 := Fr.app N0 N15q
            refine Go.via (fun t k => st15.trans k) ?_
            refine Vi (T15.setTop (mkF m 327 (LQ i0 i1 i2 i3 i4 i5 ca cb xv xa xb xy ka kb qq cv cx cz cy ri ami hd cmi [sR o0, sI (Int32.ofNat mm), .unset, .unset, .unset, .unset, .unset]) [])) (fun tZ kZ => ?_) ?_
            · refine XS.goto X15.here hx rfl (pc0 := 302) (pc' := 327) rfl (hb hby at_302) (by decide) (by decide) ?_
              exact kZ
            rw [hq] at rel15
            exact tail2 l Z a0 hw ⟨X15, hx, hby, hml, hlk, hret, hZ, hown, Z15, rfl, N15⟩ hH hN hG  ⟨f15_0, f15_1, f15_2, f15_3, f15_4, f15_7, f15_8, f15_6, c16_8, f15_5, f15_9, f15_10, f15_11, f15_12, f15_13, f15_14⟩ hmm (own_Tr.push (by omega) hTr (Or.inr ⟨rfl, rel15.1.1⟩)) rel15.2 (rel15.1.1.bi hb0 (by decide)) rel15.1.2 hA0 hA1 hb0 hb1
      · refine Vi (T0.setTop (mkF m 318 (LQ i0 i1 i2 i3 i4 i5 ca cb xv xa xb xy ka kb qq cv cx cz cy ri ami hd cmi [sR o0, sI (Int32.ofNat mm), .unset, .unset, .unset, .unset, .unset]) [])) (fun tZ kZ => ?_) ?_
        · show Steps p.tables e below (T0.setTop (mkF m 285 (LQ i0 i1 i2 i3 i4 i5 ca cb xv xa xb xy ka kb qq cv cx cz cy ri ami hd cmi [sR o0, sI (Int32.ofNat mm), .unset, .unset, .unset, .unset, .unset]) [(.int 2), (.int ka)])) _
          refine XS.icmpYes X0.here hx rfl (pc0 := 285) (pc' := 318) rfl (hb hby at_285) rfl (feq hc285).2 (by decide) (by decide) ?_
          exact kZ
        refine Vi (T0.setTop (mkF m 323 (LQ i0 i1 i2 i3 i4 i5 ca cb xv xa xb xy ka kb qq cv cx cz cy ri ami hd cmi [sR o0, sI (Int32.ofNat mm), .unset, .unset, .unset, .unset, .unset]) [(.int i2), (.int xa), (.ref o0)])) (fun tZ kZ => ?_) ?_
        · refine XS.aload X0.here hx rfl (hb hby at_318) rfl rfl ?_
          refine XS.iload X0.here hx rfl (hb hby at_320) rfl ?_
          refine XS.iloadN X0.here hx rfl (hb hby at_322) rfl ?_
          exact kZ
        rcases hH.ha with hq | hq
        · show Go p e below _ (T0.setTop (mkF m 323 (LQ i0 i1 i2 i3 i4 i5 ca cb xv xa xb xy ka kb qq cv cx cz cy ri ami hd cmi [sR o0, sI (Int32.ofNat mm), .unset, .unset, .unset, .unset, .unset]) [(.int i2), (.int xa), (.ref o0)]))
          obtain ⟨cq17, kq17, q17a, q17b, q17c⟩ := isOf hZ e0 fa0
          obtain ⟨_, _, ⟨T17, L17, k17, n17⟩, -, X17, ⟨Lc17, hQ17, l17, y17, z17⟩, st17⟩ := X0.virtualBack hx (y := y6) (z := y6) hown (wz hZ hw 66 rfl) (wz hZ hw 67 rfl) (notFace_of_selects (args := #[]) (wz hZ hw 69 rfl)) (wz hZ hw 69 rfl) (wz hZ hw 68 rfl) (by decide) (backOf (W := 0) (rm6 l Z a0 hw [] o0 xa i2 (Int32.ofNat mm) cc lA hA sA cA chA icA bA tvA twA tsA tzA (own_b2 uA vA) uA nU uF sF lF hF chF icF tvF twF tsF tzF h0 n0 Z0 fa0 fa1 fa2 fa3 fa4 fa8 fa7 fa5 fa6 fa10 fa11 fa12 fa13 fa14 fa15 g_o0 g_uA g_sA g_lA g_hA g_chA g_icA g_tvA g_twA g_tsA g_tzA ne_o0_bA ne_o0_uA ne_o0_sA ne_o0_lA ne_o0_hA ne_o0_chA ne_o0_icA ne_o0_tvA ne_o0_twA ne_o0_tsA ne_o0_tzA ne_bA_uA ne_bA_sA ne_bA_lA ne_bA_hA ne_bA_chA ne_bA_icA ne_bA_tvA ne_bA_twA ne_bA_tsA ne_bA_tzA ne_uA_sA ne_uA_lA ne_uA_hA ne_uA_chA ne_uA_icA ne_uA_tvA ne_uA_twA ne_uA_tsA ne_uA_tzA ne_sA_lA ne_sA_hA ne_sA_chA ne_sA_icA ne_sA_tvA ne_sA_twA ne_sA_tsA ne_sA_tzA ne_lA_hA ne_lA_chA ne_lA_icA ne_lA_tvA ne_lA_twA ne_lA_tsA ne_lA_tzA ne_hA_chA ne_hA_icA ne_hA_tvA ne_hA_twA ne_hA_tsA ne_hA_tzA ne_chA_icA ne_chA_tvA ne_chA_twA ne_chA_tsA ne_chA_tzA ne_icA_tvA ne_icA_twA ne_icA_tsA ne_icA_tzA ne_tvA_twA ne_tvA_tsA ne_tvA_tzA ne_twA_tsA ne_twA_tzA ne_tsA_tzA hH.ha (by rw [hq]; exact own_b20) (by rw [hq]; exact hb0) tp.1 tp.2 hNC) hZ (wq hw 70 rfl) (wq hw 3 rfl) (by decide) (by decide)) q17a q17c (g := (mkF m 323 (LQ i0 i1 i2 i3 i4 i5 ca cb xv xa xb xy ka kb qq cv cx cz cy ri ami hd cmi [sR o0, sI (Int32.ofNat mm), .unset, .unset, .unset, .unset, .unset]) [(.int i2), (.int xa), (.ref o0)])) rfl (by rw [hml]; rfl) (Steps.refl _) (argsL := [(.int xa), (.int i2)]) (rest := []) (lenOf pd_4 rfl) rfl (leW rfl) (hb hby at_323) (fun _ _ => ⟨rfl, e0, (by decide : 15 + 0 ≤ _), (by decide : 4130 + 0 ≤ _)⟩)
          dsimp only [Pt.U, Pt.locs, Pt.cells, Pt.slots] at X17 l17 y17 z17 st17 hQ17
          subst l17 y17 z17
          obtain ⟨lF_17, hF_17, sF_17, chF_17, icF_17, tvF_17, twF_17, tsF_17, tzF_17, tl_17, cc_17, wF_17, rr17, rfl, N17q, Kq17, f17_0, f17_1, f17_2, f17_3, f17_4, f17_5, f17_6, f17_7, f17_8, f17_9, f17_10, f17_11, f17_12, f17_13, f17_14, rel17⟩ := hQ17
          have c18_9 := fa9.keep Kq17 (ninS ne_vA_tvA (ninS ne_vA_twA (ninS ne_vA_tsA (ninS ne_vA_tzA (ninS (Ne.symm ne_o0_vA) (ninS ne_vA_lA (ninS ne_vA_hA (ninS ne_vA_sA (ninS ne_vA_icA (ninS ne_vA_chA (ninS (Ne.symm ne_uA_vA) nin0)))))))))))
          have K17 : Keep h0 T17.heap [tvA, twA, tsA, tzA, o0, lA, hA, sA, icA, chA, uA, vA] := (Keep.refl h0 [tvA, twA, tsA, tzA, o0, lA, hA, sA, icA, chA, uA, vA]).trans Kq17 (allS (Or.inl (by simp)) (allS (Or.inl (by simp)) (allS (Or.inl (by simp)) (allS (Or.inl (by simp)) (allS (Or.inl (by simp)) (allS (Or.inl (by simp)) (allS (Or.inl (by simp)) (allS (Or.inl (by simp)) (allS (Or.inl (by simp)) (allS (Or.inl (by simp)) (allS (Or.inl (by simp)) all0)))))))))))
          have Z17 := Nat.le_trans Z0 Kq17.1
          have N17 := Fr.app N0 N17q
          refine Go.via (fun t k => st17.trans k) ?_
          refine Vi (T17.setTop (mkF m 327 (LQ i0 i1 i2 i3 i4 i5 ca cb xv xa xb xy ka kb qq cv cx cz cy ri ami hd cmi [sR o0, sI (Int32.ofNat mm), .unset, .unset, .unset, .unset, .unset]) [])) (fun tZ kZ => ?_) ?_
          · refine XS.pop X17.here hx rfl (hb hby at_326) rfl rfl ?_
            exact kZ
          rw [hq] at rel17
          exact tail2 l Z a0 hw ⟨X17, hx, hby, hml, hlk, hret, hZ, hown, Z17, rfl, N17⟩ hH hN hG  ⟨f17_0, f17_1, f17_2, f17_3, f17_4, f17_7, f17_8, f17_6, f17_5, c18_9, f17_9, f17_10, f17_11, f17_12, f17_13, f17_14⟩ hmm (own_Tr.push (by omega) hTr (Or.inl ⟨rfl, rel17.1.1⟩)) rel17.2 rel17.1.2.1 (rel17.1.1.bi hb1 (by decide)) hA0 hA1 hb0 hb1
        · show Go p e below _ (T0.setTop (mkF m 323 (LQ i0 i1 i2 i3 i4 i5 ca cb xv xa xb xy ka kb qq cv cx cz cy ri ami hd cmi [sR o0, sI (Int32.ofNat mm), .unset, .unset, .unset, .unset, .unset]) [(.int i2), (.int xa), (.ref o0)]))
          obtain ⟨cq19, kq19, q19a, q19b, q19c⟩ := isOf hZ e0 fa0
          obtain ⟨_, _, ⟨T19, L19, k19, n19⟩, -, X19, ⟨Lc19, hQ19, l19, y19, z19⟩, st19⟩ := X0.virtualBack hx (y := y6) (z := y6) hown (wz hZ hw 66 rfl) (wz hZ hw 67 rfl) (notFace_of_selects (args := #[]) (wz hZ hw 69 rfl)) (wz hZ hw 69 rfl) (wz hZ hw 68 rfl) (by decide) (backOf (W := 0) (rm6 l Z a0 hw [] o0 xa i2 (Int32.ofNat mm) cc lA hA sA cA chA icA bA tvA twA tsA tzA (own_b2 uA vA) vA nV vF sF lF hF chF icF tvF twF tsF tzF h0 n0 Z0 fa0 fa1 fa2 fa3 fa4 fa9 fa7 fa5 fa6 fa10 fa11 fa12 fa13 fa14 fa15 g_o0 g_vA g_sA g_lA g_hA g_chA g_icA g_tvA g_twA g_tsA g_tzA ne_o0_bA ne_o0_vA ne_o0_sA ne_o0_lA ne_o0_hA ne_o0_chA ne_o0_icA ne_o0_tvA ne_o0_twA ne_o0_tsA ne_o0_tzA ne_bA_vA ne_bA_sA ne_bA_lA ne_bA_hA ne_bA_chA ne_bA_icA ne_bA_tvA ne_bA_twA ne_bA_tsA ne_bA_tzA ne_vA_sA ne_vA_lA ne_vA_hA ne_vA_chA ne_vA_icA ne_vA_tvA ne_vA_twA ne_vA_tsA ne_vA_tzA ne_sA_lA ne_sA_hA ne_sA_chA ne_sA_icA ne_sA_tvA ne_sA_twA ne_sA_tsA ne_sA_tzA ne_lA_hA ne_lA_chA ne_lA_icA ne_lA_tvA ne_lA_twA ne_lA_tsA ne_lA_tzA ne_hA_chA ne_hA_icA ne_hA_tvA ne_hA_twA ne_hA_tsA ne_hA_tzA ne_chA_icA ne_chA_tvA ne_chA_twA ne_chA_tsA ne_chA_tzA ne_icA_tvA ne_icA_twA ne_icA_tsA ne_icA_tzA ne_tvA_twA ne_tvA_tsA ne_tvA_tzA ne_twA_tsA ne_twA_tzA ne_tsA_tzA hH.ha (by rw [hq]; exact own_b21) (by rw [hq]; exact hb1) tp.1 tp.2 hNC) hZ (wq hw 70 rfl) (wq hw 3 rfl) (by decide) (by decide)) q19a q19c (g := (mkF m 323 (LQ i0 i1 i2 i3 i4 i5 ca cb xv xa xb xy ka kb qq cv cx cz cy ri ami hd cmi [sR o0, sI (Int32.ofNat mm), .unset, .unset, .unset, .unset, .unset]) [(.int i2), (.int xa), (.ref o0)])) rfl (by rw [hml]; rfl) (Steps.refl _) (argsL := [(.int xa), (.int i2)]) (rest := []) (lenOf pd_4 rfl) rfl (leW rfl) (hb hby at_323) (fun _ _ => ⟨rfl, e0, (by decide : 15 + 0 ≤ _), (by decide : 4130 + 0 ≤ _)⟩)
          dsimp only [Pt.U, Pt.locs, Pt.cells, Pt.slots] at X19 l19 y19 z19 st19 hQ19
          subst l19 y19 z19
          obtain ⟨lF_19, hF_19, sF_19, chF_19, icF_19, tvF_19, twF_19, tsF_19, tzF_19, tl_19, cc_19, wF_19, rr19, rfl, N19q, Kq19, f19_0, f19_1, f19_2, f19_3, f19_4, f19_5, f19_6, f19_7, f19_8, f19_9, f19_10, f19_11, f19_12, f19_13, f19_14, rel19⟩ := hQ19
          have c20_8 := fa8.keep Kq19 (ninS ne_uA_tvA (ninS ne_uA_twA (ninS ne_uA_tsA (ninS ne_uA_tzA (ninS (Ne.symm ne_o0_uA) (ninS ne_uA_lA (ninS ne_uA_hA (ninS ne_uA_sA (ninS ne_uA_icA (ninS ne_uA_chA (ninS ne_uA_vA nin0)))))))))))
          have K19 : Keep h0 T19.heap [tvA, twA, tsA, tzA, o0, lA, hA, sA, icA, chA, uA, vA] := (Keep.refl h0 [tvA, twA, tsA, tzA, o0, lA, hA, sA, icA, chA, uA, vA]).trans Kq19 (allS (Or.inl (by simp)) (allS (Or.inl (by simp)) (allS (Or.inl (by simp)) (allS (Or.inl (by simp)) (allS (Or.inl (by simp)) (allS (Or.inl (by simp)) (allS (Or.inl (by simp)) (allS (Or.inl (by simp)) (allS (Or.inl (by simp)) (allS (Or.inl (by simp)) (allS (Or.inl (by simp)) all0)))))))))))
          have Z19 := Nat.le_trans Z0 Kq19.1
          have N19 := Fr.app N0 N19q
          refine Go.via (fun t k => st19.trans k) ?_
          refine Vi (T19.setTop (mkF m 327 (LQ i0 i1 i2 i3 i4 i5 ca cb xv xa xb xy ka kb qq cv cx cz cy ri ami hd cmi [sR o0, sI (Int32.ofNat mm), .unset, .unset, .unset, .unset, .unset]) [])) (fun tZ kZ => ?_) ?_
          · refine XS.pop X19.here hx rfl (hb hby at_326) rfl rfl ?_
            exact kZ
          rw [hq] at rel19
          exact tail2 l Z a0 hw ⟨X19, hx, hby, hml, hlk, hret, hZ, hown, Z19, rfl, N19⟩ hH hN hG  ⟨f19_0, f19_1, f19_2, f19_3, f19_4, f19_7, f19_8, f19_6, c20_8, f19_5, f19_9, f19_10, f19_11, f19_12, f19_13, f19_14⟩ hmm (own_Tr.push (by omega) hTr (Or.inr ⟨rfl, rel19.1.1⟩)) rel19.2 (rel19.1.1.bi hb0 (by decide)) rel19.1.2.1 hA0 hA1 hb0 hb1
theorem pd_5 : parseMethodDescriptor "()I" = some ⟨[], some .int⟩ := by decide +kernel
theorem tail0 (l : Launch) (Z : State) (a0 : Array Value) (hw : HW a0 Z) {p : Program} {e : Env} {s : State} {m : MethodId} {args : Array Value} {below : List Frame} {meth : Method} {c : Code} {T0 : State} {locs0 : List Loc} {h0 : Heap} {n0 : Nat} (hC : Com l p e s m args below meth c T0 locs0 h0 n0 Z) {i0 i1 i2 i3 i4 i5 ca cb xv xa xb xy ka kb qq cv cx cz cy ri ami hd cmi : Int32} {o0 lA hA sA cA chA icA bA tvA twA tsA tzA uA vA : Addr} {nU nV : Nat} (hH : own_H xv xa xb xy ca cb cv cx cz cy ri ami hd nU nV) (hN : NEs o0 bA uA vA sA lA hA chA icA tvA twA tsA tzA) (hG : GEs n0 o0 uA vA sA lA hA chA icA tvA twA tsA tzA)  (hS : Sts Z h0 o0 lA hA sA cA chA icA bA tvA twA tsA tzA uA vA nU nV (0 : Int32) (0 : Int32) (own_2 0 0) (own_2 (ca - 1) (cb - 1)) (own_2 ca cb) (fun _ => (-1 : Int64)) (fun _ => (-1 : Int64)) (fun _ => (0 : Int32)) (fun _ => (0 : Int32)) (fun _ => (0 : Int32)) (fun _ => (0 : Int32)) (fun _ => (0 : Int64)) (fun _ => (0 : Int32)))  :
    Go p e below (fun o u => ∃ v L, o = .returned v ∧ Q0 n0 v u.heap L ∧ FrameEnd s o u L 40 8384) (T0.setTop (mkF m 218 (LQ i0 i1 i2 i3 i4 i5 ca cb xv xa xb xy ka kb qq cv cx cz cy ri ami hd cmi [sR o0, .unset, .unset, .unset, .unset, .unset, .unset]) [])) := by
  obtain ⟨X0, hx, hby, hml, hlk, hret, hZ, hown, Z0, e0, N0⟩ := hC
  obtain ⟨ne_o0_bA, ne_o0_uA, ne_o0_vA, ne_o0_sA, ne_o0_lA, ne_o0_hA, ne_o0_chA, ne_o0_icA, ne_o0_tvA, ne_o0_twA, ne_o0_tsA, ne_o0_tzA, ne_bA_uA, ne_bA_vA, ne_bA_sA, ne_bA_lA, ne_bA_hA, ne_bA_chA, ne_bA_icA, ne_bA_tvA, ne_bA_twA, ne_bA_tsA, ne_bA_tzA, ne_uA_vA, ne_uA_sA, ne_uA_lA, ne_uA_hA, ne_uA_chA, ne_uA_icA, ne_uA_tvA, ne_uA_twA, ne_uA_tsA, ne_uA_tzA, ne_vA_sA, ne_vA_lA, ne_vA_hA, ne_vA_chA, ne_vA_icA, ne_vA_tvA, ne_vA_twA, ne_vA_tsA, ne_vA_tzA, ne_sA_lA, ne_sA_hA, ne_sA_chA, ne_sA_icA, ne_sA_tvA, ne_sA_twA, ne_sA_tsA, ne_sA_tzA, ne_lA_hA, ne_lA_chA, ne_lA_icA, ne_lA_tvA, ne_lA_twA, ne_lA_tsA, ne_lA_tzA, ne_hA_chA, ne_hA_icA, ne_hA_tvA, ne_hA_twA, ne_hA_tsA, ne_hA_tzA, ne_chA_icA, ne_chA_tvA, ne_chA_twA, ne_chA_tsA, ne_chA_tzA, ne_icA_tvA, ne_icA_twA, ne_icA_tsA, ne_icA_tzA, ne_tvA_twA, ne_tvA_tsA, ne_tvA_tzA, ne_twA_tsA, ne_twA_tzA, ne_tsA_tzA⟩ := id hN
  obtain ⟨g_o0, g_uA, g_vA, g_sA, g_lA, g_hA, g_chA, g_icA, g_tvA, g_twA, g_tsA, g_tzA⟩ := id hG
  obtain ⟨fa0, fa1, fa2, fa3, fa4, fa5, fa6, fa7, fa8, fa9, fa10, fa11, fa12, fa13, fa14, fa15⟩ := hS
  refine Vi (T0.setTop (mkF m 224 (LQ i0 i1 i2 i3 i4 i5 ca cb xv xa xb xy ka kb qq cv cx cz cy ri ami hd cmi [sR o0, .unset, .unset, .unset, .unset, .unset, .unset]) [(.int ri), (.int xv), (.ref o0)])) (fun tZ kZ => ?_) ?_
  · refine XS.aload X0.here hx rfl (hb hby at_218) rfl rfl ?_
    refine XS.iload X0.here hx rfl (hb hby at_220) rfl ?_
    refine XS.iload X0.here hx rfl (hb hby at_222) rfl ?_
    exact kZ
  rcases hH.hv with hq | hq
  · show Go p e below _ (T0.setTop (mkF m 224 (LQ i0 i1 i2 i3 i4 i5 ca cb xv xa xb xy ka kb qq cv cx cz cy ri ami hd cmi [sR o0, .unset, .unset, .unset, .unset, .unset, .unset]) [(.int ri), (.int xv), (.ref o0)]))
    obtain ⟨cq1, kq1, q1a, q1b, q1c⟩ := isOf hZ e0 fa0
    obtain ⟨_, _, ⟨T1, L1, k1, n1⟩, -, X1, ⟨Lc1, hQ1, l1, y1, z1⟩, st1⟩ := X0.virtualBack hx (y := y6) (z := y6) hown (wz hZ hw 66 rfl) (wz hZ hw 67 rfl) (notFace_of_selects (args := #[]) (wz hZ hw 69 rfl)) (wz hZ hw 69 rfl) (wz hZ hw 68 rfl) (by decide) (backOf (W := 0) (rm6 l Z a0 hw [] o0 xv ri (0 : Int32) (0 : Int32) lA hA sA cA chA icA bA tvA twA tsA tzA (own_b2 uA vA) uA nU (fun _ => (-1 : Int64)) (own_2 ca cb) (own_2 0 0) (own_2 (ca - 1) (cb - 1)) (fun _ => (0 : Int32)) (fun _ => (0 : Int32)) (fun _ => (0 : Int32)) (fun _ => (0 : Int32)) (fun _ => (0 : Int64)) (fun _ => (0 : Int32)) h0 n0 Z0 fa0 fa1 fa2 fa3 fa4 fa8 fa7 fa5 fa6 fa10 fa11 fa12 fa13 fa14 fa15 g_o0 g_uA g_sA g_lA g_hA g_chA g_icA g_tvA g_twA g_tsA g_tzA ne_o0_bA ne_o0_uA ne_o0_sA ne_o0_lA ne_o0_hA ne_o0_chA ne_o0_icA ne_o0_tvA ne_o0_twA ne_o0_tsA ne_o0_tzA ne_bA_uA ne_bA_sA ne_bA_lA ne_bA_hA ne_bA_chA ne_bA_icA ne_bA_tvA ne_bA_twA ne_bA_tsA ne_bA_tzA ne_uA_sA ne_uA_lA ne_uA_hA ne_uA_chA ne_uA_icA ne_uA_tvA ne_uA_twA ne_uA_tsA ne_uA_tzA ne_sA_lA ne_sA_hA ne_sA_chA ne_sA_icA ne_sA_tvA ne_sA_twA ne_sA_tsA ne_sA_tzA ne_lA_hA ne_lA_chA ne_lA_icA ne_lA_tvA ne_lA_twA ne_lA_tsA ne_lA_tzA ne_hA_chA ne_hA_icA ne_hA_tvA ne_hA_twA ne_hA_tsA ne_hA_tzA ne_chA_icA ne_chA_tvA ne_chA_twA ne_chA_tsA ne_chA_tzA ne_icA_tvA ne_icA_twA ne_icA_tsA ne_icA_tzA ne_tvA_twA ne_tvA_tsA ne_tvA_tzA ne_twA_tsA ne_twA_tzA ne_tsA_tzA hH.hv (by rw [hq]; exact own_b20) (by rw [hq]; exact hH.f0) (by decide) (by decide) rfl) hZ (wq hw 70 rfl) (wq hw 3 rfl) (by decide) (by decide)) q1a q1c (g := (mkF m 224 (LQ i0 i1 i2 i3 i4 i5 ca cb xv xa xb xy ka kb qq cv cx cz cy ri ami hd cmi [sR o0, .unset, .unset, .unset, .unset, .unset, .unset]) [(.int ri), (.int xv), (.ref o0)])) rfl (by rw [hml]; rfl) (Steps.refl _) (argsL := [(.int xv), (.int ri)]) (rest := []) (lenOf pd_4 rfl) rfl (leW rfl) (hb hby at_224) (fun _ _ => ⟨rfl, e0, (by decide : 15 + 0 ≤ _), (by decide : 4130 + 0 ≤ _)⟩)
    dsimp only [Pt.U, Pt.locs, Pt.cells, Pt.slots] at X1 l1 y1 z1 st1 hQ1
    subst l1 y1 z1
    obtain ⟨lF_1, hF_1, sF_1, chF_1, icF_1, tvF_1, twF_1, tsF_1, tzF_1, tl_1, cc_1, wF_1, rr1, rfl, N1q, Kq1, f1_0, f1_1, f1_2, f1_3, f1_4, f1_5, f1_6, f1_7, f1_8, f1_9, f1_10, f1_11, f1_12, f1_13, f1_14, rel1⟩ := hQ1
    have c2_9 := fa9.keep Kq1 (ninS ne_vA_tvA (ninS ne_vA_twA (ninS ne_vA_tsA (ninS ne_vA_tzA (ninS (Ne.symm ne_o0_vA) (ninS ne_vA_lA (ninS ne_vA_hA (ninS ne_vA_sA (ninS ne_vA_icA (ninS ne_vA_chA (ninS (Ne.symm ne_uA_vA) nin0)))))))))))
    have K1 : Keep h0 T1.heap [tvA, twA, tsA, tzA, o0, lA, hA, sA, icA, chA, uA, vA] := (Keep.refl h0 [tvA, twA, tsA, tzA, o0, lA, hA, sA, icA, chA, uA, vA]).trans Kq1 (allS (Or.inl (by simp)) (allS (Or.inl (by simp)) (allS (Or.inl (by simp)) (allS (Or.inl (by simp)) (allS (Or.inl (by simp)) (allS (Or.inl (by simp)) (allS (Or.inl (by simp)) (allS (Or.inl (by simp)) (allS (Or.inl (by simp)) (allS (Or.inl (by simp)) (allS (Or.inl (by simp)) all0)))))))))))
    have Z1 := Nat.le_trans Z0 Kq1.1
    have N1 := Fr.app N0 N1q
    refine Go.via (fun t k => st1.trans k) ?_
    refine Vi (T1.setTop (mkF m 230 (LQ i0 i1 i2 i3 i4 i5 ca cb xv xa xb xy ka kb qq cv cx cz cy ri ami hd cmi [sR o0, .unset, .unset, .unset, .unset, .unset, .unset]) [(.ref o0)])) (fun tZ kZ => ?_) ?_
    · refine XS.pop X1.here hx rfl (hb hby at_227) rfl rfl ?_
      refine XS.aload X1.here hx rfl (hb hby at_228) rfl rfl ?_
      exact kZ
    obtain ⟨cq3, kq3, q3a, q3b, q3c⟩ := isOf hZ rfl f1_0
    obtain ⟨_, _, ⟨T3, L3, k3, n3⟩, -, X3, ⟨Lc3, hQ3, l3, y3, z3⟩, st3⟩ := X1.virtualBack hx (y := y8) (z := y8) hown (wz hZ hw 76 rfl) (wz hZ hw 77 rfl) (notFace_of_selects (args := #[]) (wz hZ hw 79 rfl)) (wz hZ hw 79 rfl) (wz hZ hw 78 rfl) (by decide) (backOf (W := 0) (rm8 l Z a0 hw [] o0 tl_1 T1.heap n0 Z1 f1_0 f1_1) hZ (wq hw 80 rfl) (wq hw 3 rfl) (by decide) (by decide)) q3a q3c (g := (mkF m 230 (LQ i0 i1 i2 i3 i4 i5 ca cb xv xa xb xy ka kb qq cv cx cz cy ri ami hd cmi [sR o0, .unset, .unset, .unset, .unset, .unset, .unset]) [(.ref o0)])) rfl (by rw [hml]; rfl) (Steps.refl _) (argsL := []) (rest := []) (lenOf pd_5 rfl) rfl (leW rfl) (hb hby at_230) (fun _ _ => ⟨rfl, rfl, (by decide : 15 + 0 + 0 ≤ _), (by decide : 4130 + 0 + 0 ≤ _)⟩)
    dsimp only [Pt.U, Pt.locs, Pt.cells, Pt.slots] at X3 l3 y3 z3 st3 hQ3
    subst l3 y3 z3
    obtain ⟨rfl, N3q, e3⟩ := hQ3
    have N3 := Fr.app N1 N3q
    refine Go.via (fun t k => st3.trans k) ?_
    refine Vi (T3.setTop (mkF m 235 (LQ i0 i1 i2 i3 i4 i5 ca cb xv xa xb xy ka kb qq cv cx cz cy ri ami hd cmi [sR o0, sI (f8 o0 tl_1), .unset, .unset, .unset, .unset, .unset]) [])) (fun tZ kZ => ?_) ?_
    · refine XS.istore X3.here hx rfl (hb hby at_233) rfl (l' := (LQ i0 i1 i2 i3 i4 i5 ca cb xv xa xb xy ka kb qq cv cx cz cy ri ami hd cmi [sR o0, sI (f8 o0 tl_1), .unset, .unset, .unset, .unset, .unset])) rfl ?_
      exact kZ
    rw [hq] at rel1
    obtain ⟨mm, hmm, rfl⟩ := own_U.mm rel1.1.1
    exact tail1 l Z a0 hw ⟨X3, hx, hby, hml, hlk, hret, hZ, hown, Z1, e3, N3⟩ hH hN hG  ⟨f1_0, f1_1, f1_2, f1_3, f1_4, f1_7, f1_8, f1_6, f1_5, c2_9, f1_9, f1_10, f1_11, f1_12, f1_13, f1_14⟩ hmm rel1.2 rel1.1.2.1 (rel1.1.1.bi hH.f1 (by decide)) (own_at_v hq.symm hH.c0.1 hH.c0.2 hH.r0 rfl rfl rfl own_fullB rel1.1.2.2) (own_U.at rel1.1.1 (by decide) (by rw [hq]; decide) rfl rfl rfl own_fullB)
  · show Go p e below _ (T0.setTop (mkF m 224 (LQ i0 i1 i2 i3 i4 i5 ca cb xv xa xb xy ka kb qq cv cx cz cy ri ami hd cmi [sR o0, .unset, .unset, .unset, .unset, .unset, .unset]) [(.int ri), (.int xv), (.ref o0)]))
    obtain ⟨cq4, kq4, q4a, q4b, q4c⟩ := isOf hZ e0 fa0
    obtain ⟨_, _, ⟨T4, L4, k4, n4⟩, -, X4, ⟨Lc4, hQ4, l4, y4, z4⟩, st4⟩ := X0.virtualBack hx (y := y6) (z := y6) hown (wz hZ hw 66 rfl) (wz hZ hw 67 rfl) (notFace_of_selects (args := #[]) (wz hZ hw 69 rfl)) (wz hZ hw 69 rfl) (wz hZ hw 68 rfl) (by decide) (backOf (W := 0) (rm6 l Z a0 hw [] o0 xv ri (0 : Int32) (0 : Int32) lA hA sA cA chA icA bA tvA twA tsA tzA (own_b2 uA vA) vA nV (fun _ => (-1 : Int64)) (own_2 ca cb) (own_2 0 0) (own_2 (ca - 1) (cb - 1)) (fun _ => (0 : Int32)) (fun _ => (0 : Int32)) (fun _ => (0 : Int32)) (fun _ => (0 : Int32)) (fun _ => (0 : Int64)) (fun _ => (0 : Int32)) h0 n0 Z0 fa0 fa1 fa2 fa3 fa4 fa9 fa7 fa5 fa6 fa10 fa11 fa12 fa13 fa14 fa15 g_o0 g_vA g_sA g_lA g_hA g_chA g_icA g_tvA g_twA g_tsA g_tzA ne_o0_bA ne_o0_vA ne_o0_sA ne_o0_lA ne_o0_hA ne_o0_chA ne_o0_icA ne_o0_tvA ne_o0_twA ne_o0_tsA ne_o0_tzA ne_bA_vA ne_bA_sA ne_bA_lA ne_bA_hA ne_bA_chA ne_bA_icA ne_bA_tvA ne_bA_twA ne_bA_tsA ne_bA_tzA ne_vA_sA ne_vA_lA ne_vA_hA ne_vA_chA ne_vA_icA ne_vA_tvA ne_vA_twA ne_vA_tsA ne_vA_tzA ne_sA_lA ne_sA_hA ne_sA_chA ne_sA_icA ne_sA_tvA ne_sA_twA ne_sA_tsA ne_sA_tzA ne_lA_hA ne_lA_chA ne_lA_icA ne_lA_tvA ne_lA_twA ne_lA_tsA ne_lA_tzA ne_hA_chA ne_hA_icA ne_hA_tvA ne_hA_twA ne_hA_tsA ne_hA_tzA ne_chA_icA ne_chA_tvA ne_chA_twA ne_chA_tsA ne_chA_tzA ne_icA_tvA ne_icA_twA ne_icA_tsA ne_icA_tzA ne_tvA_twA ne_tvA_tsA ne_tvA_tzA ne_twA_tsA ne_twA_tzA ne_tsA_tzA hH.hv (by rw [hq]; exact own_b21) (by rw [hq]; exact hH.f1) (by decide) (by decide) rfl) hZ (wq hw 70 rfl) (wq hw 3 rfl) (by decide) (by decide)) q4a q4c (g := (mkF m 224 (LQ i0 i1 i2 i3 i4 i5 ca cb xv xa xb xy ka kb qq cv cx cz cy ri ami hd cmi [sR o0, .unset, .unset, .unset, .unset, .unset, .unset]) [(.int ri), (.int xv), (.ref o0)])) rfl (by rw [hml]; rfl) (Steps.refl _) (argsL := [(.int xv), (.int ri)]) (rest := []) (lenOf pd_4 rfl) rfl (leW rfl) (hb hby at_224) (fun _ _ => ⟨rfl, e0, (by decide : 15 + 0 ≤ _), (by decide : 4130 + 0 ≤ _)⟩)
    dsimp only [Pt.U, Pt.locs, Pt.cells, Pt.slots] at X4 l4 y4 z4 st4 hQ4
    subst l4 y4 z4
    obtain ⟨lF_4, hF_4, sF_4, chF_4, icF_4, tvF_4, twF_4, tsF_4, tzF_4, tl_4, cc_4, wF_4, rr4, rfl, N4q, Kq4, f4_0, f4_1, f4_2, f4_3, f4_4, f4_5, f4_6, f4_7, f4_8, f4_9, f4_10, f4_11, f4_12, f4_13, f4_14, rel4⟩ := hQ4
    have c5_8 := fa8.keep Kq4 (ninS ne_uA_tvA (ninS ne_uA_twA (ninS ne_uA_tsA (ninS ne_uA_tzA (ninS (Ne.symm ne_o0_uA) (ninS ne_uA_lA (ninS ne_uA_hA (ninS ne_uA_sA (ninS ne_uA_icA (ninS ne_uA_chA (ninS ne_uA_vA nin0)))))))))))
    have K4 : Keep h0 T4.heap [tvA, twA, tsA, tzA, o0, lA, hA, sA, icA, chA, uA, vA] := (Keep.refl h0 [tvA, twA, tsA, tzA, o0, lA, hA, sA, icA, chA, uA, vA]).trans Kq4 (allS (Or.inl (by simp)) (allS (Or.inl (by simp)) (allS (Or.inl (by simp)) (allS (Or.inl (by simp)) (allS (Or.inl (by simp)) (allS (Or.inl (by simp)) (allS (Or.inl (by simp)) (allS (Or.inl (by simp)) (allS (Or.inl (by simp)) (allS (Or.inl (by simp)) (allS (Or.inl (by simp)) all0)))))))))))
    have Z4 := Nat.le_trans Z0 Kq4.1
    have N4 := Fr.app N0 N4q
    refine Go.via (fun t k => st4.trans k) ?_
    refine Vi (T4.setTop (mkF m 230 (LQ i0 i1 i2 i3 i4 i5 ca cb xv xa xb xy ka kb qq cv cx cz cy ri ami hd cmi [sR o0, .unset, .unset, .unset, .unset, .unset, .unset]) [(.ref o0)])) (fun tZ kZ => ?_) ?_
    · refine XS.pop X4.here hx rfl (hb hby at_227) rfl rfl ?_
      refine XS.aload X4.here hx rfl (hb hby at_228) rfl rfl ?_
      exact kZ
    obtain ⟨cq6, kq6, q6a, q6b, q6c⟩ := isOf hZ rfl f4_0
    obtain ⟨_, _, ⟨T6, L6, k6, n6⟩, -, X6, ⟨Lc6, hQ6, l6, y6, z6⟩, st6⟩ := X4.virtualBack hx (y := y8) (z := y8) hown (wz hZ hw 76 rfl) (wz hZ hw 77 rfl) (notFace_of_selects (args := #[]) (wz hZ hw 79 rfl)) (wz hZ hw 79 rfl) (wz hZ hw 78 rfl) (by decide) (backOf (W := 0) (rm8 l Z a0 hw [] o0 tl_4 T4.heap n0 Z4 f4_0 f4_1) hZ (wq hw 80 rfl) (wq hw 3 rfl) (by decide) (by decide)) q6a q6c (g := (mkF m 230 (LQ i0 i1 i2 i3 i4 i5 ca cb xv xa xb xy ka kb qq cv cx cz cy ri ami hd cmi [sR o0, .unset, .unset, .unset, .unset, .unset, .unset]) [(.ref o0)])) rfl (by rw [hml]; rfl) (Steps.refl _) (argsL := []) (rest := []) (lenOf pd_5 rfl) rfl (leW rfl) (hb hby at_230) (fun _ _ => ⟨rfl, rfl, (by decide : 15 + 0 + 0 ≤ _), (by decide : 4130 + 0 + 0 ≤ _)⟩)
    dsimp only [Pt.U, Pt.locs, Pt.cells, Pt.slots] at X6 l6 y6 z6 st6 hQ6
    subst l6 y6 z6
    obtain ⟨rfl, N6q, e6⟩ := hQ6
    have N6 := Fr.app N4 N6q
    refine Go.via (fun t k => st6.trans k) ?_
    refine Vi (T6.setTop (mkF m 235 (LQ i0 i1 i2 i3 i4 i5 ca cb xv xa xb xy ka kb qq cv cx cz cy ri ami hd cmi [sR o0, sI (f8 o0 tl_4), .unset, .unset, .unset, .unset, .unset]) [])) (fun tZ kZ => ?_) ?_
    · refine XS.istore X6.here hx rfl (hb hby at_233) rfl (l' := (LQ i0 i1 i2 i3 i4 i5 ca cb xv xa xb xy ka kb qq cv cx cz cy ri ami hd cmi [sR o0, sI (f8 o0 tl_4), .unset, .unset, .unset, .unset, .unset])) rfl ?_
      exact kZ
    rw [hq] at rel4
    obtain ⟨mm, hmm, rfl⟩ := own_U.mm rel4.1.1
    exact tail1 l Z a0 hw ⟨X6, hx, hby, hml, hlk, hret, hZ, hown, Z4, e6, N6⟩ hH hN hG  ⟨f4_0, f4_1, f4_2, f4_3, f4_4, f4_7, f4_8, f4_6, c5_8, f4_5, f4_9, f4_10, f4_11, f4_12, f4_13, f4_14⟩ hmm rel4.2 (rel4.1.1.bi hH.f0 (by decide)) rel4.1.2.1 (own_U.at rel4.1.1 (by decide) (by rw [hq]; decide) rfl rfl rfl own_fullB) (own_at_v hq.symm hH.c1.1 hH.c1.2 hH.r0 rfl rfl rfl own_fullB rel4.1.2.2)
theorem pd_0 : parseMethodDescriptor "([I)V" = some ⟨[(.array .int)], none⟩ := by decide +kernel
theorem pn_4 : plainName "com/example/whittle/whittle/engine/DomainsUndoPinLaw" = true := by first | (simp [plainName, overriddenIn]; done) | decide +kernel
theorem ef_0_aaaaaa (m : MethodId) (x0 : Int32) (x1 : Int32) (x2 : Int32) (x3 : Int32) (x4 : Int32) (x5 : Int32) : entryFrame m #[(.int x0), (.int x1), (.int x2), (.int x3), (.int x4), (.int x5)] maxLocals = mkF m 0 #[.val (.int x0), .val (.int x1), .val (.int x2), .val (.int x3), .val (.int x4), .val (.int x5), .unset, .unset, .unset, .unset, .unset, .unset, .unset, .unset, .unset, .unset, .unset, .unset, .unset, .unset, .unset, .unset, .unset, .unset, .unset, .unset, .unset, .unset, .unset, .unset] [] := by first | (simp [entryFrame, mkF, argsToLocals, Value.category, maxLocals]; done) | rfl
theorem rm0 (l : Launch) (Z : State) (a0 : Array Value) (hw : HW a0 Z) (ws : List Jvm.Cond) (p0 : Int32) (p1 : Int32) (p2 : Int32) (p3 : Int32) (p4 : Int32) (p5 : Int32) (h0 : Heap) (n0 : Nat) (Z0 : n0 ≤ h0.size) :
    MetFree l x (head1 (Jvm.Cond.code x code maxLocals ret :: ws) room_1) (fun a U => a = #[(.int p0), (.int p1), (.int p2), (.int p3), (.int p4), (.int p5)] ∧ Z.Warmed39 U.vm ∧ U.heap = h0) (fun _ _ _ _ _ => True) (fun _ U o U' => ∃ v L, o = .returned v ∧ Q0 n0 v U'.heap L ∧ FrameEnd U o U' L 40 8384) := by
  refine MetFree.of_bodySF (plainFor_of_name pn_4) hisR ?_
  intro p e s m args below meth c s₁ Bd hml0 hP hK
  obtain ⟨rfl, hZ, hh⟩ := hP
  have hx := Bd.exec
  have hby := Bd.bytes
  have hml : c.maxLocals = 30 := hml0
  have hown : s.vm.findClass "com/example/whittle/whittle/engine/DomainsUndoPinLaw" = some m.cls := findClass_of_methodNamed Bd.named
  have X0 : Stand p l e room_1 s m #[(.int p0), (.int p1), (.int p2), (.int p3), (.int p4), (.int p5)] below meth c s₁ [] 0 0 := Stand.of_body Bd
  have e0 : s₁.heap = h0 := by rw [← hh, Bd.state]; rfl
  have N0 := Fr.nil n0
  refine Go.into (P := fun oo uu => ∃ v L, oo = .returned v ∧ Q0 n0 v uu.heap L ∧ FrameEnd s oo uu L 40 8384) (ef_0_aaaaaa m p0 p1 p2 p3 p4 p5) ?_
  show Go p e below _ (s₁.setTop (mkF m 0 #[sI p0, sI p1, sI p2, sI p3, sI p4, sI p5, .unset, .unset, .unset, .unset, .unset, .unset, .unset, .unset, .unset, .unset, .unset, .unset, .unset, .unset, .unset, .unset, .unset, .unset, .unset, .unset, .unset, .unset, .unset, .unset] []))
  refine Vi (s₁.setTop (mkF m 73 #[sI p0, sI p1, sI p2, sI p3, sI p4, sI p5, sI ((1 : Int32) + (p0 &&& (127 : Int32))), sI ((1 : Int32) + (((p0.toUInt32 >>> ((7 : Int32) &&& 31).toUInt32).toInt32) &&& (127 : Int32))), sI (((p0.toUInt32 >>> ((14 : Int32) &&& 31).toUInt32).toInt32) &&& (1 : Int32)), sI (((p0.toUInt32 >>> ((15 : Int32) &&& 31).toUInt32).toInt32) &&& (1 : Int32)), sI (((p0.toUInt32 >>> ((16 : Int32) &&& 31).toUInt32).toInt32) &&& (1 : Int32)), sI (((p0.toUInt32 >>> ((17 : Int32) &&& 31).toUInt32).toInt32) &&& (1 : Int32)), sI (((p0.toUInt32 >>> ((18 : Int32) &&& 31).toUInt32).toInt32) &&& (3 : Int32)), sI (((p0.toUInt32 >>> ((20 : Int32) &&& 31).toUInt32).toInt32) &&& (1 : Int32)), sI (p0 >>> ((21 : Int32) &&& 31)), .unset, .unset, .unset, .unset, .unset, .unset, .unset, .unset, .unset, .unset, .unset, .unset, .unset, .unset, .unset] [])) (fun tZ kZ => ?_) ?_
  · refine XS.iconst X0.here hx rfl (hb hby at_0) ?_
    refine XS.iloadN X0.here hx rfl (hb hby at_1) rfl ?_
    refine XS.bipush X0.here hx rfl (hb hby at_2) ?_
    refine XS.iand X0.here hx rfl (hb hby at_4) rfl ?_
    refine XS.iadd X0.here hx rfl (hb hby at_5) rfl ?_
    refine XS.istore X0.here hx rfl (hb hby at_6) rfl (l' := #[sI p0, sI p1, sI p2, sI p3, sI p4, sI p5, sI ((1 : Int32) + (p0 &&& (127 : Int32))), .unset, .unset, .unset, .unset, .unset, .unset, .unset, .unset, .unset, .unset, .unset, .unset, .unset, .unset, .unset, .unset, .unset, .unset, .unset, .unset, .unset, .unset, .unset]) rfl ?_
    refine XS.iconst X0.here hx rfl (hb hby at_8) ?_
    refine XS.iloadN X0.here hx rfl (hb hby at_9) rfl ?_
    refine XS.bipush X0.here hx rfl (hb hby at_10) ?_
    refine XS.iushr X0.here hx rfl (hb hby at_12) rfl ?_
    refine XS.bipush X0.here hx rfl (hb hby at_13) ?_
    refine XS.iand X0.here hx rfl (hb hby at_15) rfl ?_
    refine XS.iadd X0.here hx rfl (hb hby at_16) rfl ?_
    refine XS.istore X0.here hx rfl (hb hby at_17) rfl (l' := #[sI p0, sI p1, sI p2, sI p3, sI p4, sI p5, sI ((1 : Int32) + (p0 &&& (127 : Int32))), sI ((1 : Int32) + (((p0.toUInt32 >>> ((7 : Int32) &&& 31).toUInt32).toInt32) &&& (127 : Int32))), .unset, .unset, .unset, .unset, .unset, .unset, .unset, .unset, .unset, .unset, .unset, .unset, .unset, .unset, .unset, .unset, .unset, .unset, .unset, .unset, .unset, .unset]) rfl ?_
    refine XS.iloadN X0.here hx rfl (hb hby at_19) rfl ?_
    refine XS.bipush X0.here hx rfl (hb hby at_20) ?_
    refine XS.iushr X0.here hx rfl (hb hby at_22) rfl ?_
    refine XS.iconst X0.here hx rfl (hb hby at_23) ?_
    refine XS.iand X0.here hx rfl (hb hby at_24) rfl ?_
    refine XS.istore X0.here hx rfl (hb hby at_25) rfl (l' := #[sI p0, sI p1, sI p2, sI p3, sI p4, sI p5, sI ((1 : Int32) + (p0 &&& (127 : Int32))), sI ((1 : Int32) + (((p0.toUInt32 >>> ((7 : Int32) &&& 31).toUInt32).toInt32) &&& (127 : Int32))), sI (((p0.toUInt32 >>> ((14 : Int32) &&& 31).toUInt32).toInt32) &&& (1 : Int32)), .unset, .unset, .unset, .unset, .unset, .unset, .unset, .unset, .unset, .unset, .unset, .unset, .unset, .unset, .unset, .unset, .unset, .unset, .unset, .unset, .unset]) rfl ?_
    refine XS.iloadN X0.here hx rfl (hb hby at_27) rfl ?_
    refine XS.bipush X0.here hx rfl (hb hby at_28) ?_
    refine XS.iushr X0.here hx rfl (hb hby at_30) rfl ?_
    refine XS.iconst X0.here hx rfl (hb hby at_31) ?_
    refine XS.iand X0.here hx rfl (hb hby at_32) rfl ?_
    refine XS.istore X0.here hx rfl (hb hby at_33) rfl (l' := #[sI p0, sI p1, sI p2, sI p3, sI p4, sI p5, sI ((1 : Int32) + (p0 &&& (127 : Int32))), sI ((1 : Int32) + (((p0.toUInt32 >>> ((7 : Int32) &&& 31).toUInt32).toInt32) &&& (127 : Int32))), sI (((p0.toUInt32 >>> ((14 : Int32) &&& 31).toUInt32).toInt32) &&& (1 : Int32)), sI (((p0.toUInt32 >>> ((15 : Int32) &&& 31).toUInt32).toInt32) &&& (1 : Int32)), .unset, .unset, .unset, .unset, .unset, .unset, .unset, .unset, .unset, .unset, .unset, .unset, .unset, .unset, .unset, .unset, .unset, .unset, .unset, .unset]) rfl ?_
    refine XS.iloadN X0.here hx rfl (hb hby at_35) rfl ?_
    refine XS.bipush X0.here hx rfl (hb hby at_36) ?_
    refine XS.iushr X0.here hx rfl (hb hby at_38) rfl ?_
    refine XS.iconst X0.here hx rfl (hb hby at_39) ?_
    refine XS.iand X0.here hx rfl (hb hby at_40) rfl ?_
    refine XS.istore X0.here hx rfl (hb hby at_41) rfl (l' := #[sI p0, sI p1, sI p2, sI p3, sI p4, sI p5, sI ((1 : Int32) + (p0 &&& (127 : Int32))), sI ((1 : Int32) + (((p0.toUInt32 >>> ((7 : Int32) &&& 31).toUInt32).toInt32) &&& (127 : Int32))), sI (((p0.toUInt32 >>> ((14 : Int32) &&& 31).toUInt32).toInt32) &&& (1 : Int32)), sI (((p0.toUInt32 >>> ((15 : Int32) &&& 31).toUInt32).toInt32) &&& (1 : Int32)), sI (((p0.toUInt32 >>> ((16 : Int32) &&& 31).toUInt32).toInt32) &&& (1 : Int32)), .unset, .unset, .unset, .unset, .unset, .unset, .unset, .unset, .unset, .unset, .unset, .unset, .unset, .unset, .unset, .unset, .unset, .unset, .unset]) rfl ?_
    refine XS.iloadN X0.here hx rfl (hb hby at_43) rfl ?_
    refine XS.bipush X0.here hx rfl (hb hby at_44) ?_
    refine XS.iushr X0.here hx rfl (hb hby at_46) rfl ?_
    refine XS.iconst X0.here hx rfl (hb hby at_47) ?_
    refine XS.iand X0.here hx rfl (hb hby at_48) rfl ?_
    refine XS.istore X0.here hx rfl (hb hby at_49) rfl (l' := #[sI p0, sI p1, sI p2, sI p3, sI p4, sI p5, sI ((1 : Int32) + (p0 &&& (127 : Int32))), sI ((1 : Int32) + (((p0.toUInt32 >>> ((7 : Int32) &&& 31).toUInt32).toInt32) &&& (127 : Int32))), sI (((p0.toUInt32 >>> ((14 : Int32) &&& 31).toUInt32).toInt32) &&& (1 : Int32)), sI (((p0.toUInt32 >>> ((15 : Int32) &&& 31).toUInt32).toInt32) &&& (1 : Int32)), sI (((p0.toUInt32 >>> ((16 : Int32) &&& 31).toUInt32).toInt32) &&& (1 : Int32)), sI (((p0.toUInt32 >>> ((17 : Int32) &&& 31).toUInt32).toInt32) &&& (1 : Int32)), .unset, .unset, .unset, .unset, .unset, .unset, .unset, .unset, .unset, .unset, .unset, .unset, .unset, .unset, .unset, .unset, .unset, .unset]) rfl ?_
    refine XS.iloadN X0.here hx rfl (hb hby at_51) rfl ?_
    refine XS.bipush X0.here hx rfl (hb hby at_52) ?_
    refine XS.iushr X0.here hx rfl (hb hby at_54) rfl ?_
    refine XS.iconst X0.here hx rfl (hb hby at_55) ?_
    refine XS.iand X0.here hx rfl (hb hby at_56) rfl ?_
    refine XS.istore X0.here hx rfl (hb hby at_57) rfl (l' := #[sI p0, sI p1, sI p2, sI p3, sI p4, sI p5, sI ((1 : Int32) + (p0 &&& (127 : Int32))), sI ((1 : Int32) + (((p0.toUInt32 >>> ((7 : Int32) &&& 31).toUInt32).toInt32) &&& (127 : Int32))), sI (((p0.toUInt32 >>> ((14 : Int32) &&& 31).toUInt32).toInt32) &&& (1 : Int32)), sI (((p0.toUInt32 >>> ((15 : Int32) &&& 31).toUInt32).toInt32) &&& (1 : Int32)), sI (((p0.toUInt32 >>> ((16 : Int32) &&& 31).toUInt32).toInt32) &&& (1 : Int32)), sI (((p0.toUInt32 >>> ((17 : Int32) &&& 31).toUInt32).toInt32) &&& (1 : Int32)), sI (((p0.toUInt32 >>> ((18 : Int32) &&& 31).toUInt32).toInt32) &&& (3 : Int32)), .unset, .unset, .unset, .unset, .unset, .unset, .unset, .unset, .unset, .unset, .unset, .unset, .unset, .unset, .unset, .unset, .unset]) rfl ?_
    refine XS.iloadN X0.here hx rfl (hb hby at_59) rfl ?_
    refine XS.bipush X0.here hx rfl (hb hby at_60) ?_
    refine XS.iushr X0.here hx rfl (hb hby at_62) rfl ?_
    refine XS.iconst X0.here hx rfl (hb hby at_63) ?_
    refine XS.iand X0.here hx rfl (hb hby at_64) rfl ?_
    refine XS.istore X0.here hx rfl (hb hby at_65) rfl (l' := #[sI p0, sI p1, sI p2, sI p3, sI p4, sI p5, sI ((1 : Int32) + (p0 &&& (127 : Int32))), sI ((1 : Int32) + (((p0.toUInt32 >>> ((7 : Int32) &&& 31).toUInt32).toInt32) &&& (127 : Int32))), sI (((p0.toUInt32 >>> ((14 : Int32) &&& 31).toUInt32).toInt32) &&& (1 : Int32)), sI (((p0.toUInt32 >>> ((15 : Int32) &&& 31).toUInt32).toInt32) &&& (1 : Int32)), sI (((p0.toUInt32 >>> ((16 : Int32) &&& 31).toUInt32).toInt32) &&& (1 : Int32)), sI (((p0.toUInt32 >>> ((17 : Int32) &&& 31).toUInt32).toInt32) &&& (1 : Int32)), sI (((p0.toUInt32 >>> ((18 : Int32) &&& 31).toUInt32).toInt32) &&& (3 : Int32)), sI (((p0.toUInt32 >>> ((20 : Int32) &&& 31).toUInt32).toInt32) &&& (1 : Int32)), .unset, .unset, .unset, .unset, .unset, .unset, .unset, .unset, .unset, .unset, .unset, .unset, .unset, .unset, .unset, .unset]) rfl ?_
    refine XS.iloadN X0.here hx rfl (hb hby at_67) rfl ?_
    refine XS.bipush X0.here hx rfl (hb hby at_68) ?_
    refine XS.ishr X0.here hx rfl (hb hby at_70) rfl ?_
    refine XS.istore X0.here hx rfl (hb hby at_71) rfl (l' := #[sI p0, sI p1, sI p2, sI p3, sI p4, sI p5, sI ((1 : Int32) + (p0 &&& (127 : Int32))), sI ((1 : Int32) + (((p0.toUInt32 >>> ((7 : Int32) &&& 31).toUInt32).toInt32) &&& (127 : Int32))), sI (((p0.toUInt32 >>> ((14 : Int32) &&& 31).toUInt32).toInt32) &&& (1 : Int32)), sI (((p0.toUInt32 >>> ((15 : Int32) &&& 31).toUInt32).toInt32) &&& (1 : Int32)), sI (((p0.toUInt32 >>> ((16 : Int32) &&& 31).toUInt32).toInt32) &&& (1 : Int32)), sI (((p0.toUInt32 >>> ((17 : Int32) &&& 31).toUInt32).toInt32) &&& (1 : Int32)), sI (((p0.toUInt32 >>> ((18 : Int32) &&& 31).toUInt32).toInt32) &&& (3 : Int32)), sI (((p0.toUInt32 >>> ((20 : Int32) &&& 31).toUInt32).toInt32) &&& (1 : Int32)), sI (p0 >>> ((21 : Int32) &&& 31)), .unset, .unset, .unset, .unset, .unset, .unset, .unset, .unset, .unset, .unset, .unset, .unset, .unset, .unset, .unset]) rfl ?_
    exact kZ
  obtain ⟨ca, e_ca⟩ : ∃ z, z = ((1 : Int32) + (p0 &&& (127 : Int32))) := ⟨_, rfl⟩
  rw [← e_ca]
  obtain ⟨cb, e_cb⟩ : ∃ z, z = ((1 : Int32) + (((p0.toUInt32 >>> ((7 : Int32) &&& 31).toUInt32).toInt32) &&& (127 : Int32))) := ⟨_, rfl⟩
  rw [← e_cb]
  obtain ⟨xv, e_xv⟩ : ∃ z, z = (((p0.toUInt32 >>> ((14 : Int32) &&& 31).toUInt32).toInt32) &&& (1 : Int32)) := ⟨_, rfl⟩
  rw [← e_xv]
  obtain ⟨xa, e_xa⟩ : ∃ z, z = (((p0.toUInt32 >>> ((15 : Int32) &&& 31).toUInt32).toInt32) &&& (1 : Int32)) := ⟨_, rfl⟩
  rw [← e_xa]
  obtain ⟨xb, e_xb⟩ : ∃ z, z = (((p0.toUInt32 >>> ((16 : Int32) &&& 31).toUInt32).toInt32) &&& (1 : Int32)) := ⟨_, rfl⟩
  rw [← e_xb]
  obtain ⟨xy, e_xy⟩ : ∃ z, z = (((p0.toUInt32 >>> ((17 : Int32) &&& 31).toUInt32).toInt32) &&& (1 : Int32)) := ⟨_, rfl⟩
  rw [← e_xy]
  obtain ⟨ka, e_ka⟩ : ∃ z, z = (((p0.toUInt32 >>> ((18 : Int32) &&& 31).toUInt32).toInt32) &&& (3 : Int32)) := ⟨_, rfl⟩
  rw [← e_ka]
  obtain ⟨kb, e_kb⟩ : ∃ z, z = (((p0.toUInt32 >>> ((20 : Int32) &&& 31).toUInt32).toInt32) &&& (1 : Int32)) := ⟨_, rfl⟩
  rw [← e_kb]
  obtain ⟨qq, e_qq⟩ : ∃ z, z = (p0 >>> ((21 : Int32) &&& 31)) := ⟨_, rfl⟩
  rw [← e_qq]
  show Go p e below _ (s₁.setTop (mkF m 73 #[sI p0, sI p1, sI p2, sI p3, sI p4, sI p5, sI ca, sI cb, sI xv, sI xa, sI xb, sI xy, sI ka, sI kb, sI qq, .unset, .unset, .unset, .unset, .unset, .unset, .unset, .unset, .unset, .unset, .unset, .unset, .unset, .unset, .unset] []))
  have hca := own_cap p0
  rw [← e_ca] at hca
  have hcb := own_cap (p0.toUInt32 >>> ((7 : Int32) &&& 31).toUInt32).toInt32
  rw [← e_cb] at hcb
  refine Vi (s₁.setTop (mkF m 129 #[sI p0, sI p1, sI p2, sI p3, sI p4, sI p5, sI ca, sI cb, sI xv, sI xa, sI xb, sI xy, sI ka, sI kb, sI qq, sI (if xv = (0 : Int32) then ca else cb), sI (if xa = (0 : Int32) then ca else cb), sI (if xb = (0 : Int32) then ca else cb), sI (if xy = (0 : Int32) then ca else cb), .unset, .unset, .unset, .unset, .unset, .unset, .unset, .unset, .unset, .unset, .unset] [])) (fun tZ kZ => ?_) ?_
  · refine XS.iload X0.here hx rfl (hb hby at_73) rfl ?_
    have sg75 : Steps p.tables e below (s₁.setTop (mkF m 85 #[sI p0, sI p1, sI p2, sI p3, sI p4, sI p5, sI ca, sI cb, sI xv, sI xa, sI xb, sI xy, sI ka, sI kb, sI qq, .unset, .unset, .unset, .unset, .unset, .unset, .unset, .unset, .unset, .unset, .unset, .unset, .unset, .unset, .unset] [(.int (if xv = (0 : Int32) then ca else cb))])) tZ → Steps p.tables e below (s₁.setTop (mkF m 75 #[sI p0, sI p1, sI p2, sI p3, sI p4, sI p5, sI ca, sI cb, sI xv, sI xa, sI xb, sI xy, sI ka, sI kb, sI qq, .unset, .unset, .unset, .unset, .unset, .unset, .unset, .unset, .unset, .unset, .unset, .unset, .unset, .unset, .unset] [(.int xv)])) tZ := by
      intro kj
      by_cases hc75 : xv = (0 : Int32)
      · try simp only [if_pos hc75] at kj
        refine XS.ifNo X0.here hx rfl (hb hby at_75) rfl ((if0 _ _).trans (teq hc75).2) ?_
        refine XS.iload X0.here hx rfl (hb hby at_78) rfl ?_
        refine XS.goto X0.here hx rfl (pc0 := 80) (pc' := 85) rfl (hb hby at_80) (by decide) (by decide) ?_
        exact kj
      · try simp only [if_neg hc75] at kj
        refine XS.ifYes X0.here hx rfl (pc0 := 75) (pc' := 83) rfl (hb hby at_75) rfl ((if0 _ _).trans (feq hc75).2) (by decide) (by decide) ?_
        refine XS.iload X0.here hx rfl (hb hby at_83) rfl ?_
        exact kj
    refine sg75 ?_
    show Steps p.tables e below (s₁.setTop (mkF m 85 #[sI p0, sI p1, sI p2, sI p3, sI p4, sI p5, sI ca, sI cb, sI xv, sI xa, sI xb, sI xy, sI ka, sI kb, sI qq, .unset, .unset, .unset, .unset, .unset, .unset, .unset, .unset, .unset, .unset, .unset, .unset, .unset, .unset, .unset] [(.int (if xv = (0 : Int32) then ca else cb))])) _
    refine XS.istore X0.here hx rfl (hb hby at_85) rfl (l' := #[sI p0, sI p1, sI p2, sI p3, sI p4, sI p5, sI ca, sI cb, sI xv, sI xa, sI xb, sI xy, sI ka, sI kb, sI qq, sI (if xv = (0 : Int32) then ca else cb), .unset, .unset, .unset, .unset, .unset, .unset, .unset, .unset, .unset, .unset, .unset, .unset, .unset, .unset]) rfl ?_
    refine XS.iload X0.here hx rfl (hb hby at_87) rfl ?_
    have sg89 : Steps p.tables e below (s₁.setTop (mkF m 99 #[sI p0, sI p1, sI p2, sI p3, sI p4, sI p5, sI ca, sI cb, sI xv, sI xa, sI xb, sI xy, sI ka, sI kb, sI qq, sI (if xv = (0 : Int32) then ca else cb), .unset, .unset, .unset, .unset, .unset, .unset, .unset, .unset, .unset, .unset, .unset, .unset, .unset, .unset] [(.int (if xa = (0 : Int32) then ca else cb))])) tZ → Steps p.tables e below (s₁.setTop (mkF m 89 #[sI p0, sI p1, sI p2, sI p3, sI p4, sI p5, sI ca, sI cb, sI xv, sI xa, sI xb, sI xy, sI ka, sI kb, sI qq, sI (if xv = (0 : Int32) then ca else cb), .unset, .unset, .unset, .unset, .unset, .unset, .unset, .unset, .unset, .unset, .unset, .unset, .unset, .unset] [(.int xa)])) tZ := by
      intro kj
      by_cases hc89 : xa = (0 : Int32)
      · try simp only [if_pos hc89] at kj
        refine XS.ifNo X0.here hx rfl (hb hby at_89) rfl ((if0 _ _).trans (teq hc89).2) ?_
        refine XS.iload X0.here hx rfl (hb hby at_92) rfl ?_
        refine XS.goto X0.here hx rfl (pc0 := 94) (pc' := 99) rfl (hb hby at_94) (by decide) (by decide) ?_
        exact kj
      · try simp only [if_neg hc89] at kj
        refine XS.ifYes X0.here hx rfl (pc0 := 89) (pc' := 97) rfl (hb hby at_89) rfl ((if0 _ _).trans (feq hc89).2) (by decide) (by decide) ?_
        refine XS.iload X0.here hx rfl (hb hby at_97) rfl ?_
        exact kj
    refine sg89 ?_
    show Steps p.tables e below (s₁.setTop (mkF m 99 #[sI p0, sI p1, sI p2, sI p3, sI p4, sI p5, sI ca, sI cb, sI xv, sI xa, sI xb, sI xy, sI ka, sI kb, sI qq, sI (if xv = (0 : Int32) then ca else cb), .unset, .unset, .unset, .unset, .unset, .unset, .unset, .unset, .unset, .unset, .unset, .unset, .unset, .unset] [(.int (if xa = (0 : Int32) then ca else cb))])) _
    refine XS.istore X0.here hx rfl (hb hby at_99) rfl (l' := #[sI p0, sI p1, sI p2, sI p3, sI p4, sI p5, sI ca, sI cb, sI xv, sI xa, sI xb, sI xy, sI ka, sI kb, sI qq, sI (if xv = (0 : Int32) then ca else cb), sI (if xa = (0 : Int32) then ca else cb), .unset, .unset, .unset, .unset, .unset, .unset, .unset, .unset, .unset, .unset, .unset, .unset, .unset]) rfl ?_
    refine XS.iload X0.here hx rfl (hb hby at_101) rfl ?_
    have sg103 : Steps p.tables e below (s₁.setTop (mkF m 113 #[sI p0, sI p1, sI p2, sI p3, sI p4, sI p5, sI ca, sI cb, sI xv, sI xa, sI xb, sI xy, sI ka, sI kb, sI qq, sI (if xv = (0 : Int32) then ca else cb), sI (if xa = (0 : Int32) then ca else cb), .unset, .unset, .unset, .unset, .unset, .unset, .unset, .unset, .unset, .unset, .unset, .unset, .unset] [(.int (if xb = (0 : Int32) then ca else cb))])) tZ → Steps p.tables e below (s₁.setTop (mkF m 103 #[sI p0, sI p1, sI p2, sI p3, sI p4, sI p5, sI ca, sI cb, sI xv, sI xa, sI xb, sI xy, sI ka, sI kb, sI qq, sI (if xv = (0 : Int32) then ca else cb), sI (if xa = (0 : Int32) then ca else cb), .unset, .unset, .unset, .unset, .unset, .unset, .unset, .unset, .unset, .unset, .unset, .unset, .unset] [(.int xb)])) tZ := by
      intro kj
      by_cases hc103 : xb = (0 : Int32)
      · try simp only [if_pos hc103] at kj
        refine XS.ifNo X0.here hx rfl (hb hby at_103) rfl ((if0 _ _).trans (teq hc103).2) ?_
        refine XS.iload X0.here hx rfl (hb hby at_106) rfl ?_
        refine XS.goto X0.here hx rfl (pc0 := 108) (pc' := 113) rfl (hb hby at_108) (by decide) (by decide) ?_
        exact kj
      · try simp only [if_neg hc103] at kj
        refine XS.ifYes X0.here hx rfl (pc0 := 103) (pc' := 111) rfl (hb hby at_103) rfl ((if0 _ _).trans (feq hc103).2) (by decide) (by decide) ?_
        refine XS.iload X0.here hx rfl (hb hby at_111) rfl ?_
        exact kj
    refine sg103 ?_
    show Steps p.tables e below (s₁.setTop (mkF m 113 #[sI p0, sI p1, sI p2, sI p3, sI p4, sI p5, sI ca, sI cb, sI xv, sI xa, sI xb, sI xy, sI ka, sI kb, sI qq, sI (if xv = (0 : Int32) then ca else cb), sI (if xa = (0 : Int32) then ca else cb), .unset, .unset, .unset, .unset, .unset, .unset, .unset, .unset, .unset, .unset, .unset, .unset, .unset] [(.int (if xb = (0 : Int32) then ca else cb))])) _
    refine XS.istore X0.here hx rfl (hb hby at_113) rfl (l' := #[sI p0, sI p1, sI p2, sI p3, sI p4, sI p5, sI ca, sI cb, sI xv, sI xa, sI xb, sI xy, sI ka, sI kb, sI qq, sI (if xv = (0 : Int32) then ca else cb), sI (if xa = (0 : Int32) then ca else cb), sI (if xb = (0 : Int32) then ca else cb), .unset, .unset, .unset, .unset, .unset, .unset, .unset, .unset, .unset, .unset, .unset, .unset]) rfl ?_
    refine XS.iload X0.here hx rfl (hb hby at_115) rfl ?_
    have sg117 : Steps p.tables e below (s₁.setTop (mkF m 127 #[sI p0, sI p1, sI p2, sI p3, sI p4, sI p5, sI ca, sI cb, sI xv, sI xa, sI xb, sI xy, sI ka, sI kb, sI qq, sI (if xv = (0 : Int32) then ca else cb), sI (if xa = (0 : Int32) then ca else cb), sI (if xb = (0 : Int32) then ca else cb), .unset, .unset, .unset, .unset, .unset, .unset, .unset, .unset, .unset, .unset, .unset, .unset] [(.int (if xy = (0 : Int32) then ca else cb))])) tZ → Steps p.tables e below (s₁.setTop (mkF m 117 #[sI p0, sI p1, sI p2, sI p3, sI p4, sI p5, sI ca, sI cb, sI xv, sI xa, sI xb, sI xy, sI ka, sI kb, sI qq, sI (if xv = (0 : Int32) then ca else cb), sI (if xa = (0 : Int32) then ca else cb), sI (if xb = (0 : Int32) then ca else cb), .unset, .unset, .unset, .unset, .unset, .unset, .unset, .unset, .unset, .unset, .unset, .unset] [(.int xy)])) tZ := by
      intro kj
      by_cases hc117 : xy = (0 : Int32)
      · try simp only [if_pos hc117] at kj
        refine XS.ifNo X0.here hx rfl (hb hby at_117) rfl ((if0 _ _).trans (teq hc117).2) ?_
        refine XS.iload X0.here hx rfl (hb hby at_120) rfl ?_
        refine XS.goto X0.here hx rfl (pc0 := 122) (pc' := 127) rfl (hb hby at_122) (by decide) (by decide) ?_
        exact kj
      · try simp only [if_neg hc117] at kj
        refine XS.ifYes X0.here hx rfl (pc0 := 117) (pc' := 125) rfl (hb hby at_117) rfl ((if0 _ _).trans (feq hc117).2) (by decide) (by decide) ?_
        refine XS.iload X0.here hx rfl (hb hby at_125) rfl ?_
        exact kj
    refine sg117 ?_
    show Steps p.tables e below (s₁.setTop (mkF m 127 #[sI p0, sI p1, sI p2, sI p3, sI p4, sI p5, sI ca, sI cb, sI xv, sI xa, sI xb, sI xy, sI ka, sI kb, sI qq, sI (if xv = (0 : Int32) then ca else cb), sI (if xa = (0 : Int32) then ca else cb), sI (if xb = (0 : Int32) then ca else cb), .unset, .unset, .unset, .unset, .unset, .unset, .unset, .unset, .unset, .unset, .unset, .unset] [(.int (if xy = (0 : Int32) then ca else cb))])) _
    refine XS.istore X0.here hx rfl (hb hby at_127) rfl (l' := #[sI p0, sI p1, sI p2, sI p3, sI p4, sI p5, sI ca, sI cb, sI xv, sI xa, sI xb, sI xy, sI ka, sI kb, sI qq, sI (if xv = (0 : Int32) then ca else cb), sI (if xa = (0 : Int32) then ca else cb), sI (if xb = (0 : Int32) then ca else cb), sI (if xy = (0 : Int32) then ca else cb), .unset, .unset, .unset, .unset, .unset, .unset, .unset, .unset, .unset, .unset, .unset]) rfl ?_
    exact kZ
  obtain ⟨cv, e_cv⟩ : ∃ z, z = (if xv = (0 : Int32) then ca else cb) := ⟨_, rfl⟩
  rw [← e_cv]
  obtain ⟨cx, e_cx⟩ : ∃ z, z = (if xa = (0 : Int32) then ca else cb) := ⟨_, rfl⟩
  rw [← e_cx]
  obtain ⟨cz, e_cz⟩ : ∃ z, z = (if xb = (0 : Int32) then ca else cb) := ⟨_, rfl⟩
  rw [← e_cz]
  obtain ⟨cy, e_cy⟩ : ∃ z, z = (if xy = (0 : Int32) then ca else cb) := ⟨_, rfl⟩
  rw [← e_cy]
  show Go p e below _ (s₁.setTop (mkF m 129 #[sI p0, sI p1, sI p2, sI p3, sI p4, sI p5, sI ca, sI cb, sI xv, sI xa, sI xb, sI xy, sI ka, sI kb, sI qq, sI cv, sI cx, sI cz, sI cy, .unset, .unset, .unset, .unset, .unset, .unset, .unset, .unset, .unset, .unset, .unset] []))
  have h_cv := own_pickc e_cv hca hcb
  have h_cx := own_pickc e_cx hca hcb
  have h_cz := own_pickc e_cz hca hcb
  refine Vi (s₁.setTop (mkF m 191 #[sI p0, sI p1, sI p2, sI p3, sI p4, sI p5, sI ca, sI cb, sI xv, sI xa, sI xb, sI xy, sI ka, sI kb, sI qq, sI cv, sI cx, sI cz, sI cy, sI ((p1 &&& (2147483647 : Int32)) % (cv + (1 : Int32))), sI ((p2 &&& (2147483647 : Int32)) % (cx + (1 : Int32))), sI (if ((p2 &&& (2147483647 : Int32)) % (cx + (1 : Int32))) < cx then (if xa = xv then (if ((p2 &&& (2147483647 : Int32)) % (cx + (1 : Int32))) = ((p1 &&& (2147483647 : Int32)) % (cv + (1 : Int32))) then (0 : Int32) else (1 : Int32)) else (1 : Int32)) else (0 : Int32)), sI ((p4 &&& (2147483647 : Int32)) % (cz + (1 : Int32))), .unset, .unset, .unset, .unset, .unset, .unset, .unset] [])) (fun tZ kZ => ?_) ?_
  · refine XS.iloadN X0.here hx rfl (hb hby at_129) rfl ?_
    refine X0.ldcInt hx hown (wz hZ hw 0 rfl) (g := (mkF m 130 #[sI p0, sI p1, sI p2, sI p3, sI p4, sI p5, sI ca, sI cb, sI xv, sI xa, sI xb, sI xy, sI ka, sI kb, sI qq, sI cv, sI cx, sI cz, sI cy, .unset, .unset, .unset, .unset, .unset, .unset, .unset, .unset, .unset, .unset, .unset] [(.int p1)])) rfl (hb hby at_130) _ ?_
    refine XS.iand X0.here hx rfl (hb hby at_132) rfl ?_
    refine XS.iload X0.here hx rfl (hb hby at_133) rfl ?_
    refine XS.iconst X0.here hx rfl (hb hby at_135) ?_
    refine XS.iadd X0.here hx rfl (hb hby at_136) rfl ?_
    refine iremM X0 hx rfl (hb hby at_137) rfl (own_nz1 (d := 1) h_cv (by decide)) ?_
    refine XS.istore X0.here hx rfl (hb hby at_138) rfl (l' := #[sI p0, sI p1, sI p2, sI p3, sI p4, sI p5, sI ca, sI cb, sI xv, sI xa, sI xb, sI xy, sI ka, sI kb, sI qq, sI cv, sI cx, sI cz, sI cy, sI ((p1 &&& (2147483647 : Int32)) % (cv + (1 : Int32))), .unset, .unset, .unset, .unset, .unset, .unset, .unset, .unset, .unset, .unset]) rfl ?_
    refine XS.iloadN X0.here hx rfl (hb hby at_140) rfl ?_
    refine X0.ldcInt hx hown (wz hZ hw 0 rfl) (g := (mkF m 141 #[sI p0, sI p1, sI p2, sI p3, sI p4, sI p5, sI ca, sI cb, sI xv, sI xa, sI xb, sI xy, sI ka, sI kb, sI qq, sI cv, sI cx, sI cz, sI cy, sI ((p1 &&& (2147483647 : Int32)) % (cv + (1 : Int32))), .unset, .unset, .unset, .unset, .unset, .unset, .unset, .unset, .unset, .unset] [(.int p2)])) rfl (hb hby at_141) _ ?_
    refine XS.iand X0.here hx rfl (hb hby at_143) rfl ?_
    refine XS.iload X0.here hx rfl (hb hby at_144) rfl ?_
    refine XS.iconst X0.here hx rfl (hb hby at_146) ?_
    refine XS.iadd X0.here hx rfl (hb hby at_147) rfl ?_
    refine iremM X0 hx rfl (hb hby at_148) rfl (own_nz1 (d := 1) h_cx (by decide)) ?_
    refine XS.istore X0.here hx rfl (hb hby at_149) rfl (l' := #[sI p0, sI p1, sI p2, sI p3, sI p4, sI p5, sI ca, sI cb, sI xv, sI xa, sI xb, sI xy, sI ka, sI kb, sI qq, sI cv, sI cx, sI cz, sI cy, sI ((p1 &&& (2147483647 : Int32)) % (cv + (1 : Int32))), sI ((p2 &&& (2147483647 : Int32)) % (cx + (1 : Int32))), .unset, .unset, .unset, .unset, .unset, .unset, .unset, .unset, .unset]) rfl ?_
    refine XS.iload X0.here hx rfl (hb hby at_151) rfl ?_
    refine XS.iload X0.here hx rfl (hb hby at_153) rfl ?_
    have sg155 : Steps p.tables e below (s₁.setTop (mkF m 177 #[sI p0, sI p1, sI p2, sI p3, sI p4, sI p5, sI ca, sI cb, sI xv, sI xa, sI xb, sI xy, sI ka, sI kb, sI qq, sI cv, sI cx, sI cz, sI cy, sI ((p1 &&& (2147483647 : Int32)) % (cv + (1 : Int32))), sI ((p2 &&& (2147483647 : Int32)) % (cx + (1 : Int32))), .unset, .unset, .unset, .unset, .unset, .unset, .unset, .unset, .unset] [(.int (if ((p2 &&& (2147483647 : Int32)) % (cx + (1 : Int32))) < cx then (if xa = xv then (if ((p2 &&& (2147483647 : Int32)) % (cx + (1 : Int32))) = ((p1 &&& (2147483647 : Int32)) % (cv + (1 : Int32))) then (0 : Int32) else (1 : Int32)) else (1 : Int32)) else (0 : Int32)))])) tZ → Steps p.tables e below (s₁.setTop (mkF m 155 #[sI p0, sI p1, sI p2, sI p3, sI p4, sI p5, sI ca, sI cb, sI xv, sI xa, sI xb, sI xy, sI ka, sI kb, sI qq, sI cv, sI cx, sI cz, sI cy, sI ((p1 &&& (2147483647 : Int32)) % (cv + (1 : Int32))), sI ((p2 &&& (2147483647 : Int32)) % (cx + (1 : Int32))), .unset, .unset, .unset, .unset, .unset, .unset, .unset, .unset, .unset] [(.int cx), (.int ((p2 &&& (2147483647 : Int32)) % (cx + (1 : Int32))))])) tZ := by
      intro kj
      by_cases hc155 : ((p2 &&& (2147483647 : Int32)) % (cx + (1 : Int32))) < cx
      · try simp only [if_pos hc155] at kj
        refine XS.icmpNo X0.here hx rfl (hb hby at_155) rfl (tlt hc155).2.1 ?_
        refine XS.iload X0.here hx rfl (hb hby at_158) rfl ?_
        refine XS.iload X0.here hx rfl (hb hby at_160) rfl ?_
        have sg162 : Steps p.tables e below (s₁.setTop (mkF m 177 #[sI p0, sI p1, sI p2, sI p3, sI p4, sI p5, sI ca, sI cb, sI xv, sI xa, sI xb, sI xy, sI ka, sI kb, sI qq, sI cv, sI cx, sI cz, sI cy, sI ((p1 &&& (2147483647 : Int32)) % (cv + (1 : Int32))), sI ((p2 &&& (2147483647 : Int32)) % (cx + (1 : Int32))), .unset, .unset, .unset, .unset, .unset, .unset, .unset, .unset, .unset] [(.int (if xa = xv then (if ((p2 &&& (2147483647 : Int32)) % (cx + (1 : Int32))) = ((p1 &&& (2147483647 : Int32)) % (cv + (1 : Int32))) then (0 : Int32) else (1 : Int32)) else (1 : Int32)))])) tZ → Steps p.tables e below (s₁.setTop (mkF m 162 #[sI p0, sI p1, sI p2, sI p3, sI p4, sI p5, sI ca, sI cb, sI xv, sI xa, sI xb, sI xy, sI ka, sI kb, sI qq, sI cv, sI cx, sI cz, sI cy, sI ((p1 &&& (2147483647 : Int32)) % (cv + (1 : Int32))), sI ((p2 &&& (2147483647 : Int32)) % (cx + (1 : Int32))), .unset, .unset, .unset, .unset, .unset, .unset, .unset, .unset, .unset] [(.int xv), (.int xa)])) tZ := by
          intro kj
          by_cases hc162 : xa = xv
          · try simp only [if_pos hc162] at kj
            refine XS.icmpNo X0.here hx rfl (hb hby at_162) rfl (teq hc162).2 ?_
            refine XS.iload X0.here hx rfl (hb hby at_165) rfl ?_
            refine XS.iload X0.here hx rfl (hb hby at_167) rfl ?_
            have sg169 : Steps p.tables e below (s₁.setTop (mkF m 177 #[sI p0, sI p1, sI p2, sI p3, sI p4, sI p5, sI ca, sI cb, sI xv, sI xa, sI xb, sI xy, sI ka, sI kb, sI qq, sI cv, sI cx, sI cz, sI cy, sI ((p1 &&& (2147483647 : Int32)) % (cv + (1 : Int32))), sI ((p2 &&& (2147483647 : Int32)) % (cx + (1 : Int32))), .unset, .unset, .unset, .unset, .unset, .unset, .unset, .unset, .unset] [(.int (if ((p2 &&& (2147483647 : Int32)) % (cx + (1 : Int32))) = ((p1 &&& (2147483647 : Int32)) % (cv + (1 : Int32))) then (0 : Int32) else (1 : Int32)))])) tZ → Steps p.tables e below (s₁.setTop (mkF m 169 #[sI p0, sI p1, sI p2, sI p3, sI p4, sI p5, sI ca, sI cb, sI xv, sI xa, sI xb, sI xy, sI ka, sI kb, sI qq, sI cv, sI cx, sI cz, sI cy, sI ((p1 &&& (2147483647 : Int32)) % (cv + (1 : Int32))), sI ((p2 &&& (2147483647 : Int32)) % (cx + (1 : Int32))), .unset, .unset, .unset, .unset, .unset, .unset, .unset, .unset, .unset] [(.int ((p1 &&& (2147483647 : Int32)) % (cv + (1 : Int32)))), (.int ((p2 &&& (2147483647 : Int32)) % (cx + (1 : Int32))))])) tZ := by
              intro kj
              by_cases hc169 : ((p2 &&& (2147483647 : Int32)) % (cx + (1 : Int32))) = ((p1 &&& (2147483647 : Int32)) % (cv + (1 : Int32)))
              · try simp only [if_pos hc169] at kj
                refine XS.icmpYes X0.here hx rfl (pc0 := 169) (pc' := 176) rfl (hb hby at_169) rfl (teq hc169).1 (by decide) (by decide) ?_
                refine XS.iconst X0.here hx rfl (hb hby at_176) ?_
                exact kj
              · try simp only [if_neg hc169] at kj
                refine XS.icmpNo X0.here hx rfl (hb hby at_169) rfl (feq hc169).1 ?_
                refine XS.iconst X0.here hx rfl (hb hby at_172) ?_
                refine XS.goto X0.here hx rfl (pc0 := 173) (pc' := 177) rfl (hb hby at_173) (by decide) (by decide) ?_
                exact kj
            refine sg169 ?_
            show Steps p.tables e below (s₁.setTop (mkF m 177 #[sI p0, sI p1, sI p2, sI p3, sI p4, sI p5, sI ca, sI cb, sI xv, sI xa, sI xb, sI xy, sI ka, sI kb, sI qq, sI cv, sI cx, sI cz, sI cy, sI ((p1 &&& (2147483647 : Int32)) % (cv + (1 : Int32))), sI ((p2 &&& (2147483647 : Int32)) % (cx + (1 : Int32))), .unset, .unset, .unset, .unset, .unset, .unset, .unset, .unset, .unset] [(.int (if ((p2 &&& (2147483647 : Int32)) % (cx + (1 : Int32))) = ((p1 &&& (2147483647 : Int32)) % (cv + (1 : Int32))) then (0 : Int32) else (1 : Int32)))])) _
            exact kj
          · try simp only [if_neg hc162] at kj
            refine XS.icmpYes X0.here hx rfl (pc0 := 162) (pc' := 172) rfl (hb hby at_162) rfl (feq hc162).2 (by decide) (by decide) ?_
            refine XS.iconst X0.here hx rfl (hb hby at_172) ?_
            refine XS.goto X0.here hx rfl (pc0 := 173) (pc' := 177) rfl (hb hby at_173) (by decide) (by decide) ?_
            exact kj
        refine sg162 ?_
        show Steps p.tables e below (s₁.setTop (mkF m 177 #[sI p0, sI p1, sI p2, sI p3, sI p4, sI p5, sI ca, sI cb, sI xv, sI xa, sI xb, sI xy, sI ka, sI kb, sI qq, sI cv, sI cx, sI cz, sI cy, sI ((p1 &&& (2147483647 : Int32)) % (cv + (1 : Int32))), sI ((p2 &&& (2147483647 : Int32)) % (cx + (1 : Int32))), .unset, .unset, .unset, .unset, .unset, .unset, .unset, .unset, .unset] [(.int (if xa = xv then (if ((p2 &&& (2147483647 : Int32)) % (cx + (1 : Int32))) = ((p1 &&& (2147483647 : Int32)) % (cv + (1 : Int32))) then (0 : Int32) else (1 : Int32)) else (1 : Int32)))])) _
        exact kj
      · try simp only [if_neg hc155] at kj
        refine XS.icmpYes X0.here hx rfl (pc0 := 155) (pc' := 176) rfl (hb hby at_155) rfl (flt hc155).2.1 (by decide) (by decide) ?_
        refine XS.iconst X0.here hx rfl (hb hby at_176) ?_
        exact kj
    refine sg155 ?_
    show Steps p.tables e below (s₁.setTop (mkF m 177 #[sI p0, sI p1, sI p2, sI p3, sI p4, sI p5, sI ca, sI cb, sI xv, sI xa, sI xb, sI xy, sI ka, sI kb, sI qq, sI cv, sI cx, sI cz, sI cy, sI ((p1 &&& (2147483647 : Int32)) % (cv + (1 : Int32))), sI ((p2 &&& (2147483647 : Int32)) % (cx + (1 : Int32))), .unset, .unset, .unset, .unset, .unset, .unset, .unset, .unset, .unset] [(.int (if ((p2 &&& (2147483647 : Int32)) % (cx + (1 : Int32))) < cx then (if xa = xv then (if ((p2 &&& (2147483647 : Int32)) % (cx + (1 : Int32))) = ((p1 &&& (2147483647 : Int32)) % (cv + (1 : Int32))) then (0 : Int32) else (1 : Int32)) else (1 : Int32)) else (0 : Int32)))])) _
    refine XS.istore X0.here hx rfl (hb hby at_177) rfl (l' := #[sI p0, sI p1, sI p2, sI p3, sI p4, sI p5, sI ca, sI cb, sI xv, sI xa, sI xb, sI xy, sI ka, sI kb, sI qq, sI cv, sI cx, sI cz, sI cy, sI ((p1 &&& (2147483647 : Int32)) % (cv + (1 : Int32))), sI ((p2 &&& (2147483647 : Int32)) % (cx + (1 : Int32))), sI (if ((p2 &&& (2147483647 : Int32)) % (cx + (1 : Int32))) < cx then (if xa = xv then (if ((p2 &&& (2147483647 : Int32)) % (cx + (1 : Int32))) = ((p1 &&& (2147483647 : Int32)) % (cv + (1 : Int32))) then (0 : Int32) else (1 : Int32)) else (1 : Int32)) else (0 : Int32)), .unset, .unset, .unset, .unset, .unset, .unset, .unset, .unset]) rfl ?_
    refine XS.iload X0.here hx rfl (hb hby at_179) rfl ?_
    refine X0.ldcInt hx hown (wz hZ hw 0 rfl) (g := (mkF m 181 #[sI p0, sI p1, sI p2, sI p3, sI p4, sI p5, sI ca, sI cb, sI xv, sI xa, sI xb, sI xy, sI ka, sI kb, sI qq, sI cv, sI cx, sI cz, sI cy, sI ((p1 &&& (2147483647 : Int32)) % (cv + (1 : Int32))), sI ((p2 &&& (2147483647 : Int32)) % (cx + (1 : Int32))), sI (if ((p2 &&& (2147483647 : Int32)) % (cx + (1 : Int32))) < cx then (if xa = xv then (if ((p2 &&& (2147483647 : Int32)) % (cx + (1 : Int32))) = ((p1 &&& (2147483647 : Int32)) % (cv + (1 : Int32))) then (0 : Int32) else (1 : Int32)) else (1 : Int32)) else (0 : Int32)), .unset, .unset, .unset, .unset, .unset, .unset, .unset, .unset] [(.int p4)])) rfl (hb hby at_181) _ ?_
    refine XS.iand X0.here hx rfl (hb hby at_183) rfl ?_
    refine XS.iload X0.here hx rfl (hb hby at_184) rfl ?_
    refine XS.iconst X0.here hx rfl (hb hby at_186) ?_
    refine XS.iadd X0.here hx rfl (hb hby at_187) rfl ?_
    refine iremM X0 hx rfl (hb hby at_188) rfl (own_nz1 (d := 1) h_cz (by decide)) ?_
    refine XS.istore X0.here hx rfl (hb hby at_189) rfl (l' := #[sI p0, sI p1, sI p2, sI p3, sI p4, sI p5, sI ca, sI cb, sI xv, sI xa, sI xb, sI xy, sI ka, sI kb, sI qq, sI cv, sI cx, sI cz, sI cy, sI ((p1 &&& (2147483647 : Int32)) % (cv + (1 : Int32))), sI ((p2 &&& (2147483647 : Int32)) % (cx + (1 : Int32))), sI (if ((p2 &&& (2147483647 : Int32)) % (cx + (1 : Int32))) < cx then (if xa = xv then (if ((p2 &&& (2147483647 : Int32)) % (cx + (1 : Int32))) = ((p1 &&& (2147483647 : Int32)) % (cv + (1 : Int32))) then (0 : Int32) else (1 : Int32)) else (1 : Int32)) else (0 : Int32)), sI ((p4 &&& (2147483647 : Int32)) % (cz + (1 : Int32))), .unset, .unset, .unset, .unset, .unset, .unset, .unset]) rfl ?_
    exact kZ
  obtain ⟨cmi, e_cmi⟩ : ∃ z, z = ((p4 &&& (2147483647 : Int32)) % (cz + (1 : Int32))) := ⟨_, rfl⟩
  rw [← e_cmi]
  obtain ⟨hd, e_hd⟩ : ∃ z, z = (if ((p2 &&& (2147483647 : Int32)) % (cx + (1 : Int32))) < cx then (if xa = xv then (if ((p2 &&& (2147483647 : Int32)) % (cx + (1 : Int32))) = ((p1 &&& (2147483647 : Int32)) % (cv + (1 : Int32))) then (0 : Int32) else (1 : Int32)) else (1 : Int32)) else (0 : Int32)) := ⟨_, rfl⟩
  rw [← e_hd]
  obtain ⟨ami, e_ami⟩ : ∃ z, z = ((p2 &&& (2147483647 : Int32)) % (cx + (1 : Int32))) := ⟨_, rfl⟩
  rw [← e_ami]
  obtain ⟨ri, e_ri⟩ : ∃ z, z = ((p1 &&& (2147483647 : Int32)) % (cv + (1 : Int32))) := ⟨_, rfl⟩
  rw [← e_ri]
  show Go p e below _ (s₁.setTop (mkF m 191 (LQ p0 p1 p2 p3 p4 p5 ca cb xv xa xb xy ka kb qq cv cx cz cy ri ami hd cmi [.unset, .unset, .unset, .unset, .unset, .unset, .unset]) []))
  obtain ⟨T1, h1, X1, e1, E1, A1, D1, -, st1⟩ := newO X0 hx hZ hown (wq hw 1 rfl) (wq hw 2 rfl) (wq hw 3 rfl) e0 (g := (mkF m 191 (LQ p0 p1 p2 p3 p4 p5 ca cb xv xa xb xy ka kb qq cv cx cz cy ri ami hd cmi [.unset, .unset, .unset, .unset, .unset, .unset, .unset]) [])) rfl (hb hby at_191) (by decide) (by decide)
  obtain ⟨b1, g1⟩ : ∃ z, z = h0.size := ⟨_, rfl⟩
  rw [← g1] at A1 D1 st1
  have g_b1 : n0 ≤ b1 := Nat.le_trans Z0 (Nat.le_of_eq g1.symm)
  have sz_b1 : h0.size ≤ b1 := Nat.le_trans ((Keep.refl h0 [])).1 (Nat.le_of_eq g1.symm)
  have K1 : Keep h0 h1 [] := (Keep.refl h0 []).ext E1
  have Z1 := Nat.le_trans Z0 E1.1
  have F1_trailVariable : Fld Z h1 b1 Dn "trailVariable" "[I" .null := D1 (Or.inl (wq hw 12 rfl)) (ty := (.array .int)) (by decide)
  have F1_trailWord : Fld Z h1 b1 Dn "trailWord" "[I" .null := D1 (Or.inl (wq hw 14 rfl)) (ty := (.array .int)) (by decide)
  have F1_trailSaved : Fld Z h1 b1 Dn "trailSaved" "[J" .null := D1 (Or.inl (wq hw 17 rfl)) (ty := (.array .long)) (by decide)
  have F1_trailSize : Fld Z h1 b1 Dn "trailSize" "[I" .null := D1 (Or.inl (wq hw 19 rfl)) (ty := (.array .int)) (by decide)
  have F1_capacities : Fld Z h1 b1 Dn "capacities" "[I" .null := D1 (Or.inr (wq hw 30 rfl)) (ty := (.array .int)) (by decide)
  have F1_bits : Fld Z h1 b1 Dn "bits" "[[J" .null := D1 (Or.inr (wq hw 34 rfl)) (ty := (.array (.array .long))) (by decide)
  have F1_sizes : Fld Z h1 b1 Dn "sizes" "[I" .null := D1 (Or.inr (wq hw 36 rfl)) (ty := (.array .int)) (by decide)
  have F1_low : Fld Z h1 b1 Dn "low" "[I" .null := D1 (Or.inr (wq hw 38 rfl)) (ty := (.array .int)) (by decide)
  have F1_high : Fld Z h1 b1 Dn "high" "[I" .null := D1 (Or.inr (wq hw 40 rfl)) (ty := (.array .int)) (by decide)
  have F1_changed : Fld Z h1 b1 Dn "changed" "[I" .null := D1 (Or.inr (wq hw 43 rfl)) (ty := (.array .int)) (by decide)
  have F1_isChanged : Fld Z h1 b1 Dn "isChanged" "[Z" .null := D1 (Or.inr (wq hw 46 rfl)) (ty := (.array .boolean)) (by decide)
  have F1_trailLength : Fld Z h1 b1 Dn "trailLength" "I" (.int 0) := D1 (Or.inl (wq hw 58 rfl)) (ty := .int) (by decide)
  have F1_changedCount : Fld Z h1 b1 Dn "changedCount" "I" (.int 0) := D1 (Or.inl (wq hw 65 rfl)) (ty := .int) (by decide)
  have F1_listener : Fld Z h1 b1 Dn "listener" "Lcom/example/whittle/whittle/engine/Domains$RemovalListener;" .null := D1 (Or.inl (wq hw 82 rfl)) (ty := (.object "com/example/whittle/whittle/engine/Domains$RemovalListener")) (by decide)
  refine Go.via st1 ?_
  refine Vi (T1.setTop (mkF m 196 (LQ p0 p1 p2 p3 p4 p5 ca cb xv xa xb xy ka kb qq cv cx cz cy ri ami hd cmi [.unset, .unset, .unset, .unset, .unset, .unset, .unset]) [(.int 2), (.ref b1), (.ref b1)])) (fun tZ kZ => ?_) ?_
  · refine XS.dup X1.here hx rfl (hb hby at_194) rfl rfl ?_
    refine XS.iconst X1.here hx rfl (hb hby at_195) ?_
    exact kZ
  obtain ⟨T3, h3, k3, X3, e3, E3, A3, B3, st3⟩ := newPE X1 hx hZ (wq hw 4 rfl) e1 (g := (mkF m 196 (LQ p0 p1 p2 p3 p4 p5 ca cb xv xa xb xy ka kb qq cv cx cz cy ri ami hd cmi [.unset, .unset, .unset, .unset, .unset, .unset, .unset]) [(.int 2), (.ref b1), (.ref b1)])) rfl (hb hby at_196) rfl (by decide) (cap := 2) (by decide) (by decide) (by decide) (by decide) (ad := "[I") rfl
  obtain ⟨b3, g3⟩ : ∃ z, z = h1.size := ⟨_, rfl⟩
  rw [← g3] at A3 B3 st3
  have g_b3 : n0 ≤ b3 := Nat.le_trans Z1 (Nat.le_of_eq g3.symm)
  have sz_b3 : h0.size ≤ b3 := Nat.le_trans (K1).1 (Nat.le_of_eq g3.symm)
  have ne_b1_b3 : b1 ≠ b3 := Nat.ne_of_lt (Nat.lt_of_lt_of_le A1.lt (Nat.le_of_eq g3.symm))
  have c4_1 := A1.ext E3
  have c4_2 := F1_trailVariable.ext E3
  have c4_3 := F1_trailWord.ext E3
  have c4_4 := F1_trailSaved.ext E3
  have c4_5 := F1_trailSize.ext E3
  have c4_6 := F1_capacities.ext E3
  have c4_7 := F1_bits.ext E3
  have c4_8 := F1_sizes.ext E3
  have c4_9 := F1_low.ext E3
  have c4_10 := F1_high.ext E3
  have c4_11 := F1_changed.ext E3
  have c4_12 := F1_isChanged.ext E3
  have c4_13 := F1_trailLength.ext E3
  have c4_14 := F1_changedCount.ext E3
  have c4_15 := F1_listener.ext E3
  have K3 : Keep h0 h3 [] := K1.ext E3
  have Z3 := Nat.le_trans Z1 E3.1
  have V3 : AV Z h3 b3 .int 2 (fun k => .int ((fun _ => (0 : Int32)) k)) := by have q := AV.new A3; exact q
  refine Go.via st3 ?_
  refine Vi (T3.setTop (mkF m 202 (LQ p0 p1 p2 p3 p4 p5 ca cb xv xa xb xy ka kb qq cv cx cz cy ri ami hd cmi [.unset, .unset, .unset, .unset, .unset, .unset, .unset]) [(.int ca), (.int 0), (.ref b3), (.ref b3), (.ref b1), (.ref b1)])) (fun tZ kZ => ?_) ?_
  · refine XS.dup X3.here hx rfl (hb hby at_198) rfl rfl ?_
    refine XS.iconst X3.here hx rfl (hb hby at_199) ?_
    refine XS.iload X3.here hx rfl (hb hby at_200) rfl ?_
    exact kZ
  obtain ⟨T5, h5, X5, e5, W5, V5, st5⟩ := AV.iastore V3 X3 hx hZ e3 (j := (0 : Int32)) (by decide) (Ls := #[sI p0, sI p1, sI p2, sI p3, sI p4, sI p5, sI ca, sI cb, sI xv, sI xa, sI xb, sI xy, sI ka, sI kb, sI qq, sI cv, sI cx, sI cz, sI cy, sI ri, sI ami, sI hd, sI cmi, .unset, .unset, .unset, .unset, .unset, .unset, .unset]) (rest := [(.ref b3), (.ref b1), (.ref b1)]) (hb hby at_202) (x := ca)
  have N5 := Fr.snoc X5 N0 g_b3
  have c6_1 := c4_1.wr W5
  have c6_2 := c4_2.other W5 (Or.inl ne_b1_b3)
  have c6_3 := c4_3.other W5 (Or.inl ne_b1_b3)
  have c6_4 := c4_4.other W5 (Or.inl ne_b1_b3)
  have c6_5 := c4_5.other W5 (Or.inl ne_b1_b3)
  have c6_6 := c4_6.other W5 (Or.inl ne_b1_b3)
  have c6_7 := c4_7.other W5 (Or.inl ne_b1_b3)
  have c6_8 := c4_8.other W5 (Or.inl ne_b1_b3)
  have c6_9 := c4_9.other W5 (Or.inl ne_b1_b3)
  have c6_10 := c4_10.other W5 (Or.inl ne_b1_b3)
  have c6_11 := c4_11.other W5 (Or.inl ne_b1_b3)
  have c6_12 := c4_12.other W5 (Or.inl ne_b1_b3)
  have c6_13 := c4_13.other W5 (Or.inl ne_b1_b3)
  have c6_14 := c4_14.other W5 (Or.inl ne_b1_b3)
  have c6_15 := c4_15.other W5 (Or.inl ne_b1_b3)
  have c6_17 := B3.wr W5
  have K5 : Keep h0 h5 [] := K3.wr W5 (Or.inr sz_b3)
  have Z5 := Nat.le_trans Z3 (Keep.of_wr W5).1
  refine Go.via st5 ?_
  refine Vi (T5.setTop (mkF m 207 (LQ p0 p1 p2 p3 p4 p5 ca cb xv xa xb xy ka kb qq cv cx cz cy ri ami hd cmi [.unset, .unset, .unset, .unset, .unset, .unset, .unset]) [(.int cb), (.int 1), (.ref b3), (.ref b3), (.ref b1), (.ref b1)])) (fun tZ kZ => ?_) ?_
  · refine XS.dup X5.here hx rfl (hb hby at_203) rfl rfl ?_
    refine XS.iconst X5.here hx rfl (hb hby at_204) ?_
    refine XS.iload X5.here hx rfl (hb hby at_205) rfl ?_
    exact kZ
  obtain ⟨T7, h7, X7, e7, W7, V7, st7⟩ := AV.iastore V5 X5 hx hZ e5 (j := (1 : Int32)) (by decide) (Ls := #[sI p0, sI p1, sI p2, sI p3, sI p4, sI p5, sI ca, sI cb, sI xv, sI xa, sI xb, sI xy, sI ka, sI kb, sI qq, sI cv, sI cx, sI cz, sI cy, sI ri, sI ami, sI hd, sI cmi, .unset, .unset, .unset, .unset, .unset, .unset, .unset]) (rest := [(.ref b3), (.ref b1), (.ref b1)]) (hb hby at_207) (x := cb)
  have N7 := Fr.snoc X7 N5 g_b3
  have c8_1 := c6_1.wr W7
  have c8_2 := c6_2.other W7 (Or.inl ne_b1_b3)
  have c8_3 := c6_3.other W7 (Or.inl ne_b1_b3)
  have c8_4 := c6_4.other W7 (Or.inl ne_b1_b3)
  have c8_5 := c6_5.other W7 (Or.inl ne_b1_b3)
  have c8_6 := c6_6.other W7 (Or.inl ne_b1_b3)
  have c8_7 := c6_7.other W7 (Or.inl ne_b1_b3)
  have c8_8 := c6_8.other W7 (Or.inl ne_b1_b3)
  have c8_9 := c6_9.other W7 (Or.inl ne_b1_b3)
  have c8_10 := c6_10.other W7 (Or.inl ne_b1_b3)
  have c8_11 := c6_11.other W7 (Or.inl ne_b1_b3)
  have c8_12 := c6_12.other W7 (Or.inl ne_b1_b3)
  have c8_13 := c6_13.other W7 (Or.inl ne_b1_b3)
  have c8_14 := c6_14.other W7 (Or.inl ne_b1_b3)
  have c8_15 := c6_15.other W7 (Or.inl ne_b1_b3)
  have c8_17 := c6_17.wr W7
  have K7 : Keep h0 h7 [] := K5.wr W7 (Or.inr sz_b3)
  have Z7 := Nat.le_trans Z5 (Keep.of_wr W7).1
  refine Go.via st7 ?_
  obtain ⟨nU, hnU⟩ : ∃ z, (own_J (ca + (63 : Int32))).toNatClampNeg = z := ⟨_, rfl⟩
  obtain ⟨nV, hnV⟩ : ∃ z, (own_J (cb + (63 : Int32))).toNatClampNeg = z := ⟨_, rfl⟩
  have wU := own_wds hca
  have wV := own_wds hcb
  rw [hnU] at wU
  rw [hnV] at wV
  have c_0 : (up (up (fun _ => (0 : Int32)) (0 : Int32).toNatClampNeg ca) (1 : Int32).toNatClampNeg cb) (0 : Int32).toNatClampNeg = ca := rfl
  have c_1 : (up (up (fun _ => (0 : Int32)) (0 : Int32).toNatClampNeg ca) (1 : Int32).toNatClampNeg cb) (1 : Int32).toNatClampNeg = cb := rfl
  obtain ⟨_, _, ⟨T9, L9, k9, n9⟩, -, X9, ⟨Lc9, hQ9, l9, y9, z9⟩, st9⟩ := X7.specialBack hx (y := y1) rfl hown (wz hZ hw 5 rfl) (wz hZ hw 6 rfl) (wz hZ hw 7 rfl) (by decide) (backOf (W := 1) (rm1 l Z a0 hw [] b1 b3 (up (up (fun _ => (0 : Int32)) (0 : Int32).toNatClampNeg ca) (1 : Int32).toNatClampNeg cb) nU nV h7 n0 Z7 c8_1 c8_13 c8_14 c8_15 c8_9 c8_10 c8_8 c8_6 c8_11 c8_12 c8_7 c8_2 c8_3 c8_4 c8_5 g_b1 c8_17 V7 ne_b1_b3 (by rw [c_0]; exact (own_wds hca).1) (by rw [c_0]; exact (own_wds hca).2.1) (by rw [c_0]; exact hnU) (by rw [c_1]; exact (own_wds hcb).1) (by rw [c_1]; exact (own_wds hcb).2.1) (by rw [c_1]; exact hnV)) hZ (wq hw 7 rfl) (wq hw 3 rfl) (by decide) (by decide)) (g := (mkF m 208 (LQ p0 p1 p2 p3 p4 p5 ca cb xv xa xb xy ka kb qq cv cx cz cy ri ami hd cmi [.unset, .unset, .unset, .unset, .unset, .unset, .unset]) [(.ref b3), (.ref b1), (.ref b1)])) rfl (by rw [hml]; rfl) (Steps.refl _) (a := b1) (argsL := [(.ref b3)]) (rest := [(.ref b1)]) (lenOf pd_0 rfl) rfl (leW rfl) (hb hby at_208) (fun _ _ => ⟨rfl, e7, (by decide : 0 + 1 + 1 + 13 ≤ _), (by decide : 0 + 14 + 2 + 4114 ≤ _)⟩)
  dsimp only [Pt.U, Pt.locs, Pt.cells, Pt.slots] at X9 l9 y9 z9 st9 hQ9
  subst l9 y9 z9
  obtain ⟨rfl, N9q, b9_0, b9_1, b9_2, b9_3, b9_4, b9_5, b9_6, b9_7, b9_8, b9_9, b9_10, b9_11, b9_12, hz_b9_0, hz_b9_1, hz_b9_2, hz_b9_3, hz_b9_4, hz_b9_5, hz_b9_6, hz_b9_7, hz_b9_8, hz_b9_9, hz_b9_10, hz_b9_11, hz_b9_12, ne_b9_0_b9_1, ne_b9_0_b9_2, ne_b9_0_b9_3, ne_b9_0_b9_4, ne_b9_0_b9_5, ne_b9_0_b9_6, ne_b9_0_b9_7, ne_b9_0_b9_8, ne_b9_0_b9_9, ne_b9_0_b9_10, ne_b9_0_b9_11, ne_b9_0_b9_12, ne_b9_1_b9_2, ne_b9_1_b9_3, ne_b9_1_b9_4, ne_b9_1_b9_5, ne_b9_1_b9_6, ne_b9_1_b9_7, ne_b9_1_b9_8, ne_b9_1_b9_9, ne_b9_1_b9_10, ne_b9_1_b9_11, ne_b9_1_b9_12, ne_b9_2_b9_3, ne_b9_2_b9_4, ne_b9_2_b9_5, ne_b9_2_b9_6, ne_b9_2_b9_7, ne_b9_2_b9_8, ne_b9_2_b9_9, ne_b9_2_b9_10, ne_b9_2_b9_11, ne_b9_2_b9_12, ne_b9_3_b9_4, ne_b9_3_b9_5, ne_b9_3_b9_6, ne_b9_3_b9_7, ne_b9_3_b9_8, ne_b9_3_b9_9, ne_b9_3_b9_10, ne_b9_3_b9_11, ne_b9_3_b9_12, ne_b9_4_b9_5, ne_b9_4_b9_6, ne_b9_4_b9_7, ne_b9_4_b9_8, ne_b9_4_b9_9, ne_b9_4_b9_10, ne_b9_4_b9_11, ne_b9_4_b9_12, ne_b9_5_b9_6, ne_b9_5_b9_7, ne_b9_5_b9_8, ne_b9_5_b9_9, ne_b9_5_b9_10, ne_b9_5_b9_11, ne_b9_5_b9_12, ne_b9_6_b9_7, ne_b9_6_b9_8, ne_b9_6_b9_9, ne_b9_6_b9_10, ne_b9_6_b9_11, ne_b9_6_b9_12, ne_b9_7_b9_8, ne_b9_7_b9_9, ne_b9_7_b9_10, ne_b9_7_b9_11, ne_b9_7_b9_12, ne_b9_8_b9_9, ne_b9_8_b9_10, ne_b9_8_b9_11, ne_b9_8_b9_12, ne_b9_9_b9_10, ne_b9_9_b9_11, ne_b9_9_b9_12, ne_b9_10_b9_11, ne_b9_10_b9_12, ne_b9_11_b9_12, Kq9, f9_0, f9_1, f9_2, f9_3, f9_4, f9_5, f9_6, f9_7, f9_8, f9_9, f9_10, f9_11, f9_12, f9_13, f9_14, f9_15, f9_16, f9_17, f9_18, f9_19, f9_20, f9_21, f9_22, f9_23, f9_24, f9_25, f9_26, f9_27, f9_28, f9_29, f9_30, f9_31, f9_32, f9_33, f9_34, f9_35, f9_36, f9_37, f9_38, f9_39, f9_40, f9_41, f9_42, f9_43⟩ := hQ9
  have g_b9_0 : n0 ≤ b9_0 := Nat.le_trans Z7 hz_b9_0
  have sz_b9_0 : h0.size ≤ b9_0 := Nat.le_trans (K7).1 hz_b9_0
  have ne_b1_b9_0 : b1 ≠ b9_0 := Nat.ne_of_lt (Nat.lt_of_lt_of_le c8_1.lt hz_b9_0)
  have ne_b3_b9_0 : b3 ≠ b9_0 := Nat.ne_of_lt (Nat.lt_of_lt_of_le c8_17.lt hz_b9_0)
  have g_b9_1 : n0 ≤ b9_1 := Nat.le_trans Z7 hz_b9_1
  have sz_b9_1 : h0.size ≤ b9_1 := Nat.le_trans (K7).1 hz_b9_1
  have ne_b1_b9_1 : b1 ≠ b9_1 := Nat.ne_of_lt (Nat.lt_of_lt_of_le c8_1.lt hz_b9_1)
  have ne_b3_b9_1 : b3 ≠ b9_1 := Nat.ne_of_lt (Nat.lt_of_lt_of_le c8_17.lt hz_b9_1)
  have g_b9_2 : n0 ≤ b9_2 := Nat.le_trans Z7 hz_b9_2
  have sz_b9_2 : h0.size ≤ b9_2 := Nat.le_trans (K7).1 hz_b9_2
  have ne_b1_b9_2 : b1 ≠ b9_2 := Nat.ne_of_lt (Nat.lt_of_lt_of_le c8_1.lt hz_b9_2)
  have ne_b3_b9_2 : b3 ≠ b9_2 := Nat.ne_of_lt (Nat.lt_of_lt_of_le c8_17.lt hz_b9_2)
  have g_b9_3 : n0 ≤ b9_3 := Nat.le_trans Z7 hz_b9_3
  have sz_b9_3 : h0.size ≤ b9_3 := Nat.le_trans (K7).1 hz_b9_3
  have ne_b1_b9_3 : b1 ≠ b9_3 := Nat.ne_of_lt (Nat.lt_of_lt_of_le c8_1.lt hz_b9_3)
  have ne_b3_b9_3 : b3 ≠ b9_3 := Nat.ne_of_lt (Nat.lt_of_lt_of_le c8_17.lt hz_b9_3)
  have g_b9_4 : n0 ≤ b9_4 := Nat.le_trans Z7 hz_b9_4
  have sz_b9_4 : h0.size ≤ b9_4 := Nat.le_trans (K7).1 hz_b9_4
  have ne_b1_b9_4 : b1 ≠ b9_4 := Nat.ne_of_lt (Nat.lt_of_lt_of_le c8_1.lt hz_b9_4)
  have ne_b3_b9_4 : b3 ≠ b9_4 := Nat.ne_of_lt (Nat.lt_of_lt_of_le c8_17.lt hz_b9_4)
  have g_b9_5 : n0 ≤ b9_5 := Nat.le_trans Z7 hz_b9_5
  have sz_b9_5 : h0.size ≤ b9_5 := Nat.le_trans (K7).1 hz_b9_5
  have ne_b1_b9_5 : b1 ≠ b9_5 := Nat.ne_of_lt (Nat.lt_of_lt_of_le c8_1.lt hz_b9_5)
  have ne_b3_b9_5 : b3 ≠ b9_5 := Nat.ne_of_lt (Nat.lt_of_lt_of_le c8_17.lt hz_b9_5)
  have g_b9_6 : n0 ≤ b9_6 := Nat.le_trans Z7 hz_b9_6
  have sz_b9_6 : h0.size ≤ b9_6 := Nat.le_trans (K7).1 hz_b9_6
  have ne_b1_b9_6 : b1 ≠ b9_6 := Nat.ne_of_lt (Nat.lt_of_lt_of_le c8_1.lt hz_b9_6)
  have ne_b3_b9_6 : b3 ≠ b9_6 := Nat.ne_of_lt (Nat.lt_of_lt_of_le c8_17.lt hz_b9_6)
  have g_b9_7 : n0 ≤ b9_7 := Nat.le_trans Z7 hz_b9_7
  have sz_b9_7 : h0.size ≤ b9_7 := Nat.le_trans (K7).1 hz_b9_7
  have ne_b1_b9_7 : b1 ≠ b9_7 := Nat.ne_of_lt (Nat.lt_of_lt_of_le c8_1.lt hz_b9_7)
  have ne_b3_b9_7 : b3 ≠ b9_7 := Nat.ne_of_lt (Nat.lt_of_lt_of_le c8_17.lt hz_b9_7)
  have g_b9_8 : n0 ≤ b9_8 := Nat.le_trans Z7 hz_b9_8
  have sz_b9_8 : h0.size ≤ b9_8 := Nat.le_trans (K7).1 hz_b9_8
  have ne_b1_b9_8 : b1 ≠ b9_8 := Nat.ne_of_lt (Nat.lt_of_lt_of_le c8_1.lt hz_b9_8)
  have ne_b3_b9_8 : b3 ≠ b9_8 := Nat.ne_of_lt (Nat.lt_of_lt_of_le c8_17.lt hz_b9_8)
  have g_b9_9 : n0 ≤ b9_9 := Nat.le_trans Z7 hz_b9_9
  have sz_b9_9 : h0.size ≤ b9_9 := Nat.le_trans (K7).1 hz_b9_9
  have ne_b1_b9_9 : b1 ≠ b9_9 := Nat.ne_of_lt (Nat.lt_of_lt_of_le c8_1.lt hz_b9_9)
  have ne_b3_b9_9 : b3 ≠ b9_9 := Nat.ne_of_lt (Nat.lt_of_lt_of_le c8_17.lt hz_b9_9)
  have g_b9_10 : n0 ≤ b9_10 := Nat.le_trans Z7 hz_b9_10
  have sz_b9_10 : h0.size ≤ b9_10 := Nat.le_trans (K7).1 hz_b9_10
  have ne_b1_b9_10 : b1 ≠ b9_10 := Nat.ne_of_lt (Nat.lt_of_lt_of_le c8_1.lt hz_b9_10)
  have ne_b3_b9_10 : b3 ≠ b9_10 := Nat.ne_of_lt (Nat.lt_of_lt_of_le c8_17.lt hz_b9_10)
  have g_b9_11 : n0 ≤ b9_11 := Nat.le_trans Z7 hz_b9_11
  have sz_b9_11 : h0.size ≤ b9_11 := Nat.le_trans (K7).1 hz_b9_11
  have ne_b1_b9_11 : b1 ≠ b9_11 := Nat.ne_of_lt (Nat.lt_of_lt_of_le c8_1.lt hz_b9_11)
  have ne_b3_b9_11 : b3 ≠ b9_11 := Nat.ne_of_lt (Nat.lt_of_lt_of_le c8_17.lt hz_b9_11)
  have g_b9_12 : n0 ≤ b9_12 := Nat.le_trans Z7 hz_b9_12
  have sz_b9_12 : h0.size ≤ b9_12 := Nat.le_trans (K7).1 hz_b9_12
  have ne_b1_b9_12 : b1 ≠ b9_12 := Nat.ne_of_lt (Nat.lt_of_lt_of_le c8_1.lt hz_b9_12)
  have ne_b3_b9_12 : b3 ≠ b9_12 := Nat.ne_of_lt (Nat.lt_of_lt_of_le c8_17.lt hz_b9_12)
  have K9 : Keep h0 T9.heap [] := K7.trans Kq9 (allS (Or.inr sz_b1) all0)
  have Z9 := Nat.le_trans Z7 Kq9.1
  have N9 := Fr.app N7 N9q
  refine Go.via (fun t k => st9.trans k) ?_
  have VB : AV Z T9.heap b9_5 (.array .long) 2 (own_b2 b9_9 b9_10) := f9_27.congr (fun j hj => by rcases (show j = 0 ∨ j = 1 by omega) with rfl | rfl <;> rfl)
  have OB : Obj Z T9.heap b1 b9_7 b9_8 b9_6 b9_4 b9_11 b9_12 b9_5 b9_0 b9_1 b9_2 b9_3 := ⟨f9_4, f9_5, f9_6, f9_7, f9_8, f9_9, f9_10, f9_11, f9_12, f9_13, f9_14, f9_3⟩
  refine Vi (T9.setTop (mkF m 215 (LQ p0 p1 p2 p3 p4 p5 ca cb xv xa xb xy ka kb qq cv cx cz cy ri ami hd cmi [sR b1, .unset, .unset, .unset, .unset, .unset, .unset]) [(.ref b1)])) (fun tZ kZ => ?_) ?_
  · refine XS.astore X9.here hx rfl (hb hby at_211) rfl rfl (l' := (LQ p0 p1 p2 p3 p4 p5 ca cb xv xa xb xy ka kb qq cv cx cz cy ri ami hd cmi [sR b1, .unset, .unset, .unset, .unset, .unset, .unset])) rfl ?_
    refine XS.aload X9.here hx rfl (hb hby at_213) rfl rfl ?_
    exact kZ
  obtain ⟨cq11, kq11, q11a, q11b, q11c⟩ := isOf hZ rfl f9_0
  obtain ⟨_, _, ⟨T11, L11, k11, n11⟩, -, X11, ⟨Lc11, hQ11, l11, y11, z11⟩, st11⟩ := X9.virtualBack hx (y := y3) (z := y3) hown (wz hZ hw 47 rfl) (wz hZ hw 48 rfl) (notFace_of_selects (args := #[]) (wz hZ hw 50 rfl)) (wz hZ hw 50 rfl) (wz hZ hw 49 rfl) (by decide) (backOf (W := 0) (rm3 l Z a0 hw [] b1 b9_7 b9_8 b9_6 b9_4 b9_11 b9_12 b9_5 b9_0 b9_1 b9_2 b9_3 (fun _ => (0 : Int32)) (fun _ => (0 : Int32)) (fun _ => (0 : Int32)) (up (up (fun _ => (0 : Int32)) (0 : Int32).toNatClampNeg ca) (1 : Int32).toNatClampNeg cb) b9_9 b9_10 nU (fun _ => (0 : Int64)) nV (fun _ => (0 : Int64)) T9.heap n0 Z9 f9_0 OB f9_31 f9_33 f9_35 f9_25 VB f9_37 f9_39 f9_1 f9_2 g_b1 g_b9_9 g_b9_10 g_b9_6 g_b9_7 g_b9_8 ne_b1_b9_4 ne_b1_b9_5 ne_b1_b9_9 ne_b1_b9_10 ne_b1_b9_6 ne_b1_b9_7 ne_b1_b9_8 ne_b9_4_b9_5 ne_b9_4_b9_9 ne_b9_4_b9_10 ne_b9_4_b9_6 ne_b9_4_b9_7 ne_b9_4_b9_8 ne_b9_5_b9_9 ne_b9_5_b9_10 ne_b9_5_b9_6 ne_b9_5_b9_7 ne_b9_5_b9_8 ne_b9_9_b9_10 (Ne.symm ne_b9_6_b9_9) (Ne.symm ne_b9_7_b9_9) (Ne.symm ne_b9_8_b9_9) (Ne.symm ne_b9_6_b9_10) (Ne.symm ne_b9_7_b9_10) (Ne.symm ne_b9_8_b9_10) ne_b9_6_b9_7 ne_b9_6_b9_8 ne_b9_7_b9_8) hZ (wq hw 51 rfl) (wq hw 3 rfl) (by decide) (by decide)) q11a q11c (g := (mkF m 215 (LQ p0 p1 p2 p3 p4 p5 ca cb xv xa xb xy ka kb qq cv cx cz cy ri ami hd cmi [sR b1, .unset, .unset, .unset, .unset, .unset, .unset]) [(.ref b1)])) rfl (by rw [hml]; rfl) (Steps.refl _) (argsL := []) (rest := []) (lenOf pd_1 rfl) rfl (leW rfl) (hb hby at_215) (fun _ _ => ⟨rfl, rfl, (by decide : 0 + 1 + 1 + 13 + 0 ≤ _), (by decide : 0 + 14 + 2 + 4114 + 0 ≤ _)⟩)
  dsimp only [Pt.U, Pt.locs, Pt.cells, Pt.slots] at X11 l11 y11 z11 st11 hQ11
  subst l11 y11 z11
  obtain ⟨rfl, N11q, Kq11, f11_0, f11_1, f11_2, f11_3, f11_4, f11_5, f11_6, f11_7, f11_8, f11_9, f11_10⟩ := hQ11
  have c12_5 := f9_15.keep Kq11
  have c12_6 := f9_16.keep Kq11 (ninS ne_b3_b9_9 (ninS ne_b3_b9_6 (ninS ne_b3_b9_7 (ninS ne_b3_b9_8 (ninS ne_b3_b9_10 (ninS (Ne.symm ne_b1_b3) nin0))))))
  have c12_7 := f9_17.keep Kq11
  have c12_8 := f9_18.keep Kq11 (ninS ne_b9_0_b9_9 (ninS ne_b9_0_b9_6 (ninS ne_b9_0_b9_7 (ninS ne_b9_0_b9_8 (ninS ne_b9_0_b9_10 (ninS (Ne.symm ne_b1_b9_0) nin0))))))
  have c12_9 := f9_19.keep Kq11
  have c12_10 := f9_20.keep Kq11 (ninS ne_b9_1_b9_9 (ninS ne_b9_1_b9_6 (ninS ne_b9_1_b9_7 (ninS ne_b9_1_b9_8 (ninS ne_b9_1_b9_10 (ninS (Ne.symm ne_b1_b9_1) nin0))))))
  have c12_11 := f9_21.keep Kq11
  have c12_12 := f9_22.keep Kq11 (ninS ne_b9_2_b9_9 (ninS ne_b9_2_b9_6 (ninS ne_b9_2_b9_7 (ninS ne_b9_2_b9_8 (ninS ne_b9_2_b9_10 (ninS (Ne.symm ne_b1_b9_2) nin0))))))
  have c12_13 := f9_23.keep Kq11
  have c12_14 := f9_24.keep Kq11 (ninS ne_b9_3_b9_9 (ninS ne_b9_3_b9_6 (ninS ne_b9_3_b9_7 (ninS ne_b9_3_b9_8 (ninS ne_b9_3_b9_10 (ninS (Ne.symm ne_b1_b9_3) nin0))))))
  have c12_16 := f9_26.keep Kq11
  have c12_18 := f9_28.keep Kq11
  have c12_19 := f9_29.keep Kq11
  have c12_20 := f9_30.keep Kq11
  have c12_22 := f9_32.keep Kq11
  have c12_24 := f9_34.keep Kq11
  have c12_26 := f9_36.keep Kq11
  have c12_28 := f9_38.keep Kq11
  have c12_30 := f9_40.keep Kq11
  have c12_31 := f9_41.keep Kq11 (ninS (Ne.symm ne_b9_9_b9_11) (ninS (Ne.symm ne_b9_6_b9_11) (ninS (Ne.symm ne_b9_7_b9_11) (ninS (Ne.symm ne_b9_8_b9_11) (ninS (Ne.symm ne_b9_10_b9_11) (ninS (Ne.symm ne_b1_b9_11) nin0))))))
  have c12_32 := f9_42.keep Kq11
  have c12_33 := f9_43.keep Kq11 (ninS (Ne.symm ne_b9_9_b9_12) (ninS (Ne.symm ne_b9_6_b9_12) (ninS (Ne.symm ne_b9_7_b9_12) (ninS (Ne.symm ne_b9_8_b9_12) (ninS (Ne.symm ne_b9_10_b9_12) (ninS (Ne.symm ne_b1_b9_12) nin0))))))
  have K11 : Keep h0 T11.heap [] := K9.trans Kq11 (allS (Or.inr sz_b9_9) (allS (Or.inr sz_b9_6) (allS (Or.inr sz_b9_7) (allS (Or.inr sz_b9_8) (allS (Or.inr sz_b9_10) (allS (Or.inr sz_b1) all0))))))
  have Z11 := Nat.le_trans Z9 Kq11.1
  have N11 := Fr.app N9 N11q
  refine Go.via (fun t k => st11.trans k) ?_
  have VL : AV Z T11.heap b9_7 .int 2 (fun k => .int ((own_2 0 0) k)) := f11_3.congr (fun j hj => by rcases (show j = 0 ∨ j = 1 by omega) with rfl | rfl <;> rfl)
  have VH : AV Z T11.heap b9_8 .int 2 (fun k => .int ((own_2 (ca - 1) (cb - 1)) k)) := f11_4.congr (fun j hj => by rcases (show j = 0 ∨ j = 1 by omega) with rfl | rfl <;> rfl)
  have VS : AV Z T11.heap b9_6 .int 2 (fun k => .int ((own_2 ca cb) k)) := f11_2.congr (fun j hj => by rcases (show j = 0 ∨ j = 1 by omega) with rfl | rfl <;> rfl)
  exact tail0 l Z a0 hw ⟨X11, hx, hby, hml, Bd.notSynchronized, Bd.returns, hZ, hown, Z11, rfl, N11⟩ (i0 := p0) (i1 := p1) (i2 := p2) (i3 := p3) (i4 := p4) (i5 := p5) (ca := ca) (cb := cb) (xv := xv) (xa := xa) (xb := xb) (xy := xy) (ka := ka) (kb := kb) (qq := qq) (cv := cv) (cx := cx) (cz := cz) (cy := cy) (ri := ri) (ami := ami) (hd := hd) (cmi := cmi) ⟨by rw [e_xv]; exact own_bit1 _, by rw [e_xa]; exact own_bit1 _, by rw [e_xb]; exact own_bit1 _, by rw [e_xy]; exact own_bit1 _, hca, hcb, e_cv, e_cx, e_cz, e_cy, by rw [e_ri]; exact own_rem0 _ _, by rw [e_ami]; exact own_rem0 _ _, own_heldH (by rw [e_hd, e_ami, e_ri]), ⟨wU.2.2, wU.2.1⟩, wV.2.2, wV.2.1⟩ ⟨ne_b1_b9_5, ne_b1_b9_9, ne_b1_b9_10, ne_b1_b9_6, ne_b1_b9_7, ne_b1_b9_8, ne_b1_b9_11, ne_b1_b9_12, ne_b1_b9_0, ne_b1_b9_1, ne_b1_b9_2, ne_b1_b9_3, ne_b9_5_b9_9, ne_b9_5_b9_10, ne_b9_5_b9_6, ne_b9_5_b9_7, ne_b9_5_b9_8, ne_b9_5_b9_11, ne_b9_5_b9_12, (Ne.symm ne_b9_0_b9_5), (Ne.symm ne_b9_1_b9_5), (Ne.symm ne_b9_2_b9_5), (Ne.symm ne_b9_3_b9_5), ne_b9_9_b9_10, (Ne.symm ne_b9_6_b9_9), (Ne.symm ne_b9_7_b9_9), (Ne.symm ne_b9_8_b9_9), ne_b9_9_b9_11, ne_b9_9_b9_12, (Ne.symm ne_b9_0_b9_9), (Ne.symm ne_b9_1_b9_9), (Ne.symm ne_b9_2_b9_9), (Ne.symm ne_b9_3_b9_9), (Ne.symm ne_b9_6_b9_10), (Ne.symm ne_b9_7_b9_10), (Ne.symm ne_b9_8_b9_10), ne_b9_10_b9_11, ne_b9_10_b9_12, (Ne.symm ne_b9_0_b9_10), (Ne.symm ne_b9_1_b9_10), (Ne.symm ne_b9_2_b9_10), (Ne.symm ne_b9_3_b9_10), ne_b9_6_b9_7, ne_b9_6_b9_8, ne_b9_6_b9_11, ne_b9_6_b9_12, (Ne.symm ne_b9_0_b9_6), (Ne.symm ne_b9_1_b9_6), (Ne.symm ne_b9_2_b9_6), (Ne.symm ne_b9_3_b9_6), ne_b9_7_b9_8, ne_b9_7_b9_11, ne_b9_7_b9_12, (Ne.symm ne_b9_0_b9_7), (Ne.symm ne_b9_1_b9_7), (Ne.symm ne_b9_2_b9_7), (Ne.symm ne_b9_3_b9_7), ne_b9_8_b9_11, ne_b9_8_b9_12, (Ne.symm ne_b9_0_b9_8), (Ne.symm ne_b9_1_b9_8), (Ne.symm ne_b9_2_b9_8), (Ne.symm ne_b9_3_b9_8), ne_b9_11_b9_12, (Ne.symm ne_b9_0_b9_11), (Ne.symm ne_b9_1_b9_11), (Ne.symm ne_b9_2_b9_11), (Ne.symm ne_b9_3_b9_11), (Ne.symm ne_b9_0_b9_12), (Ne.symm ne_b9_1_b9_12), (Ne.symm ne_b9_2_b9_12), (Ne.symm ne_b9_3_b9_12), ne_b9_0_b9_1, ne_b9_0_b9_2, ne_b9_0_b9_3, ne_b9_1_b9_2, ne_b9_1_b9_3, ne_b9_2_b9_3⟩ ⟨g_b1, g_b9_9, g_b9_10, g_b9_6, g_b9_7, g_b9_8, g_b9_11, g_b9_12, g_b9_0, g_b9_1, g_b9_2, g_b9_3⟩ ⟨f11_0, f11_9, f11_10, f11_1, f11_6, VL, VH, VS, f11_7, f11_8, c12_31, c12_33, c12_8, c12_10, c12_12, c12_14⟩
theorem comes_1 {Post : Tables → Env → Array Value → State → Outcome → State → Prop} (hpost : ∀ tb e args s v u, (limb_1_1.after args s (.returned v) u = true ∧ limb_1_2.after args s (.returned v) u = true ∧ True) → FrameEnd s (.returned v) u (Jvm.fieldLocs frame_1_writes args s ++ Jvm.arrayLocs frame_1_arrays args s ++ Jvm.staticLocs frame_1_statics s) 40 8384 → Post tb e args s (.returned v) u) :
    ArmFor flags0 classFile x code maxLocals ret World_1 tables_1 room_1 Calls_1 rest_1 Pre_1 Post := by
  intro l hfl _ _ p e ha hc hk s m args below hf hA hF happ hP
  obtain ⟨hcalls, hrest, hpre⟩ := hP
  obtain ⟨-, -, -, hnamed, -, -, -, hat⟩ := (Spec.applies_iff hf).mp happ
  obtain ⟨hg, hn⟩ := and_e (Cond.before_iff.mp (show (Jvm.Cond.and given_1 narrow_1).before args s = true from hpre))
  obtain ⟨g1, g2⟩ := and_e hg
  obtain ⟨g3, g4⟩ := and_e g2
  obtain ⟨g5, g6⟩ := and_e g4
  obtain ⟨g7, g8⟩ := and_e g6
  obtain ⟨g9, g10⟩ := and_e g8
  obtain ⟨g11, g12⟩ := and_e g10
  obtain ⟨w0, w1, w2, w3, w4, w5, rfl⟩ : ∃ w0 w1 w2 w3 w4 w5 : Value, args = #[w0, w1, w2, w3, w4, w5] := by
    have hs : args.size = 6 := by simpa [Cond.value, given_1] using g1
    obtain ⟨L⟩ := args
    match L, hs with
    | [w0, w1, w2, w3, w4, w5], _ => exact ⟨w0, w1, w2, w3, w4, w5, rfl⟩
  have hw := fun d (hd : d ∈ tables_1) => atoms_spec (ws := Jvm.Cond.code x code maxLocals ret :: tables_1) hat d (List.mem_cons_of_mem _ hd)
  have hfit : Fit s := fun {y c} hc i hi => by
    obtain ⟨ha, rfl⟩ := Array.getElem?_eq_some_iff.mp hc
    have q := List.all_eq_true.mp ((Array.all_eq_true_iff_forall_mem.mp hF) _ (Array.getElem_mem ha)) i (List.mem_range.mpr hi)
    simpa [Array.getElem?_eq_getElem hi] using q
  obtain ⟨i0, ei0⟩ := is_v g3
  obtain rfl : w0 = (.int i0) := Option.some.inj ei0
  obtain ⟨i1, ei1⟩ := is_v g5
  obtain rfl : w1 = (.int i1) := Option.some.inj ei1
  obtain ⟨i2, ei2⟩ := is_v g7
  obtain rfl : w2 = (.int i2) := Option.some.inj ei2
  obtain ⟨i3, ei3⟩ := is_v g9
  obtain rfl : w3 = (.int i3) := Option.some.inj ei3
  obtain ⟨i4, ei4⟩ := is_v g11
  obtain rfl : w4 = (.int i4) := Option.some.inj ei4
  obtain ⟨i5, ei5⟩ := is_v g12
  obtain rfl : w5 = (.int i5) := Option.some.inj ei5

  obtain ⟨n, o, h1, h2, h3, _, L, rfl, ⟨rfl, N⟩, hq⟩ := rm0 l s _ hw tables_1 i0 i1 i2 i3 i4 i5  s.heap s.heap.size (Nat.le_refl _) p e ha hc hk s m _ below hf ((Spec.applies_iff_loose hf).mp happ).1 ⟨rfl, State.Warmed39.refl s, rfl⟩ trivial
  refine ⟨n, _, h1, h2, h3, hpost _ _ _ _ _ _ ⟨Cond.after_iff.mpr rfl, Cond.after_iff.mpr (eq_i res_at (Term.int_eval (1)) rfl), trivial⟩ ⟨hq.1, hq.2.1, (hq.2.2.sift fun y hy => Or.inr (N y hy)).mono (by decide) (by decide)⟩⟩
theorem main_1_1 : Claimed_1_1 := comes_1 fun _ _ _ _ _ _ h hF => ⟨h.1, hF⟩
theorem main_1_2 : Claimed_1_2 := comes_1 fun _ _ _ _ _ _ h hF => ⟨h.2.1, hF⟩
end Jvm.Pilot.@@N@@
namespace Jvm.Pilot.@@N@@
open Jvm Jvm.ClassFile Sem Op Lib Jvm.Free Jvm.Stand Jvm.Pilot.@@N@@.Jvm.D
/-! MADE BY PROGRAM (witnessworld.py) out of the Statement's table words and the real class files: 22 classes; the members and pool entries that the words name. The judged class is class 1, her method 1. -/
namespace start1
open Jvm.ClassFile
def u (s : String) : CpInfo := .utf8 (stringToUtf16 s)
/-- a pool by its gaps: so many unusable entries, then the entry; so many at the end -/
def gap : Nat → List CpInfo → List CpInfo
  | 0, r => r
  | n + 1, r => .unusable :: gap n r
def poolList (es : List (Nat × CpInfo)) (last : Nat) : List CpInfo := es.foldr (fun e r => gap e.1 (e.2 :: r)) (gap last [])
def pool (es : List (Nat × CpInfo)) (last : Nat) : Array CpInfo := ⟨poolList es last⟩
def fileOf (pool : Array CpInfo) (this : Nat) (attrs : Array Attribute := #[]) (ms : Array MethodInfo := #[]) (fl : Nat := 33) (sup : Nat := 0) (ifs : Array Nat := #[]) (fds : Array FieldInfo := #[]) : ClassFile where
  minorVersion := 0
  majorVersion := 65
  constantPool := pool
  accessFlags := fl
  thisClass := this
  superClass := sup
  interfaces := ifs
  fields := fds
  methods := ms
  attributes := attrs
def plain (name : String) (sup : Option ClassId) : Class where
  name := name
  kind := .ordinary
  loader := none
  accessFlags := 33
  super := sup
  interfaces := #[]
  cf := none
  fields := #[]
  methods := #[]
  instanceTypes := #[]
  staticTypes := #[]
  resolved := #[]
  callSites := []
  init := .initialized
  statics := none
  mirror := none

def pool0 : Array CpInfo := pool [(5, u "<init>"), (0, u "()V"), (1, .class_ 10), (1, u "java/lang/Object"), (85, u "clone"), (0, u "()Ljava/lang/Object;")] 26

def k0c0 : Code := { maxStack := 0, maxLocals := 1, code := object_method_1_code, exceptionTable := #[], attributes := #[] }
def k0m0 : Method := { name := "<init>", desc := "()V", sig := { parameters := [], returnType := none }, accessFlags := 1, code := some k0c0 }
def k0m1 : Method := { name := "clone", desc := "()Ljava/lang/Object;", sig := { parameters := [], returnType := some (.object "java/lang/Object") }, accessFlags := 260, code := none }
/-- java/lang/Object -/
def k0 : Class := { plain "java/lang/Object" none with
  accessFlags := 33
  interfaces := #[]
  cf := some (fileOf pool0 8 #[] #[{ accessFlags := 1, nameIndex := 5, descriptorIndex := 6, attributes := #[] }, { accessFlags := 260, nameIndex := 96, descriptorIndex := 97, attributes := #[] }] 33 0 #[] #[])
  fields := #[]
  methods := #[k0m0, k0m1]
  instanceTypes := #[]
  staticTypes := #[]
  resolved := Array.replicate 124 none
  statics := none }

def pool1 : Array CpInfo := pool [(2, .class_ 4), (1, u "java/lang/Object"), (0, u "<init>"), (0, u "()V"), (0, .integer 2147483647), (0, .class_ 9), (0, u "com/example/whittle/whittle/engine/Domains"), (0, .methodref 8 11), (0, .nameAndType 5 12), (0, u "([I)V"), (0, .methodref 8 14), (0, .nameAndType 15 6), (0, u "reset"), (0, .methodref 8 17), (0, .nameAndType 18 19), (0, u "remove"), (0, u "(II)Z"), (0, .methodref 8 21), (0, .nameAndType 22 23), (0, u "mark"), (0, u "()I"), (0, .methodref 8 25), (0, .nameAndType 26 27), (0, u "keepWithin"), (0, u "(III)Z"), (0, .methodref 8 29), (0, .nameAndType 30 31), (0, u "assign"), (0, u "(II)V"), (0, .methodref 8 33), (0, .nameAndType 34 35), (0, u "undo"), (0, u "(I)V"), (0, .methodref 8 37), (0, .nameAndType 38 39), (0, u "size"), (0, u "(I)I"), (0, .methodref 8 41), (0, .nameAndType 42 39), (0, u "first"), (0, .methodref 8 44), (0, .nameAndType 45 39), (0, u "last"), (0, .methodref 8 47), (0, .nameAndType 48 19), (0, u "contains"), (0, .class_ 50), (0, u "com/example/whittle/whittle/engine/DomainsUndoPinLaw"), (2, u "law"), (0, u "(IIIIII)Z")] 3

def k1m0 : Method := { name := "<init>", desc := "()V", sig := { parameters := [], returnType := none }, accessFlags := 1, code := none }
def k1c1 : Code := { maxStack := 6, maxLocals := 30, code := code, exceptionTable := #[], attributes := #[] }
def k1m1 : Method := { name := "law", desc := "(IIIIII)Z", sig := { parameters := [.int, .int, .int, .int, .int, .int], returnType := some .boolean }, accessFlags := 9, code := some k1c1 }
/-- com/example/whittle/whittle/engine/DomainsUndoPinLaw -/
def k1 : Class := { plain "com/example/whittle/whittle/engine/DomainsUndoPinLaw" (some 0) with
  accessFlags := 49
  interfaces := #[]
  cf := some (fileOf pool1 49 #[] #[{ accessFlags := 1, nameIndex := 5, descriptorIndex := 6, attributes := #[] }, { accessFlags := 9, nameIndex := 53, descriptorIndex := 54, attributes := #[] }] 49 2 #[] #[])
  fields := #[]
  methods := #[k1m0, k1m1]
  instanceTypes := #[]
  staticTypes := #[]
  resolved := Array.replicate 58 none
  statics := none }

def pool2 : Array CpInfo := pool [(1, .methodref 2 3), (0, .class_ 4), (0, .nameAndType 5 6), (0, u "java/lang/Object"), (0, u "<init>"), (0, u "()V"), (0, .fieldref 8 9), (0, .class_ 10), (0, .nameAndType 11 12), (0, u "com/example/whittle/whittle/engine/Domains"), (0, u "trailVariable"), (0, u "[I"), (0, .fieldref 8 14), (0, .nameAndType 15 12), (0, u "trailWord"), (0, .fieldref 8 17), (0, .nameAndType 18 19), (0, u "trailSaved"), (0, u "[J"), (0, .fieldref 8 21), (0, .nameAndType 22 12), (0, u "trailSize"), (0, .methodref 24 25), (0, .class_ 12), (0, .nameAndType 26 27), (0, u "clone"), (0, u "()Ljava/lang/Object;"), (0, .fieldref 8 29), (0, .nameAndType 30 12), (0, u "capacities"), (0, .class_ 19), (0, .fieldref 8 33), (0, .nameAndType 34 35), (0, u "bits"), (0, u "[[J"), (0, .fieldref 8 37), (0, .nameAndType 38 12), (0, u "sizes"), (0, .fieldref 8 40), (0, .nameAndType 41 12), (0, u "low"), (0, .fieldref 8 43), (0, .nameAndType 44 12), (0, u "high"), (0, .fieldref 8 46), (0, .nameAndType 47 12), (0, u "changed"), (0, .fieldref 8 49), (0, .nameAndType 50 51), (0, u "isChanged"), (0, u "[Z"), (0, .long 18446744073709551615), (1, .methodref 55 56), (0, .class_ 57), (0, .nameAndType 58 59), (0, u "java/util/Arrays"), (0, u "fill"), (0, u "([JJ)V"), (0, .fieldref 8 61), (0, .nameAndType 62 63), (0, u "trailLength"), (0, u "I"), (0, .methodref 8 65), (0, .nameAndType 66 6), (0, u "clearChanged"), (0, .fieldref 8 68), (0, .nameAndType 69 70), (0, u "listener"), (0, u "Lcom/example/whittle/whittle/engine/Domains$RemovalListener;"), (0, .methodref 72 73), (0, .class_ 74), (0, .nameAndType 75 76), (0, u "java/lang/Math"), (0, u "max"), (0, u "(II)I"), (0, .methodref 78 79), (0, .class_ 80), (0, .nameAndType 81 82), (0, u "java/lang/Long"), (0, u "numberOfTrailingZeros"), (0, u "(J)I"), (0, .methodref 72 84), (0, .nameAndType 85 76), (0, u "min"), (0, .methodref 78 87), (0, .nameAndType 88 82), (0, u "numberOfLeadingZeros"), (0, .methodref 8 90), (0, .nameAndType 91 92), (0, u "masked"), (0, u "(IIII)J"), (0, .methodref 8 94), (0, .nameAndType 95 96), (0, u "contains"), (0, u "(II)Z"), (1, .class_ 100), (1, u "com/example/whittle/whittle/engine/Domains$RemovalListener"), (1, u "(II)V"), (0, .methodref 8 104), (0, .nameAndType 105 76), (0, u "next"), (0, .methodref 8 107), (0, .nameAndType 108 109), (0, u "bound"), (0, u "(IIII)V"), (0, .methodref 8 111), (0, .nameAndType 112 76), (0, u "previous"), (0, .methodref 8 114), (0, .nameAndType 115 116), (0, u "save"), (0, u "(IIJ)V"), (0, .methodref 8 118), (0, .nameAndType 119 120), (0, u "noteChanged"), (0, u "(I)V"), (0, .methodref 8 122), (0, .nameAndType 123 96), (0, u "remove"), (0, .methodref 8 125), (0, .nameAndType 126 127), (0, u "countWithin"), (0, u "(III)I"), (0, .fieldref 8 129), (0, .nameAndType 130 63), (0, u "changedCount"), (0, .methodref 8 132), (0, .nameAndType 133 127), (0, u "bitCount"), (0, .methodref 78 135), (0, .nameAndType 133 82), (0, .long 4294967295), (8, u "BOUNDS"), (2, u "([I)V"), (3, u "reset"), (2, u "size"), (0, u "(I)I"), (0, u "first"), (0, u "last"), (2, u "keepWithin"), (0, u "(III)Z"), (0, u "assign"), (0, u "mark"), (0, u "()I"), (0, u "undo")] 6

def k2c0 : Code := { maxStack := 4, maxLocals := 3, code := prog_22_method_1_code, exceptionTable := #[], attributes := #[] }
def k2m0 : Method := { name := "<init>", desc := "([I)V", sig := { parameters := [(.array .int)], returnType := none }, accessFlags := 0, code := some k2c0 }
def k2c1 : Code := { maxStack := 4, maxLocals := 2, code := prog_22_method_2_code, exceptionTable := #[], attributes := #[] }
def k2m1 : Method := { name := "reset", desc := "()V", sig := { parameters := [], returnType := none }, accessFlags := 0, code := some k2c1 }
def k2c2 : Code := { maxStack := 2, maxLocals := 2, code := prog_22_method_4_code, exceptionTable := #[], attributes := #[] }
def k2m2 : Method := { name := "size", desc := "(I)I", sig := { parameters := [.int], returnType := some .int }, accessFlags := 0, code := some k2c2 }
def k2c3 : Code := { maxStack := 5, maxLocals := 3, code := prog_22_method_5_code, exceptionTable := #[], attributes := #[] }
def k2m3 : Method := { name := "contains", desc := "(II)Z", sig := { parameters := [.int, .int], returnType := some .boolean }, accessFlags := 0, code := some k2c3 }
def k2c4 : Code := { maxStack := 5, maxLocals := 7, code := prog_22_method_6_code, exceptionTable := #[], attributes := #[] }
def k2m4 : Method := { name := "next", desc := "(II)I", sig := { parameters := [.int, .int], returnType := some .int }, accessFlags := 0, code := some k2c4 }
def k2c5 : Code := { maxStack := 2, maxLocals := 2, code := prog_22_method_7_code, exceptionTable := #[], attributes := #[] }
def k2m5 : Method := { name := "first", desc := "(I)I", sig := { parameters := [.int], returnType := some .int }, accessFlags := 0, code := some k2c5 }
def k2c6 : Code := { maxStack := 7, maxLocals := 7, code := prog_22_method_8_code, exceptionTable := #[], attributes := #[] }
def k2m6 : Method := { name := "previous", desc := "(II)I", sig := { parameters := [.int, .int], returnType := some .int }, accessFlags := 0, code := some k2c6 }
def k2c7 : Code := { maxStack := 2, maxLocals := 2, code := prog_22_method_9_code, exceptionTable := #[], attributes := #[] }
def k2m7 : Method := { name := "last", desc := "(I)I", sig := { parameters := [.int], returnType := some .int }, accessFlags := 0, code := some k2c7 }
def k2c8 : Code := { maxStack := 8, maxLocals := 5, code := prog_22_method_11_code, exceptionTable := #[], attributes := #[] }
def k2m8 : Method := { name := "remove", desc := "(II)Z", sig := { parameters := [.int, .int], returnType := some .boolean }, accessFlags := 0, code := some k2c8 }
def k2c9 : Code := { maxStack := 8, maxLocals := 7, code := prog_22_method_12_code, exceptionTable := #[], attributes := #[] }
def k2m9 : Method := { name := "keepWithin", desc := "(III)Z", sig := { parameters := [.int, .int, .int], returnType := some .boolean }, accessFlags := 0, code := some k2c9 }
def k2c10 : Code := { maxStack := 5, maxLocals := 3, code := prog_22_method_13_code, exceptionTable := #[], attributes := #[] }
def k2m10 : Method := { name := "assign", desc := "(II)V", sig := { parameters := [.int, .int], returnType := none }, accessFlags := 0, code := some k2c10 }
def k2c11 : Code := { maxStack := 1, maxLocals := 1, code := prog_22_method_14_code, exceptionTable := #[], attributes := #[] }
def k2m11 : Method := { name := "mark", desc := "()I", sig := { parameters := [], returnType := some .int }, accessFlags := 0, code := some k2c11 }
def k2c12 : Code := { maxStack := 5, maxLocals := 5, code := prog_22_method_15_code, exceptionTable := #[], attributes := #[] }
def k2m12 : Method := { name := "undo", desc := "(I)V", sig := { parameters := [.int], returnType := none }, accessFlags := 0, code := some k2c12 }
def k2c13 : Code := { maxStack := 3, maxLocals := 2, code := prog_22_method_18_code, exceptionTable := #[], attributes := #[] }
def k2m13 : Method := { name := "clearChanged", desc := "()V", sig := { parameters := [], returnType := none }, accessFlags := 0, code := some k2c13 }
def k2c14 : Code := { maxStack := 5, maxLocals := 2, code := prog_22_method_19_code, exceptionTable := #[], attributes := #[] }
def k2m14 : Method := { name := "noteChanged", desc := "(I)V", sig := { parameters := [.int], returnType := none }, accessFlags := 2, code := some k2c14 }
def k2c15 : Code := { maxStack := 6, maxLocals := 7, code := prog_22_method_20_code, exceptionTable := #[], attributes := #[] }
def k2m15 : Method := { name := "countWithin", desc := "(III)I", sig := { parameters := [.int, .int, .int], returnType := some .int }, accessFlags := 2, code := some k2c15 }
def k2c16 : Code := { maxStack := 6, maxLocals := 6, code := prog_22_method_21_code, exceptionTable := #[], attributes := #[] }
def k2m16 : Method := { name := "bitCount", desc := "(III)I", sig := { parameters := [.int, .int, .int], returnType := some .int }, accessFlags := 2, code := some k2c16 }
def k2c17 : Code := { maxStack := 7, maxLocals := 7, code := prog_22_method_22_code, exceptionTable := #[], attributes := #[] }
def k2m17 : Method := { name := "masked", desc := "(IIII)J", sig := { parameters := [.int, .int, .int, .int], returnType := some .long }, accessFlags := 2, code := some k2c17 }
def k2c18 : Code := { maxStack := 9, maxLocals := 5, code := prog_22_method_23_code, exceptionTable := #[], attributes := #[] }
def k2m18 : Method := { name := "bound", desc := "(IIII)V", sig := { parameters := [.int, .int, .int, .int], returnType := none }, accessFlags := 2, code := some k2c18 }
def k2c19 : Code := { maxStack := 4, maxLocals := 6, code := prog_22_method_24_code, exceptionTable := #[], attributes := #[] }
def k2m19 : Method := { name := "save", desc := "(IIJ)V", sig := { parameters := [.int, .int, .long], returnType := none }, accessFlags := 2, code := some k2c19 }
/-- com/example/whittle/whittle/engine/Domains -/
def k2 : Class := { plain "com/example/whittle/whittle/engine/Domains" (some 0) with
  accessFlags := 48
  interfaces := #[]
  cf := some (fileOf pool2 8 #[.nestMembers #[98]] #[{ accessFlags := 0, nameIndex := 5, descriptorIndex := 148, attributes := #[] }, { accessFlags := 0, nameIndex := 152, descriptorIndex := 6, attributes := #[] }, { accessFlags := 0, nameIndex := 155, descriptorIndex := 156, attributes := #[] }, { accessFlags := 0, nameIndex := 95, descriptorIndex := 96, attributes := #[] }, { accessFlags := 0, nameIndex := 105, descriptorIndex := 76, attributes := #[] }, { accessFlags := 0, nameIndex := 157, descriptorIndex := 156, attributes := #[] }, { accessFlags := 0, nameIndex := 112, descriptorIndex := 76, attributes := #[] }, { accessFlags := 0, nameIndex := 158, descriptorIndex := 156, attributes := #[] }, { accessFlags := 0, nameIndex := 123, descriptorIndex := 96, attributes := #[] }, { accessFlags := 0, nameIndex := 161, descriptorIndex := 162, attributes := #[] }, { accessFlags := 0, nameIndex := 163, descriptorIndex := 102, attributes := #[] }, { accessFlags := 0, nameIndex := 164, descriptorIndex := 165, attributes := #[] }, { accessFlags := 0, nameIndex := 166, descriptorIndex := 120, attributes := #[] }, { accessFlags := 0, nameIndex := 66, descriptorIndex := 6, attributes := #[] }, { accessFlags := 2, nameIndex := 119, descriptorIndex := 120, attributes := #[] }, { accessFlags := 2, nameIndex := 126, descriptorIndex := 127, attributes := #[] }, { accessFlags := 2, nameIndex := 133, descriptorIndex := 127, attributes := #[] }, { accessFlags := 2, nameIndex := 91, descriptorIndex := 92, attributes := #[] }, { accessFlags := 2, nameIndex := 108, descriptorIndex := 109, attributes := #[] }, { accessFlags := 2, nameIndex := 115, descriptorIndex := 116, attributes := #[] }] 48 2 #[] #[{ accessFlags := 26, nameIndex := 145, descriptorIndex := 63, attributes := #[] }, { accessFlags := 18, nameIndex := 30, descriptorIndex := 12, attributes := #[] }, { accessFlags := 18, nameIndex := 34, descriptorIndex := 35, attributes := #[] }, { accessFlags := 18, nameIndex := 38, descriptorIndex := 12, attributes := #[] }, { accessFlags := 18, nameIndex := 41, descriptorIndex := 12, attributes := #[] }, { accessFlags := 18, nameIndex := 44, descriptorIndex := 12, attributes := #[] }, { accessFlags := 2, nameIndex := 11, descriptorIndex := 12, attributes := #[] }, { accessFlags := 2, nameIndex := 15, descriptorIndex := 12, attributes := #[] }, { accessFlags := 2, nameIndex := 18, descriptorIndex := 19, attributes := #[] }, { accessFlags := 2, nameIndex := 22, descriptorIndex := 12, attributes := #[] }, { accessFlags := 2, nameIndex := 62, descriptorIndex := 63, attributes := #[] }, { accessFlags := 18, nameIndex := 47, descriptorIndex := 12, attributes := #[] }, { accessFlags := 18, nameIndex := 50, descriptorIndex := 51, attributes := #[] }, { accessFlags := 2, nameIndex := 130, descriptorIndex := 63, attributes := #[] }, { accessFlags := 2, nameIndex := 69, descriptorIndex := 70, attributes := #[] }])
  fields := #[{ name := "BOUNDS", type := .int, accessFlags := 26, slot := 0, constantValue := 0 }, { name := "capacities", type := (.array .int), accessFlags := 18, slot := 0, constantValue := 0 }, { name := "bits", type := (.array (.array .long)), accessFlags := 18, slot := 1, constantValue := 0 }, { name := "sizes", type := (.array .int), accessFlags := 18, slot := 2, constantValue := 0 }, { name := "low", type := (.array .int), accessFlags := 18, slot := 3, constantValue := 0 }, { name := "high", type := (.array .int), accessFlags := 18, slot := 4, constantValue := 0 }, { name := "trailVariable", type := (.array .int), accessFlags := 2, slot := 5, constantValue := 0 }, { name := "trailWord", type := (.array .int), accessFlags := 2, slot := 6, constantValue := 0 }, { name := "trailSaved", type := (.array .long), accessFlags := 2, slot := 7, constantValue := 0 }, { name := "trailSize", type := (.array .int), accessFlags := 2, slot := 8, constantValue := 0 }, { name := "trailLength", type := .int, accessFlags := 2, slot := 9, constantValue := 0 }, { name := "changed", type := (.array .int), accessFlags := 18, slot := 10, constantValue := 0 }, { name := "isChanged", type := (.array .boolean), accessFlags := 18, slot := 11, constantValue := 0 }, { name := "changedCount", type := .int, accessFlags := 2, slot := 12, constantValue := 0 }, { name := "listener", type := (.object "com/example/whittle/whittle/engine/Domains$RemovalListener"), accessFlags := 2, slot := 13, constantValue := 0 }]
  methods := #[k2m0, k2m1, k2m2, k2m3, k2m4, k2m5, k2m6, k2m7, k2m8, k2m9, k2m10, k2m11, k2m12, k2m13, k2m14, k2m15, k2m16, k2m17, k2m18, k2m19]
  instanceTypes := #[(.array .int), (.array (.array .long)), (.array .int), (.array .int), (.array .int), (.array .int), (.array .int), (.array .long), (.array .int), .int, (.array .int), (.array .boolean), .int, (.object "com/example/whittle/whittle/engine/Domains$RemovalListener")]
  staticTypes := #[.int]
  resolved := Array.replicate 173 none
  statics := none }

def pool3 : Array CpInfo := pool [(1, .class_ 2), (0, u "java/lang/Cloneable"), (0, .class_ 4), (0, u "java/lang/Object")] 2

/-- java/lang/Cloneable -/
def k3 : Class := { plain "java/lang/Cloneable" (some 0) with
  accessFlags := 1537
  interfaces := #[]
  cf := some (fileOf pool3 1 #[] #[] 1537 3 #[] #[])
  fields := #[]
  methods := #[]
  instanceTypes := #[]
  staticTypes := #[]
  resolved := Array.replicate 7 none
  statics := none }

def pool4 : Array CpInfo := pool [(2, .class_ 4), (1, u "java/lang/Object"), (0, u "<init>"), (0, u "()V"), (7, .class_ 16), (1, u "java/util/Arrays"), (57, .class_ 76), (1, u "java/util/Arrays$NaturalOrder"), (36, .class_ 115), (1, u "java/util/Arrays$LegacyMergeSort"), (1, u "Z"), (257, .class_ 376), (0, u "java/util/Arrays$ArrayList"), (68, u "$assertionsDisabled"), (269, u "MIN_ARRAY_SORT_GRAN"), (0, u "I"), (2, u "INSERTIONSORT_THRESHOLD"), (120, u "fill"), (0, u "([JJ)V"), (133, .class_ 976), (0, u "java/util/Arrays$ArrayItr")] 52

def k4m0 : Method := { name := "<init>", desc := "()V", sig := { parameters := [], returnType := none }, accessFlags := 2, code := none }
def k4c1 : Code := { maxStack := 4, maxLocals := 5, code := jdk_65_method_101_code, exceptionTable := #[], attributes := #[] }
def k4m1 : Method := { name := "fill", desc := "([JJ)V", sig := { parameters := [(.array .long), .long], returnType := none }, accessFlags := 9, code := some k4c1 }
/-- java/util/Arrays -/
def k4 : Class := { plain "java/util/Arrays" (some 0) with
  accessFlags := 49
  interfaces := #[]
  cf := some (fileOf pool4 14 #[.nestMembers #[975, 375, 113, 74]] #[{ accessFlags := 2, nameIndex := 5, descriptorIndex := 6, attributes := #[] }, { accessFlags := 9, nameIndex := 840, descriptorIndex := 841, attributes := #[] }] 49 2 #[] #[{ accessFlags := 26, nameIndex := 715, descriptorIndex := 716, attributes := #[] }, { accessFlags := 26, nameIndex := 719, descriptorIndex := 716, attributes := #[] }, { accessFlags := 4120, nameIndex := 445, descriptorIndex := 117, attributes := #[] }])
  fields := #[{ name := "MIN_ARRAY_SORT_GRAN", type := .int, accessFlags := 26, slot := 0, constantValue := 0 }, { name := "INSERTIONSORT_THRESHOLD", type := .int, accessFlags := 26, slot := 1, constantValue := 0 }, { name := "$assertionsDisabled", type := .boolean, accessFlags := 4120, slot := 2, constantValue := 0 }]
  methods := #[k4m0, k4m1]
  instanceTypes := #[]
  staticTypes := #[.int, .int, .boolean]
  resolved := Array.replicate 1029 none
  statics := none }

def pool5 : Array CpInfo := pool [(1, .class_ 2), (0, u "java/lang/Math"), (1, .class_ 6), (1, u "java/lang/Object"), (0, u "<init>"), (0, u "()V"), (89, .class_ 100), (1, u "java/lang/Math$RandomNumberGeneratorHolder"), (71, u "negativeZeroFloatBits"), (0, u "J"), (2, u "negativeZeroDoubleBits"), (21, u "max"), (2, u "min"), (43, u "$assertionsDisabled"), (0, u "Z"), (88, u "(II)I"), (2, u "twoToTheDoubleScaleDown"), (0, u "D"), (4, u "twoToTheDoubleScaleUp"), (9, u "E"), (3, u "PI"), (2, u "TAU"), (2, u "DEGREES_TO_RADIANS"), (0, u "RADIANS_TO_DEGREES")] 94

def k5m0 : Method := { name := "<init>", desc := "()V", sig := { parameters := [], returnType := none }, accessFlags := 2, code := none }
def k5c1 : Code := { maxStack := 2, maxLocals := 2, code := jdk_29_method_65_code, exceptionTable := #[], attributes := #[] }
def k5m1 : Method := { name := "max", desc := "(II)I", sig := { parameters := [.int, .int], returnType := some .int }, accessFlags := 9, code := some k5c1 }
def k5c2 : Code := { maxStack := 2, maxLocals := 2, code := jdk_29_method_69_code, exceptionTable := #[], attributes := #[] }
def k5m2 : Method := { name := "min", desc := "(II)I", sig := { parameters := [.int, .int], returnType := some .int }, accessFlags := 9, code := some k5c2 }
/-- java/lang/Math -/
def k5 : Class := { plain "java/lang/Math" (some 0) with
  accessFlags := 49
  interfaces := #[]
  cf := some (fileOf pool5 1 #[.nestMembers #[98]] #[{ accessFlags := 2, nameIndex := 7, descriptorIndex := 8, attributes := #[] }, { accessFlags := 9, nameIndex := 198, descriptorIndex := 335, attributes := #[] }, { accessFlags := 9, nameIndex := 201, descriptorIndex := 335, attributes := #[] }] 49 4 #[] #[{ accessFlags := 25, nameIndex := 354, descriptorIndex := 339, attributes := #[] }, { accessFlags := 25, nameIndex := 358, descriptorIndex := 339, attributes := #[] }, { accessFlags := 25, nameIndex := 361, descriptorIndex := 339, attributes := #[] }, { accessFlags := 26, nameIndex := 364, descriptorIndex := 339, attributes := #[] }, { accessFlags := 26, nameIndex := 365, descriptorIndex := 339, attributes := #[] }, { accessFlags := 26, nameIndex := 172, descriptorIndex := 173, attributes := #[] }, { accessFlags := 26, nameIndex := 176, descriptorIndex := 173, attributes := #[] }, { accessFlags := 8, nameIndex := 344, descriptorIndex := 339, attributes := #[] }, { accessFlags := 8, nameIndex := 338, descriptorIndex := 339, attributes := #[] }, { accessFlags := 4120, nameIndex := 245, descriptorIndex := 246, attributes := #[] }])
  fields := #[{ name := "E", type := .double, accessFlags := 25, slot := 0, constantValue := 0 }, { name := "PI", type := .double, accessFlags := 25, slot := 1, constantValue := 0 }, { name := "TAU", type := .double, accessFlags := 25, slot := 2, constantValue := 0 }, { name := "DEGREES_TO_RADIANS", type := .double, accessFlags := 26, slot := 3, constantValue := 0 }, { name := "RADIANS_TO_DEGREES", type := .double, accessFlags := 26, slot := 4, constantValue := 0 }, { name := "negativeZeroFloatBits", type := .long, accessFlags := 26, slot := 5, constantValue := 0 }, { name := "negativeZeroDoubleBits", type := .long, accessFlags := 26, slot := 6, constantValue := 0 }, { name := "twoToTheDoubleScaleUp", type := .double, accessFlags := 8, slot := 7, constantValue := 0 }, { name := "twoToTheDoubleScaleDown", type := .double, accessFlags := 8, slot := 8, constantValue := 0 }, { name := "$assertionsDisabled", type := .boolean, accessFlags := 4120, slot := 9, constantValue := 0 }]
  methods := #[k5m0, k5m1, k5m2]
  instanceTypes := #[]
  staticTypes := #[.double, .double, .double, .double, .double, .long, .long, .double, .double, .boolean]
  resolved := Array.replicate 460 none
  statics := none }

def pool6 : Array CpInfo := pool [(1, .class_ 2), (0, u "java/io/Serializable"), (0, .class_ 4), (0, u "java/lang/Object")] 2

/-- java/io/Serializable -/
def k6 : Class := { plain "java/io/Serializable" (some 0) with
  accessFlags := 1537
  interfaces := #[]
  cf := some (fileOf pool6 1 #[] #[] 1537 3 #[] #[])
  fields := #[]
  methods := #[]
  instanceTypes := #[]
  staticTypes := #[]
  resolved := Array.replicate 7 none
  statics := none }

def pool7 : Array CpInfo := pool [(2, .class_ 4), (1, u "java/lang/Object"), (0, u "<init>"), (0, u "()V"), (1, .class_ 10), (1, u "java/lang/Number"), (2, .class_ 14), (0, u "java/io/Serializable"), (0, u "serialVersionUID"), (0, u "J")] 20

def k7m0 : Method := { name := "<init>", desc := "()V", sig := { parameters := [], returnType := none }, accessFlags := 1, code := none }
/-- java/lang/Number -/
def k7 : Class := { plain "java/lang/Number" (some 0) with
  accessFlags := 1057
  interfaces := #[6]
  cf := some (fileOf pool7 8 #[] #[{ accessFlags := 1, nameIndex := 5, descriptorIndex := 6, attributes := #[] }] 1057 2 #[13] #[{ accessFlags := 26, nameIndex := 15, descriptorIndex := 16, attributes := #[] }])
  fields := #[{ name := "serialVersionUID", type := .long, accessFlags := 26, slot := 0, constantValue := 0 }]
  methods := #[k7m0]
  instanceTypes := #[]
  staticTypes := #[.long]
  resolved := Array.replicate 37 none
  statics := none }

def pool8 : Array CpInfo := pool [(1, .class_ 2), (0, u "java/lang/Comparable"), (0, .class_ 4), (0, u "java/lang/Object")] 7

/-- java/lang/Comparable -/
def k8 : Class := { plain "java/lang/Comparable" (some 0) with
  accessFlags := 1537
  interfaces := #[]
  cf := some (fileOf pool8 1 #[] #[] 1537 3 #[] #[])
  fields := #[]
  methods := #[]
  instanceTypes := #[]
  staticTypes := #[]
  resolved := Array.replicate 12 none
  statics := none }

def pool9 : Array CpInfo := pool [(1, .class_ 2), (0, u "java/lang/constant/Constable"), (0, .class_ 4), (0, u "java/lang/Object")] 6

/-- java/lang/constant/Constable -/
def k9 : Class := { plain "java/lang/constant/Constable" (some 0) with
  accessFlags := 1537
  interfaces := #[]
  cf := some (fileOf pool9 1 #[] #[] 1537 3 #[] #[])
  fields := #[]
  methods := #[]
  instanceTypes := #[]
  staticTypes := #[]
  resolved := Array.replicate 11 none
  statics := none }

def pool10 : Array CpInfo := pool [(1, .class_ 2), (0, u "java/lang/constant/ConstantDesc"), (0, .class_ 4), (0, u "java/lang/Object")] 32

/-- java/lang/constant/ConstantDesc -/
def k10 : Class := { plain "java/lang/constant/ConstantDesc" (some 0) with
  accessFlags := 1537
  interfaces := #[]
  cf := some (fileOf pool10 1 #[] #[] 1537 3 #[] #[])
  fields := #[]
  methods := #[]
  instanceTypes := #[]
  staticTypes := #[]
  resolved := Array.replicate 37 none
  statics := none }

def pool11 : Array CpInfo := pool [(1, .class_ 2), (0, u "java/lang/Long"), (15, .class_ 20), (1, u "java/lang/Integer"), (79, u "numberOfLeadingZeros"), (0, u "(J)I"), (133, .class_ 237), (1, u "java/lang/Long$LongCache"), (33, .class_ 272), (0, u "java/lang/Number"), (2, u "value"), (0, u "J"), (31, .methodref 18 309), (0, .nameAndType 100 310), (0, u "(I)I"), (0, .methodref 18 312), (0, .nameAndType 313 310), (0, u "numberOfTrailingZeros"), (0, .long 6148914691236517205), (1, .long 3689348814741910323), (1, .long 1085102592571150095), (42, u "TYPE"), (0, u "Ljava/lang/Class;"), (0, .class_ 364), (0, u "java/lang/Comparable"), (0, .class_ 366), (0, u "java/lang/constant/Constable"), (0, .class_ 368), (0, u "java/lang/constant/ConstantDesc"), (0, u "MIN_VALUE"), (1, u "MAX_VALUE"), (4, u "SIZE"), (0, u "I"), (1, u "BYTES"), (1, u "serialVersionUID"), (94, u "bitCount")] 47

def k11c0 : Code := { maxStack := 3, maxLocals := 3, code := jdk_35_method_48_code, exceptionTable := #[], attributes := #[] }
def k11m0 : Method := { name := "numberOfLeadingZeros", desc := "(J)I", sig := { parameters := [.long], returnType := some .int }, accessFlags := 9, code := some k11c0 }
def k11c1 : Code := { maxStack := 4, maxLocals := 3, code := jdk_35_method_49_code, exceptionTable := #[], attributes := #[] }
def k11m1 : Method := { name := "numberOfTrailingZeros", desc := "(J)I", sig := { parameters := [.long], returnType := some .int }, accessFlags := 9, code := some k11c1 }
def k11c2 : Code := { maxStack := 6, maxLocals := 2, code := jdk_35_method_50_code, exceptionTable := #[], attributes := #[] }
def k11m2 : Method := { name := "bitCount", desc := "(J)I", sig := { parameters := [.long], returnType := some .int }, accessFlags := 9, code := some k11c2 }
/-- java/lang/Long -/
def k11 : Class := { plain "java/lang/Long" (some 7) with
  accessFlags := 49
  interfaces := #[8, 9, 10]
  cf := some (fileOf pool11 1 #[.nestMembers #[235]] #[{ accessFlags := 9, nameIndex := 100, descriptorIndex := 101, attributes := #[] }, { accessFlags := 9, nameIndex := 313, descriptorIndex := 101, attributes := #[] }, { accessFlags := 9, nameIndex := 476, descriptorIndex := 101, attributes := #[] }] 49 271 #[363, 365, 367] #[{ accessFlags := 25, nameIndex := 369, descriptorIndex := 276, attributes := #[] }, { accessFlags := 25, nameIndex := 371, descriptorIndex := 276, attributes := #[] }, { accessFlags := 25, nameIndex := 361, descriptorIndex := 362, attributes := #[] }, { accessFlags := 18, nameIndex := 275, descriptorIndex := 276, attributes := #[] }, { accessFlags := 25, nameIndex := 376, descriptorIndex := 377, attributes := #[] }, { accessFlags := 25, nameIndex := 379, descriptorIndex := 377, attributes := #[] }, { accessFlags := 26, nameIndex := 381, descriptorIndex := 276, attributes := #[] }])
  fields := #[{ name := "MIN_VALUE", type := .long, accessFlags := 25, slot := 0, constantValue := 0 }, { name := "MAX_VALUE", type := .long, accessFlags := 25, slot := 1, constantValue := 0 }, { name := "TYPE", type := (.object "java/lang/Class"), accessFlags := 25, slot := 2, constantValue := 0 }, { name := "value", type := .long, accessFlags := 18, slot := 0, constantValue := 0 }, { name := "SIZE", type := .int, accessFlags := 25, slot := 3, constantValue := 0 }, { name := "BYTES", type := .int, accessFlags := 25, slot := 4, constantValue := 0 }, { name := "serialVersionUID", type := .long, accessFlags := 26, slot := 5, constantValue := 0 }]
  methods := #[k11m0, k11m1, k11m2]
  instanceTypes := #[.long]
  staticTypes := #[.long, .long, (.object "java/lang/Class"), .int, .int, .long]
  resolved := Array.replicate 524 none
  statics := none }

def pool12 : Array CpInfo := pool [(1, .class_ 2), (0, u "java/lang/Integer"), (16, u "digits"), (0, u "[C"), (32, u "numberOfLeadingZeros"), (0, u "(I)I"), (30, u "DigitOnes"), (0, u "[B"), (2, u "DigitTens"), (99, .class_ 190), (0, u "java/lang/Integer$IntegerCache"), (3, u "I"), (8, .class_ 204), (0, u "java/lang/Number"), (2, u "value"), (56, .integer 65536), (37, u "TYPE"), (0, u "Ljava/lang/Class;"), (0, .class_ 305), (0, u "java/lang/Comparable"), (0, .class_ 307), (0, u "java/lang/constant/Constable"), (0, .class_ 309), (0, u "java/lang/constant/ConstantDesc"), (0, u "MIN_VALUE"), (1, u "MAX_VALUE"), (3, u "SIZE"), (1, u "BYTES"), (1, u "serialVersionUID"), (0, u "J"), (84, u "numberOfTrailingZeros")] 46

def k12c0 : Code := { maxStack := 3, maxLocals := 2, code := jdk_33_method_47_code, exceptionTable := #[], attributes := #[] }
def k12m0 : Method := { name := "numberOfLeadingZeros", desc := "(I)I", sig := { parameters := [.int], returnType := some .int }, accessFlags := 9, code := some k12c0 }
def k12c1 : Code := { maxStack := 3, maxLocals := 2, code := jdk_33_method_48_code, exceptionTable := #[], attributes := #[] }
def k12m1 : Method := { name := "numberOfTrailingZeros", desc := "(I)I", sig := { parameters := [.int], returnType := some .int }, accessFlags := 9, code := some k12c1 }
/-- java/lang/Integer -/
def k12 : Class := { plain "java/lang/Integer" (some 7) with
  accessFlags := 49
  interfaces := #[8, 9, 10]
  cf := some (fileOf pool12 1 #[.nestMembers #[189]] #[{ accessFlags := 9, nameIndex := 53, descriptorIndex := 54, attributes := #[] }, { accessFlags := 9, nameIndex := 406, descriptorIndex := 54, attributes := #[] }] 49 203 #[304, 306, 308] #[{ accessFlags := 25, nameIndex := 310, descriptorIndex := 194, attributes := #[] }, { accessFlags := 25, nameIndex := 312, descriptorIndex := 194, attributes := #[] }, { accessFlags := 25, nameIndex := 302, descriptorIndex := 303, attributes := #[] }, { accessFlags := 24, nameIndex := 19, descriptorIndex := 20, attributes := #[] }, { accessFlags := 24, nameIndex := 89, descriptorIndex := 86, attributes := #[] }, { accessFlags := 24, nameIndex := 85, descriptorIndex := 86, attributes := #[] }, { accessFlags := 18, nameIndex := 207, descriptorIndex := 194, attributes := #[] }, { accessFlags := 25, nameIndex := 316, descriptorIndex := 194, attributes := #[] }, { accessFlags := 25, nameIndex := 318, descriptorIndex := 194, attributes := #[] }, { accessFlags := 26, nameIndex := 320, descriptorIndex := 321, attributes := #[] }])
  fields := #[{ name := "MIN_VALUE", type := .int, accessFlags := 25, slot := 0, constantValue := 0 }, { name := "MAX_VALUE", type := .int, accessFlags := 25, slot := 1, constantValue := 0 }, { name := "TYPE", type := (.object "java/lang/Class"), accessFlags := 25, slot := 2, constantValue := 0 }, { name := "digits", type := (.array .char), accessFlags := 24, slot := 3, constantValue := 0 }, { name := "DigitTens", type := (.array .byte), accessFlags := 24, slot := 4, constantValue := 0 }, { name := "DigitOnes", type := (.array .byte), accessFlags := 24, slot := 5, constantValue := 0 }, { name := "value", type := .int, accessFlags := 18, slot := 0, constantValue := 0 }, { name := "SIZE", type := .int, accessFlags := 25, slot := 6, constantValue := 0 }, { name := "BYTES", type := .int, accessFlags := 25, slot := 7, constantValue := 0 }, { name := "serialVersionUID", type := .long, accessFlags := 26, slot := 8, constantValue := 0 }]
  methods := #[k12m0, k12m1]
  instanceTypes := #[.int]
  staticTypes := #[.int, .int, (.object "java/lang/Class"), (.array .char), (.array .byte), (.array .byte), .int, .int, .long]
  resolved := Array.replicate 453 none
  statics := none }

/-- the primitive boolean -/
def k13 : Class := { plain "boolean" none with kind := .primitive 'Z', accessFlags := 0x411 }
/-- [Z -/
def k14 : Class := { plain "[Z" (some 0) with kind := .array 13 .boolean, interfaces := #[3, 6], accessFlags := 1041 }

/-- the primitive byte -/
def k15 : Class := { plain "byte" none with kind := .primitive 'B', accessFlags := 0x411 }
/-- [B -/
def k16 : Class := { plain "[B" (some 0) with kind := .array 15 .byte, interfaces := #[3, 6], accessFlags := 1041 }

/-- the primitive int -/
def k17 : Class := { plain "int" none with kind := .primitive 'I', accessFlags := 0x411 }
/-- [I -/
def k18 : Class := { plain "[I" (some 0) with kind := .array 17 .int, interfaces := #[3, 6], accessFlags := 1041 }

/-- the primitive long -/
def k19 : Class := { plain "long" none with kind := .primitive 'J', accessFlags := 0x411 }
/-- [J -/
def k20 : Class := { plain "[J" (some 0) with kind := .array 19 .long, interfaces := #[3, 6], accessFlags := 1041 }

/-- an array of long arrays -/
def k21 : Class := { plain "[[J" (some 0) with kind := .array 20 (.array .long), interfaces := #[3, 6], accessFlags := 1041 }

def heap : Heap := #[{ cls := 21, slots := #[.null], vm := .none }]
def classes : Array Class := #[k0, k1, k2, k3, k4, k5, k6, k7, k8, k9, k10, k11, k12, k13, k14, k15, k16, k17, k18, k19, k20, k21]
def interned : List (Array UInt16 × Addr) := []
def slotsUsed : Nat := 1
def theMethod : MethodId := ⟨1, 1⟩
def args0 : Array Value := #[.int 1, .int 2, .int 3, .int 4, .int 5, .int 6]
def aboutOver (below : List Frame) : State where
  vm := { classes := classes, interned := interned.toArray }
  heap := heap
  slotsUsed := slotsUsed
  threads := #[{ frames := .invoking theMethod args0 :: below }]
def below0 : List Frame := [.native { method := ⟨0, 0⟩, args := #[] }]
def about1 : State := aboutOver below0
def p0 : Program := .bare "" "" ""
def e0 : Env := launch0.env 0 0 0
theorem w_frames : about1.frames = Frame.invoking theMethod args0 :: below0 := rfl
set_option maxRecDepth 65536 in
theorem w_args : argsFit about1.vm theMethod args0 = true := by decide +kernel
set_option maxRecDepth 65536 in
theorem w_heap : heapFits about1 = true := by decide +kernel
set_option maxRecDepth 65536 in
theorem w_runnable : about1.curStatus? = some .runnable := by decide +kernel
set_option maxRecDepth 65536 in
theorem w_alone : about1.alone = true := by decide +kernel
set_option maxRecDepth 65536 in
theorem w_named : about1.methodNamed? x = some theMethod := by decide +kernel
set_option maxRecDepth 65536 in
theorem w_hears : about1.hears theMethod below0 = true := by decide +kernel
set_option maxRecDepth 65536 in
theorem w_ripe : about1.ripe theMethod args0 below0 = true := by decide +kernel
theorem w_running : about1.status = .running := rfl
set_option maxRecDepth 65536 in
theorem w_room : about1.hasRoom e0.platform room_1 = true :=
  launch0.hasRoom_least _ room_1 (by decide +kernel) (by decide +kernel) (by decide +kernel) (by decide +kernel) (by decide +kernel) (by decide +kernel)
theorem allAtoms_all (ts : List Jvm.Cond) (a : Array Jvm.Value) (st : Jvm.State) : (allAtoms ts).before a st = ts.all (fun c => c.before a st) := by
  induction ts with
  | nil => rfl
  | cons c t ih =>
    show (Jvm.Cond.and c (allAtoms t)).before a st = _
    rw [Jvm.Cond.before_and, ih, List.all_cons]
def words1 : List Jvm.Cond := Jvm.Cond.code x code maxLocals ret :: tables_1
/-- a 'code' word, met by the world's own term for the bytes: nothing is compared byte by byte -/
theorem code_word {y : MethodName} {bytes : ByteArray} {mx : Nat} {rt : Option FieldType} {a : Array Value} {s : State} {m : MethodId} {meth : Method} {c : Code} (h1 : s.methodNamed? y = some m) (h2 : s.vm.method? m = some meth) (h3 : meth.code = some c) (h4 : c.code = bytes)
    (h5 : (c.maxLocals == mx && c.exceptionTable.isEmpty && decide (c.maxStack ≤ mostOperands) && decide (meth.sig.returnType = rt) && !meth.locks && decide (parseMethodDescriptor y.desc = some meth.sig)) = true) : (Jvm.Cond.code y bytes mx rt).before a s = true := by
  simp only [Bool.and_eq_true, beq_iff_eq, Bool.not_eq_true', decide_eq_true_eq] at h5
  obtain ⟨⟨⟨⟨⟨g1, g2⟩, g3⟩, g4⟩, g5⟩, g6⟩ := h5
  simp [Cond.before, Cond.holds, Cond.value, h1, h2, h3, h4, g1, g2, g3, g4, g5, g6]
def isCode : Jvm.Cond → Bool
  | .code _ _ _ _ => true
  | _ => false
theorem all_split {L : List Jvm.Cond} {P : Jvm.Cond → Bool} (h1 : L.all (fun c => isCode c || P c) = true) (h2 : ∀ c ∈ L.filter isCode, P c = true) : L.all P = true := by
  refine List.all_eq_true.mpr fun c hc => ?_
  have h := List.all_eq_true.mp h1 c hc
  rcases Bool.eq_false_or_eq_true (isCode c) with hi | hi
  · exact h2 c (List.mem_filter.mpr ⟨hc, hi⟩)
  · simpa [hi] using h
set_option maxRecDepth 65536 in
theorem w_c0 : (Jvm.Cond.code x code maxLocals ret).before args0 about1 = true := code_word (m := ⟨1, 1⟩) (meth := k1m1) (c := k1c1) (by decide +kernel) rfl rfl rfl (by decide +kernel)
set_option maxRecDepth 65536 in
theorem w_c1 : (Jvm.Cond.code ({ cls := "com/example/whittle/whittle/engine/Domains", name := "<init>", desc := "([I)V" } : Jvm.MethodName) prog_22_method_1_code (3 : Nat) (Option.none : Option Jvm.ClassFile.FieldType)).before args0 about1 = true := code_word (m := ⟨2, 0⟩) (meth := k2m0) (c := k2c0) (by decide +kernel) rfl rfl rfl (by decide +kernel)
set_option maxRecDepth 65536 in
theorem w_c2 : (Jvm.Cond.code ({ cls := "java/lang/Object", name := "<init>", desc := "()V" } : Jvm.MethodName) object_method_1_code (1 : Nat) (Option.none : Option Jvm.ClassFile.FieldType)).before args0 about1 = true := code_word (m := ⟨0, 0⟩) (meth := k0m0) (c := k0c0) (by decide +kernel) rfl rfl rfl (by decide +kernel)
set_option maxRecDepth 65536 in
theorem w_c3 : (Jvm.Cond.code ({ cls := "com/example/whittle/whittle/engine/Domains", name := "reset", desc := "()V" } : Jvm.MethodName) prog_22_method_2_code (2 : Nat) (Option.none : Option Jvm.ClassFile.FieldType)).before args0 about1 = true := code_word (m := ⟨2, 1⟩) (meth := k2m1) (c := k2c1) (by decide +kernel) rfl rfl rfl (by decide +kernel)
set_option maxRecDepth 65536 in
theorem w_c4 : (Jvm.Cond.code ({ cls := "java/util/Arrays", name := "fill", desc := "([JJ)V" } : Jvm.MethodName) jdk_65_method_101_code (5 : Nat) (Option.none : Option Jvm.ClassFile.FieldType)).before args0 about1 = true := code_word (m := ⟨4, 1⟩) (meth := k4m1) (c := k4c1) (by decide +kernel) rfl rfl rfl (by decide +kernel)
set_option maxRecDepth 65536 in
theorem w_c5 : (Jvm.Cond.code ({ cls := "com/example/whittle/whittle/engine/Domains", name := "clearChanged", desc := "()V" } : Jvm.MethodName) prog_22_method_18_code (2 : Nat) (Option.none : Option Jvm.ClassFile.FieldType)).before args0 about1 = true := code_word (m := ⟨2, 13⟩) (meth := k2m13) (c := k2c13) (by decide +kernel) rfl rfl rfl (by decide +kernel)
set_option maxRecDepth 65536 in
theorem w_c6 : (Jvm.Cond.code ({ cls := "com/example/whittle/whittle/engine/Domains", name := "remove", desc := "(II)Z" } : Jvm.MethodName) prog_22_method_11_code (5 : Nat) (Option.some Jvm.ClassFile.FieldType.boolean)).before args0 about1 = true := code_word (m := ⟨2, 8⟩) (meth := k2m8) (c := k2c8) (by decide +kernel) rfl rfl rfl (by decide +kernel)
set_option maxRecDepth 65536 in
theorem w_c7 : (Jvm.Cond.code ({ cls := "com/example/whittle/whittle/engine/Domains", name := "contains", desc := "(II)Z" } : Jvm.MethodName) prog_22_method_5_code (3 : Nat) (Option.some Jvm.ClassFile.FieldType.boolean)).before args0 about1 = true := code_word (m := ⟨2, 3⟩) (meth := k2m3) (c := k2c3) (by decide +kernel) rfl rfl rfl (by decide +kernel)
set_option maxRecDepth 65536 in
theorem w_c8 : (Jvm.Cond.code ({ cls := "com/example/whittle/whittle/engine/Domains", name := "mark", desc := "()I" } : Jvm.MethodName) prog_22_method_14_code (1 : Nat) (Option.some Jvm.ClassFile.FieldType.int)).before args0 about1 = true := code_word (m := ⟨2, 11⟩) (meth := k2m11) (c := k2c11) (by decide +kernel) rfl rfl rfl (by decide +kernel)
set_option maxRecDepth 65536 in
theorem w_c9 : (Jvm.Cond.code ({ cls := "com/example/whittle/whittle/engine/Domains", name := "next", desc := "(II)I" } : Jvm.MethodName) prog_22_method_6_code (7 : Nat) (Option.some Jvm.ClassFile.FieldType.int)).before args0 about1 = true := code_word (m := ⟨2, 4⟩) (meth := k2m4) (c := k2c4) (by decide +kernel) rfl rfl rfl (by decide +kernel)
set_option maxRecDepth 65536 in
theorem w_c10 : (Jvm.Cond.code ({ cls := "java/lang/Math", name := "max", desc := "(II)I" } : Jvm.MethodName) jdk_29_method_65_code (2 : Nat) (Option.some Jvm.ClassFile.FieldType.int)).before args0 about1 = true := code_word (m := ⟨5, 1⟩) (meth := k5m1) (c := k5c1) (by decide +kernel) rfl rfl rfl (by decide +kernel)
set_option maxRecDepth 65536 in
theorem w_c11 : (Jvm.Cond.code ({ cls := "com/example/whittle/whittle/engine/Domains", name := "bound", desc := "(IIII)V" } : Jvm.MethodName) prog_22_method_23_code (5 : Nat) (Option.none : Option Jvm.ClassFile.FieldType)).before args0 about1 = true := code_word (m := ⟨2, 18⟩) (meth := k2m18) (c := k2c18) (by decide +kernel) rfl rfl rfl (by decide +kernel)
set_option maxRecDepth 65536 in
theorem w_c12 : (Jvm.Cond.code ({ cls := "com/example/whittle/whittle/engine/Domains", name := "save", desc := "(IIJ)V" } : Jvm.MethodName) prog_22_method_24_code (6 : Nat) (Option.none : Option Jvm.ClassFile.FieldType)).before args0 about1 = true := code_word (m := ⟨2, 19⟩) (meth := k2m19) (c := k2c19) (by decide +kernel) rfl rfl rfl (by decide +kernel)
set_option maxRecDepth 65536 in
theorem w_c13 : (Jvm.Cond.code ({ cls := "com/example/whittle/whittle/engine/Domains", name := "noteChanged", desc := "(I)V" } : Jvm.MethodName) prog_22_method_19_code (2 : Nat) (Option.none : Option Jvm.ClassFile.FieldType)).before args0 about1 = true := code_word (m := ⟨2, 14⟩) (meth := k2m14) (c := k2c14) (by decide +kernel) rfl rfl rfl (by decide +kernel)
set_option maxRecDepth 65536 in
theorem w_c14 : (Jvm.Cond.code ({ cls := "com/example/whittle/whittle/engine/Domains", name := "undo", desc := "(I)V" } : Jvm.MethodName) prog_22_method_15_code (5 : Nat) (Option.none : Option Jvm.ClassFile.FieldType)).before args0 about1 = true := code_word (m := ⟨2, 12⟩) (meth := k2m12) (c := k2c12) (by decide +kernel) rfl rfl rfl (by decide +kernel)
set_option maxRecDepth 65536 in
theorem w_c15 : (Jvm.Cond.code ({ cls := "com/example/whittle/whittle/engine/Domains", name := "size", desc := "(I)I" } : Jvm.MethodName) prog_22_method_4_code (2 : Nat) (Option.some Jvm.ClassFile.FieldType.int)).before args0 about1 = true := code_word (m := ⟨2, 2⟩) (meth := k2m2) (c := k2c2) (by decide +kernel) rfl rfl rfl (by decide +kernel)
set_option maxRecDepth 65536 in
theorem w_c16 : (Jvm.Cond.code ({ cls := "com/example/whittle/whittle/engine/Domains", name := "first", desc := "(I)I" } : Jvm.MethodName) prog_22_method_7_code (2 : Nat) (Option.some Jvm.ClassFile.FieldType.int)).before args0 about1 = true := code_word (m := ⟨2, 5⟩) (meth := k2m5) (c := k2c5) (by decide +kernel) rfl rfl rfl (by decide +kernel)
set_option maxRecDepth 65536 in
theorem w_c17 : (Jvm.Cond.code ({ cls := "com/example/whittle/whittle/engine/Domains", name := "last", desc := "(I)I" } : Jvm.MethodName) prog_22_method_9_code (2 : Nat) (Option.some Jvm.ClassFile.FieldType.int)).before args0 about1 = true := code_word (m := ⟨2, 7⟩) (meth := k2m7) (c := k2c7) (by decide +kernel) rfl rfl rfl (by decide +kernel)
set_option maxRecDepth 65536 in
theorem w_c18 : (Jvm.Cond.code ({ cls := "com/example/whittle/whittle/engine/Domains", name := "previous", desc := "(II)I" } : Jvm.MethodName) prog_22_method_8_code (7 : Nat) (Option.some Jvm.ClassFile.FieldType.int)).before args0 about1 = true := code_word (m := ⟨2, 6⟩) (meth := k2m6) (c := k2c6) (by decide +kernel) rfl rfl rfl (by decide +kernel)
set_option maxRecDepth 65536 in
theorem w_c19 : (Jvm.Cond.code ({ cls := "java/lang/Math", name := "min", desc := "(II)I" } : Jvm.MethodName) jdk_29_method_69_code (2 : Nat) (Option.some Jvm.ClassFile.FieldType.int)).before args0 about1 = true := code_word (m := ⟨5, 2⟩) (meth := k5m2) (c := k5c2) (by decide +kernel) rfl rfl rfl (by decide +kernel)
set_option maxRecDepth 65536 in
theorem w_c20 : (Jvm.Cond.code ({ cls := "java/lang/Long", name := "numberOfLeadingZeros", desc := "(J)I" } : Jvm.MethodName) jdk_35_method_48_code (3 : Nat) (Option.some Jvm.ClassFile.FieldType.int)).before args0 about1 = true := code_word (m := ⟨11, 0⟩) (meth := k11m0) (c := k11c0) (by decide +kernel) rfl rfl rfl (by decide +kernel)
set_option maxRecDepth 65536 in
theorem w_c21 : (Jvm.Cond.code ({ cls := "java/lang/Integer", name := "numberOfLeadingZeros", desc := "(I)I" } : Jvm.MethodName) jdk_33_method_47_code (2 : Nat) (Option.some Jvm.ClassFile.FieldType.int)).before args0 about1 = true := code_word (m := ⟨12, 0⟩) (meth := k12m0) (c := k12c0) (by decide +kernel) rfl rfl rfl (by decide +kernel)
set_option maxRecDepth 65536 in
theorem w_c22 : (Jvm.Cond.code ({ cls := "com/example/whittle/whittle/engine/Domains", name := "keepWithin", desc := "(III)Z" } : Jvm.MethodName) prog_22_method_12_code (7 : Nat) (Option.some Jvm.ClassFile.FieldType.boolean)).before args0 about1 = true := code_word (m := ⟨2, 9⟩) (meth := k2m9) (c := k2c9) (by decide +kernel) rfl rfl rfl (by decide +kernel)
set_option maxRecDepth 65536 in
theorem w_c23 : (Jvm.Cond.code ({ cls := "java/lang/Long", name := "numberOfTrailingZeros", desc := "(J)I" } : Jvm.MethodName) jdk_35_method_49_code (3 : Nat) (Option.some Jvm.ClassFile.FieldType.int)).before args0 about1 = true := code_word (m := ⟨11, 1⟩) (meth := k11m1) (c := k11c1) (by decide +kernel) rfl rfl rfl (by decide +kernel)
set_option maxRecDepth 65536 in
theorem w_c24 : (Jvm.Cond.code ({ cls := "java/lang/Integer", name := "numberOfTrailingZeros", desc := "(I)I" } : Jvm.MethodName) jdk_33_method_48_code (2 : Nat) (Option.some Jvm.ClassFile.FieldType.int)).before args0 about1 = true := code_word (m := ⟨12, 1⟩) (meth := k12m1) (c := k12c1) (by decide +kernel) rfl rfl rfl (by decide +kernel)
set_option maxRecDepth 65536 in
theorem w_c25 : (Jvm.Cond.code ({ cls := "com/example/whittle/whittle/engine/Domains", name := "countWithin", desc := "(III)I" } : Jvm.MethodName) prog_22_method_20_code (7 : Nat) (Option.some Jvm.ClassFile.FieldType.int)).before args0 about1 = true := code_word (m := ⟨2, 15⟩) (meth := k2m15) (c := k2c15) (by decide +kernel) rfl rfl rfl (by decide +kernel)
set_option maxRecDepth 65536 in
theorem w_c26 : (Jvm.Cond.code ({ cls := "com/example/whittle/whittle/engine/Domains", name := "bitCount", desc := "(III)I" } : Jvm.MethodName) prog_22_method_21_code (6 : Nat) (Option.some Jvm.ClassFile.FieldType.int)).before args0 about1 = true := code_word (m := ⟨2, 16⟩) (meth := k2m16) (c := k2c16) (by decide +kernel) rfl rfl rfl (by decide +kernel)
set_option maxRecDepth 65536 in
theorem w_c27 : (Jvm.Cond.code ({ cls := "com/example/whittle/whittle/engine/Domains", name := "masked", desc := "(IIII)J" } : Jvm.MethodName) prog_22_method_22_code (7 : Nat) (Option.some Jvm.ClassFile.FieldType.long)).before args0 about1 = true := code_word (m := ⟨2, 17⟩) (meth := k2m17) (c := k2c17) (by decide +kernel) rfl rfl rfl (by decide +kernel)
set_option maxRecDepth 65536 in
theorem w_c28 : (Jvm.Cond.code ({ cls := "java/lang/Long", name := "bitCount", desc := "(J)I" } : Jvm.MethodName) jdk_35_method_50_code (2 : Nat) (Option.some Jvm.ClassFile.FieldType.int)).before args0 about1 = true := code_word (m := ⟨11, 2⟩) (meth := k11m2) (c := k11c2) (by decide +kernel) rfl rfl rfl (by decide +kernel)
set_option maxRecDepth 65536 in
theorem w_c29 : (Jvm.Cond.code ({ cls := "com/example/whittle/whittle/engine/Domains", name := "assign", desc := "(II)V" } : Jvm.MethodName) prog_22_method_13_code (3 : Nat) (Option.none : Option Jvm.ClassFile.FieldType)).before args0 about1 = true := code_word (m := ⟨2, 10⟩) (meth := k2m10) (c := k2c10) (by decide +kernel) rfl rfl rfl (by decide +kernel)
def codes1 : List Jvm.Cond := [Jvm.Cond.code x code maxLocals ret, Jvm.Cond.code ({ cls := "com/example/whittle/whittle/engine/Domains", name := "<init>", desc := "([I)V" } : Jvm.MethodName) prog_22_method_1_code (3 : Nat) (Option.none : Option Jvm.ClassFile.FieldType), Jvm.Cond.code ({ cls := "java/lang/Object", name := "<init>", desc := "()V" } : Jvm.MethodName) object_method_1_code (1 : Nat) (Option.none : Option Jvm.ClassFile.FieldType), Jvm.Cond.code ({ cls := "com/example/whittle/whittle/engine/Domains", name := "reset", desc := "()V" } : Jvm.MethodName) prog_22_method_2_code (2 : Nat) (Option.none : Option Jvm.ClassFile.FieldType), Jvm.Cond.code ({ cls := "java/util/Arrays", name := "fill", desc := "([JJ)V" } : Jvm.MethodName) jdk_65_method_101_code (5 : Nat) (Option.none : Option Jvm.ClassFile.FieldType), Jvm.Cond.code ({ cls := "com/example/whittle/whittle/engine/Domains", name := "clearChanged", desc := "()V" } : Jvm.MethodName) prog_22_method_18_code (2 : Nat) (Option.none : Option Jvm.ClassFile.FieldType), Jvm.Cond.code ({ cls := "com/example/whittle/whittle/engine/Domains", name := "remove", desc := "(II)Z" } : Jvm.MethodName) prog_22_method_11_code (5 : Nat) (Option.some Jvm.ClassFile.FieldType.boolean), Jvm.Cond.code ({ cls := "com/example/whittle/whittle/engine/Domains", name := "contains", desc := "(II)Z" } : Jvm.MethodName) prog_22_method_5_code (3 : Nat) (Option.some Jvm.ClassFile.FieldType.boolean), Jvm.Cond.code ({ cls := "com/example/whittle/whittle/engine/Domains", name := "mark", desc := "()I" } : Jvm.MethodName) prog_22_method_14_code (1 : Nat) (Option.some Jvm.ClassFile.FieldType.int), Jvm.Cond.code ({ cls := "com/example/whittle/whittle/engine/Domains", name := "next", desc := "(II)I" } : Jvm.MethodName) prog_22_method_6_code (7 : Nat) (Option.some Jvm.ClassFile.FieldType.int), Jvm.Cond.code ({ cls := "java/lang/Math", name := "max", desc := "(II)I" } : Jvm.MethodName) jdk_29_method_65_code (2 : Nat) (Option.some Jvm.ClassFile.FieldType.int), Jvm.Cond.code ({ cls := "com/example/whittle/whittle/engine/Domains", name := "bound", desc := "(IIII)V" } : Jvm.MethodName) prog_22_method_23_code (5 : Nat) (Option.none : Option Jvm.ClassFile.FieldType), Jvm.Cond.code ({ cls := "com/example/whittle/whittle/engine/Domains", name := "save", desc := "(IIJ)V" } : Jvm.MethodName) prog_22_method_24_code (6 : Nat) (Option.none : Option Jvm.ClassFile.FieldType), Jvm.Cond.code ({ cls := "com/example/whittle/whittle/engine/Domains", name := "noteChanged", desc := "(I)V" } : Jvm.MethodName) prog_22_method_19_code (2 : Nat) (Option.none : Option Jvm.ClassFile.FieldType), Jvm.Cond.code ({ cls := "com/example/whittle/whittle/engine/Domains", name := "undo", desc := "(I)V" } : Jvm.MethodName) prog_22_method_15_code (5 : Nat) (Option.none : Option Jvm.ClassFile.FieldType), Jvm.Cond.code ({ cls := "com/example/whittle/whittle/engine/Domains", name := "size", desc := "(I)I" } : Jvm.MethodName) prog_22_method_4_code (2 : Nat) (Option.some Jvm.ClassFile.FieldType.int), Jvm.Cond.code ({ cls := "com/example/whittle/whittle/engine/Domains", name := "first", desc := "(I)I" } : Jvm.MethodName) prog_22_method_7_code (2 : Nat) (Option.some Jvm.ClassFile.FieldType.int), Jvm.Cond.code ({ cls := "com/example/whittle/whittle/engine/Domains", name := "last", desc := "(I)I" } : Jvm.MethodName) prog_22_method_9_code (2 : Nat) (Option.some Jvm.ClassFile.FieldType.int), Jvm.Cond.code ({ cls := "com/example/whittle/whittle/engine/Domains", name := "previous", desc := "(II)I" } : Jvm.MethodName) prog_22_method_8_code (7 : Nat) (Option.some Jvm.ClassFile.FieldType.int), Jvm.Cond.code ({ cls := "java/lang/Math", name := "min", desc := "(II)I" } : Jvm.MethodName) jdk_29_method_69_code (2 : Nat) (Option.some Jvm.ClassFile.FieldType.int), Jvm.Cond.code ({ cls := "java/lang/Long", name := "numberOfLeadingZeros", desc := "(J)I" } : Jvm.MethodName) jdk_35_method_48_code (3 : Nat) (Option.some Jvm.ClassFile.FieldType.int), Jvm.Cond.code ({ cls := "java/lang/Integer", name := "numberOfLeadingZeros", desc := "(I)I" } : Jvm.MethodName) jdk_33_method_47_code (2 : Nat) (Option.some Jvm.ClassFile.FieldType.int), Jvm.Cond.code ({ cls := "com/example/whittle/whittle/engine/Domains", name := "keepWithin", desc := "(III)Z" } : Jvm.MethodName) prog_22_method_12_code (7 : Nat) (Option.some Jvm.ClassFile.FieldType.boolean), Jvm.Cond.code ({ cls := "java/lang/Long", name := "numberOfTrailingZeros", desc := "(J)I" } : Jvm.MethodName) jdk_35_method_49_code (3 : Nat) (Option.some Jvm.ClassFile.FieldType.int), Jvm.Cond.code ({ cls := "java/lang/Integer", name := "numberOfTrailingZeros", desc := "(I)I" } : Jvm.MethodName) jdk_33_method_48_code (2 : Nat) (Option.some Jvm.ClassFile.FieldType.int), Jvm.Cond.code ({ cls := "com/example/whittle/whittle/engine/Domains", name := "countWithin", desc := "(III)I" } : Jvm.MethodName) prog_22_method_20_code (7 : Nat) (Option.some Jvm.ClassFile.FieldType.int), Jvm.Cond.code ({ cls := "com/example/whittle/whittle/engine/Domains", name := "bitCount", desc := "(III)I" } : Jvm.MethodName) prog_22_method_21_code (6 : Nat) (Option.some Jvm.ClassFile.FieldType.int), Jvm.Cond.code ({ cls := "com/example/whittle/whittle/engine/Domains", name := "masked", desc := "(IIII)J" } : Jvm.MethodName) prog_22_method_22_code (7 : Nat) (Option.some Jvm.ClassFile.FieldType.long), Jvm.Cond.code ({ cls := "java/lang/Long", name := "bitCount", desc := "(J)I" } : Jvm.MethodName) jdk_35_method_50_code (2 : Nat) (Option.some Jvm.ClassFile.FieldType.int), Jvm.Cond.code ({ cls := "com/example/whittle/whittle/engine/Domains", name := "assign", desc := "(II)V" } : Jvm.MethodName) prog_22_method_13_code (3 : Nat) (Option.none : Option Jvm.ClassFile.FieldType)]
set_option maxRecDepth 65536 in
theorem codes_eq : words1.filter isCode = codes1 := rfl
theorem w_codes : ∀ c ∈ words1.filter isCode, c.before args0 about1 = true := by
  rw [codes_eq]
  intro c hc
  simp only [codes1, List.mem_cons, List.not_mem_nil, or_false] at hc
  rcases hc with rfl | rfl | rfl | rfl | rfl | rfl | rfl | rfl | rfl | rfl | rfl | rfl | rfl | rfl | rfl | rfl | rfl | rfl | rfl | rfl | rfl | rfl | rfl | rfl | rfl | rfl | rfl | rfl | rfl | rfl
  · exact w_c0
  · exact w_c1
  · exact w_c2
  · exact w_c3
  · exact w_c4
  · exact w_c5
  · exact w_c6
  · exact w_c7
  · exact w_c8
  · exact w_c9
  · exact w_c10
  · exact w_c11
  · exact w_c12
  · exact w_c13
  · exact w_c14
  · exact w_c15
  · exact w_c16
  · exact w_c17
  · exact w_c18
  · exact w_c19
  · exact w_c20
  · exact w_c21
  · exact w_c22
  · exact w_c23
  · exact w_c24
  · exact w_c25
  · exact w_c26
  · exact w_c27
  · exact w_c28
  · exact w_c29
set_option maxRecDepth 65536 in
theorem w_t1 : (words1.take 24).all (fun c => isCode c || c.before args0 about1) = true := by decide +kernel
set_option maxRecDepth 65536 in
theorem w_t2 : ((words1.drop 24).take 24).all (fun c => isCode c || c.before args0 about1) = true := by decide +kernel
set_option maxRecDepth 65536 in
theorem w_t3 : (((words1.drop 24).drop 24).take 24).all (fun c => isCode c || c.before args0 about1) = true := by decide +kernel
set_option maxRecDepth 65536 in
theorem w_t4 : ((((words1.drop 24).drop 24).drop 24).take 24).all (fun c => isCode c || c.before args0 about1) = true := by decide +kernel
set_option maxRecDepth 65536 in
theorem w_t5 : (((((words1.drop 24).drop 24).drop 24).drop 24).take 24).all (fun c => isCode c || c.before args0 about1) = true := by decide +kernel
set_option maxRecDepth 65536 in
theorem w_t6 : ((((((words1.drop 24).drop 24).drop 24).drop 24).drop 24).take 24).all (fun c => isCode c || c.before args0 about1) = true := by decide +kernel
set_option maxRecDepth 65536 in
theorem w_t7 : (((((((words1.drop 24).drop 24).drop 24).drop 24).drop 24).drop 24).take 24).all (fun c => isCode c || c.before args0 about1) = true := by decide +kernel
set_option maxRecDepth 65536 in
theorem w_t8 : (((((((words1.drop 24).drop 24).drop 24).drop 24).drop 24).drop 24).drop 24).all (fun c => isCode c || c.before args0 about1) = true := by decide +kernel
theorem w_tables : (allAtoms (Jvm.Cond.code x code maxLocals ret :: tables_1)).before args0 about1 = true := by
  rw [allAtoms_all]
  show words1.all (fun c => c.before args0 about1) = true
  refine all_split ?_ w_codes
  rw [← List.take_append_drop 24 words1, List.all_append, w_t1, ← List.take_append_drop 24 (words1.drop 24), List.all_append, w_t2, ← List.take_append_drop 24 ((words1.drop 24).drop 24), List.all_append, w_t3, ← List.take_append_drop 24 (((words1.drop 24).drop 24).drop 24), List.all_append, w_t4, ← List.take_append_drop 24 ((((words1.drop 24).drop 24).drop 24).drop 24), List.all_append, w_t5, ← List.take_append_drop 24 (((((words1.drop 24).drop 24).drop 24).drop 24).drop 24), List.all_append, w_t6, ← List.take_append_drop 24 ((((((words1.drop 24).drop 24).drop 24).drop 24).drop 24).drop 24), List.all_append, w_t7, w_t8]
  rfl
set_option maxRecDepth 65536 in
theorem w_case : (Jvm.Cond.and given_1 narrow_1).before args0 about1 = true := by decide +kernel
theorem w_applies : (headSpec (Jvm.Cond.code x code maxLocals ret :: tables_1) room_1).applies x e0.platform about1 = true :=
  (Spec.applies_iff w_frames).mpr ⟨w_running, w_runnable, w_alone, w_named, w_hears, w_ripe, w_room, w_tables⟩
theorem atStart : AtStart classFile x code maxLocals ret World_1 tables_1 room_1 Calls_1 rest_1 Pre_1 launch0 p0 e0 about1 theMethod args0 below0 :=
  ⟨lists_1, trivial, launch0.admits_env _ _ _, launch0.least_env, fairChoices_fair.cas, fairChoices_fair.clock, w_frames, w_args, w_heap, w_applies, trivial, trivial, w_case⟩
end start1
theorem witness_1 : WitnessClaimed_1 := ⟨start1.p0, start1.e0, start1.about1, start1.theMethod, start1.args0, start1.below0, start1.atStart⟩
end Jvm.Pilot.@@N@@
