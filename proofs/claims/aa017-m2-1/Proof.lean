import JvmDerived
import JvmDerived.Pilot.@@N@@Statement
import JvmDerived.Pilot.@@N@@Code
set_option linter.unusedVariables false
set_option linter.unusedSimpArgs false
set_option maxRecDepth 65536
set_option maxHeartbeats 40000000
namespace Jvm.Pilot.@@N@@
open Jvm Jvm.ClassFile Sem Op Lib Jvm.Free Jvm.Stand Jvm.LawKit Jvm.RoadKit Bundle Jvm.Pilot.@@N@@.Jvm.D
/-- from T the run comes to an end of which P speaks -/
def Go (p : Program) (e : Env) (below : List Frame) (P : Outcome → State → Prop) (T : State) : Prop := ∃ s₂ o, Steps p.tables e below T s₂ ∧ s₂.status = .running ∧ Ended s₂ below o ∧ P o s₂
theorem Go.via {p : Program} {e : Env} {below : List Frame} {P : Outcome → State → Prop} {T T' : State} (h : ∀ t, Steps p.tables e below T' t → Steps p.tables e below T t) (g : Go p e below P T') : Go p e below P T := by
  obtain ⟨s₂, o, a, b⟩ := g
  exact ⟨s₂, o, h _ a, b⟩
theorem Go.into {p : Program} {e : Env} {below : List Frame} {P : Outcome → State → Prop} {T : State} {g g' : JFrame} (q : g = g') (h : Go p e below P (T.setTop g')) : ∃ s₂ o, Steps p.tables e below (T.setTop g) s₂ ∧ s₂.status = .running ∧ Ended s₂ below o ∧ P o s₂ := by
  subst q; exact h
abbrev HW (a0 : Array Value) (Z : State) : Prop := ∀ d ∈ tables_1, d.before a0 Z = true
theorem Vi {p : Program} {e : Env} {below : List Frame} {P : Outcome → State → Prop} {T : State} (T' : State) (h : ∀ t, Steps p.tables e below T' t → Steps p.tables e below T t) (g : Go p e below P T') : Go p e below P T := Go.via h g
section Ret
variable {p : Program} {l : Launch} {e : Env} {R : Room} {s : State} {m : MethodId} {args : Array Value} {below : List Frame} {meth : Method} {c : Code} {T : State} {locs : List Loc} {cells slots K N : Nat}
theorem Go.fin (X : Stand p l e R s m args below meth c T locs cells slots) (hlk : meth.locks = false) {v : Option Value} (hv : meth.sig.returnType = none → v = none) {Q : Option Value → Heap → List Loc → Prop} {g : JFrame}
    (st : ∀ fs, (∀ (f : JFrame) (acts : List Action), f.method = m → f.locked = none → f.entered = [] → (doReturn e (T.setTop f) acts v).1 = T.setFrames fs) → Steps p.tables e below (T.setTop g) (T.setFrames fs))
    (hk : cells ≤ K) (hn : slots ≤ N) (hq : Q v T.heap locs) : Go p e below (fun o u => ∃ v L, o = .returned v ∧ Q v u.heap L ∧ FrameEnd s o u L K N) (T.setTop g) := by
  obtain ⟨fs, hr, hrun, hended, hW, hsame⟩ := X.leave (v := v) hv
  exact ⟨_, _, st fs hr, hrun, hended, _, _, rfl, hq, ⟨_, rfl⟩, hW, hsame.mono hk hn⟩
theorem Go.retI (X : Stand p l e R s m args below meth c T locs cells slots) (hx : p.tables.exec = Jvm.exec) (hlk : meth.locks = false) {Q : Option Value → Heap → List Loc → Prop} {pc : Nat} {Ls : Array Slot} {z : Int32} {rest : List Value} (hret : meth.sig.returnType = some .int) (hd : decode c.code pc = .ok (.ireturn, 1))
    (hk : cells ≤ K) (hn : slots ≤ N) (hq : Q (some (.int z)) T.heap locs) : Go p e below (fun o u => ∃ v L, o = .returned v ∧ Q v u.heap L ∧ FrameEnd s o u L K N) (T.setTop (mkF m pc Ls (.int z :: rest))) :=
  Go.fin X hlk (v := some (.int z)) (fun h => by rw [hret] at h; cases h) (fun fs hr => retOut X hx hret rfl (Or.inl ⟨rfl, Or.inl rfl, _, rfl⟩) hd hr) hk hn hq
theorem Go.retN (X : Stand p l e R s m args below meth c T locs cells slots) (hx : p.tables.exec = Jvm.exec) (hlk : meth.locks = false) {Q : Option Value → Heap → List Loc → Prop} {pc : Nat} {Ls : Array Slot} {z : Int32} {rest : List Value} {t : FieldType} (hret : meth.sig.returnType = some t) (ht : t = .boolean ∨ t = .byte ∨ t = .char ∨ t = .short) (hd : decode c.code pc = .ok (.ireturn, 1))
    (hk : cells ≤ K) (hn : slots ≤ N) (hq : Q (some (.int (nar t z))) T.heap locs) : Go p e below (fun o u => ∃ v L, o = .returned v ∧ Q v u.heap L ∧ FrameEnd s o u L K N) (T.setTop (mkF m pc Ls (.int z :: rest))) :=
  Go.fin X hlk (v := some (.int (nar t z))) (fun h => by rw [hret] at h; cases h) (fun fs hr => Jvm.RoadKit.retN X hx hret ht hd hr) hk hn hq
theorem Go.retJ (X : Stand p l e R s m args below meth c T locs cells slots) (hx : p.tables.exec = Jvm.exec) (hlk : meth.locks = false) {Q : Option Value → Heap → List Loc → Prop} {pc : Nat} {Ls : Array Slot} {z : Int64} {rest : List Value} (hret : meth.sig.returnType = some .long) (hd : decode c.code pc = .ok (.lreturn, 1))
    (hk : cells ≤ K) (hn : slots ≤ N) (hq : Q (some (.long z)) T.heap locs) : Go p e below (fun o u => ∃ v L, o = .returned v ∧ Q v u.heap L ∧ FrameEnd s o u L K N) (T.setTop (mkF m pc Ls (.long z :: rest))) :=
  Go.fin X hlk (v := some (.long z)) (fun h => by rw [hret] at h; cases h) (fun fs hr => retOut X hx hret rfl (Or.inr (Or.inl ⟨rfl, rfl, _, rfl⟩)) hd hr) hk hn hq
theorem Go.retR (X : Stand p l e R s m args below meth c T locs cells slots) (hx : p.tables.exec = Jvm.exec) (hlk : meth.locks = false) {Q : Option Value → Heap → List Loc → Prop} {pc : Nat} {Ls : Array Slot} {w : Value} {rest : List Value} {t : FieldType} (hret : meth.sig.returnType = some t) (ht : t.isReference = true) (hw : w.isRef = true) (hd : decode c.code pc = .ok (.areturn, 1))
    (hk : cells ≤ K) (hn : slots ≤ N) (hq : Q (some w) T.heap locs) : Go p e below (fun o u => ∃ v L, o = .returned v ∧ Q v u.heap L ∧ FrameEnd s o u L K N) (T.setTop (mkF m pc Ls (w :: rest))) :=
  Go.fin X hlk (v := some w) (fun h => by rw [hret] at h; cases h) (fun fs hr => retOut X hx hret (by rcases ref_cases hw with rfl | ⟨z, rfl⟩ <;> cases t <;> rfl) (Or.inr (Or.inr (Or.inr (Or.inr ⟨rfl, ht, hw⟩)))) hd hr) hk hn hq
theorem Go.retV (X : Stand p l e R s m args below meth c T locs cells slots) (hx : p.tables.exec = Jvm.exec) (hlk : meth.locks = false) {Q : Option Value → Heap → List Loc → Prop} {pc : Nat} {Ls : Array Slot} (hret : meth.sig.returnType = none) (hd : decode c.code pc = .ok (.return_, 1))
    (hk : cells ≤ K) (hn : slots ≤ N) (hq : Q none T.heap locs) : Go p e below (fun o u => ∃ v L, o = .returned v ∧ Q v u.heap L ∧ FrameEnd s o u L K N) (T.setTop (mkF m pc Ls [])) :=
  Go.fin X hlk (v := none) (fun _ => rfl) (fun fs hr => X.returnOut hx hret hd hr) hk hn hq
theorem Go.retNW {vm₁ : Vm} (X : Stand p l e R (s.setVm vm₁) m args below meth c T locs cells slots) (hx : p.tables.exec = Jvm.exec) {n : Nat} (hS : s.Since vm₁ n) (hnn : n ≤ T.heap.size) (hlk : meth.locks = false) {Q : Option Value → Heap → List Loc → Prop} {pc : Nat} {Ls : Array Slot} {z : Int32} {rest : List Value} {t : FieldType} (hret : meth.sig.returnType = some t) (ht : t = .boolean ∨ t = .byte ∨ t = .char ∨ t = .short) (hd : decode c.code pc = .ok (.ireturn, 1))
    (hk : cells ≤ K) (hn : slots ≤ N) (hq : Q (some (.int (nar t z))) T.heap locs) : Go p e below (fun o u => ∃ v L, o = .returned v ∧ Q v u.heap L ∧ ReturnedEndW s o u L K N) (T.setTop (mkF m pc Ls (.int z :: rest))) := by
  obtain ⟨fs, hr, hrun, hended, h1, h2, h3, h4⟩ := X.leaveW hS hnn (v := some (.int (nar t z))) (fun h => by rw [hret] at h; cases h) hlk
  exact ⟨_, _, Jvm.RoadKit.retN X hx hret ht hd hr, hrun, hended, _, _, rfl, hq, h1, h2, h3, h4.mono hk hn⟩
end Ret
theorem leW {a b : Nat} (h : a = b) : a ≤ b := Nat.le_of_eq h
abbrev sI (x : Int32) : Slot := .val (.int x)
abbrev sR (a : Addr) : Slot := .val (.ref a)
abbrev y1 : MethodName := ⟨"com/example/bindery/bindery/compiler/JavaTypeOuterNamePinLaw", "pick", "(III)C"⟩
abbrev B1 := method_3_code
abbrev y2 : MethodName := ⟨"com/example/bindery/bindery/compiler/JavaTypeOuterNamePinLaw", "make", "(ICCCC)Ljava/lang/String;"⟩
abbrev B2 := method_4_code
abbrev y3 : MethodName := ⟨"java/lang/String", "<init>", "([C)V"⟩
abbrev B3 := jdk_42_method_3_code
abbrev y4 : MethodName := ⟨"java/lang/String", "<init>", "([CIILjava/lang/Void;)V"⟩
abbrev B4 := jdk_42_method_149_code
abbrev y5 : MethodName := ⟨"java/lang/Object", "<init>", "()V"⟩
abbrev B5 := object_method_1_code
abbrev y6 : MethodName := ⟨"com/example/bindery/bindery/compiler/JavaType", "<init>", "(Ljava/lang/String;Ljava/lang/String;)V"⟩
abbrev B6 := prog_5_method_1_code
abbrev y7 : MethodName := ⟨"java/util/Optional", "empty", "()Ljava/util/Optional;"⟩
abbrev B7 := jdk_32_method_1_code
abbrev y8 : MethodName := ⟨"com/example/bindery/bindery/compiler/JavaType", "<init>", "(Ljava/lang/String;Ljava/lang/String;Ljava/util/Optional;)V"⟩
abbrev B8 := prog_5_method_2_code
abbrev y9 : MethodName := ⟨"java/lang/Record", "<init>", "()V"⟩
abbrev B9 := jdk_30_method_1_code
abbrev y10 : MethodName := ⟨"com/example/bindery/bindery/compiler/JavaType", "outerName", "()Ljava/lang/String;"⟩
abbrev B10 := prog_5_method_9_code
abbrev y11 : MethodName := ⟨"java/lang/String", "indexOf", "(I)I"⟩
abbrev B11 := jdk_42_method_79_code
abbrev y12 : MethodName := ⟨"java/lang/String", "indexOf", "(II)I"⟩
abbrev B12 := jdk_42_method_80_code
abbrev y13 : MethodName := ⟨"java/lang/String", "isLatin1", "()Z"⟩
abbrev B13 := jdk_42_method_154_code
abbrev y14 : MethodName := ⟨"java/lang/String", "length", "()I"⟩
abbrev B14 := jdk_42_method_54_code
abbrev y15 : MethodName := ⟨"java/lang/String", "coder", "()B"⟩
abbrev B15 := jdk_42_method_152_code
abbrev y16 : MethodName := ⟨"java/lang/StringLatin1", "indexOf", "([BIII)I"⟩
abbrev B16 := jdk_43_method_22_code
abbrev y17 : MethodName := ⟨"java/lang/StringLatin1", "canEncode", "(I)Z"⟩
abbrev B17 := jdk_43_method_4_code
abbrev y18 : MethodName := ⟨"java/lang/Math", "max", "(II)I"⟩
abbrev B18 := jdk_29_method_65_code
abbrev y19 : MethodName := ⟨"java/lang/Math", "min", "(II)I"⟩
abbrev B19 := jdk_29_method_69_code
abbrev y20 : MethodName := ⟨"java/lang/StringUTF16", "compress", "([CII)[B"⟩
abbrev B20 := jdk_52_method_16_code
abbrev y21 : MethodName := ⟨"java/lang/StringUTF16", "compress", "([CI[BII)I"⟩
abbrev B21 := jdk_52_method_21_code
abbrev y22 : MethodName := ⟨"java/lang/StringUTF16", "coderFromArrayLen", "([BI)B"⟩
abbrev B22 := jdk_52_method_15_code
abbrev y23 : MethodName := ⟨"java/lang/StringLatin1", "indexOfChar", "([BIII)I"⟩
abbrev B23 := jdk_43_method_23_code
abbrev y24 : MethodName := ⟨"java/lang/String", "substring", "(II)Ljava/lang/String;"⟩
abbrev B24 := jdk_42_method_92_code
abbrev y25 : MethodName := ⟨"java/lang/String", "checkBoundsBeginEnd", "(III)V"⟩
abbrev B25 := jdk_42_method_158_code
abbrev y26 : MethodName := ⟨"jdk/internal/util/Preconditions", "checkFromToIndex", "(IIILjava/util/function/BiFunction;)I"⟩
abbrev B26 := jdk_41_method_12_code
abbrev y27 : MethodName := ⟨"java/lang/StringLatin1", "newString", "([BII)Ljava/lang/String;"⟩
abbrev B27 := jdk_43_method_47_code
abbrev y28 : MethodName := ⟨"java/util/Arrays", "copyOfRange", "([BII)[B"⟩
abbrev B28 := jdk_65_method_132_code
abbrev y29 : MethodName := ⟨"java/util/Arrays", "copyOfRangeByte", "([BII)[B"⟩
abbrev B29 := jdk_65_method_133_code
abbrev y30 : MethodName := ⟨"java/util/Arrays", "checkLength", "(II)V"⟩
abbrev B30 := jdk_65_method_131_code
abbrev y31 : MethodName := ⟨"java/lang/String", "<init>", "([BB)V"⟩
abbrev B31 := jdk_42_method_151_code
abbrev y32 : MethodName := ⟨"java/lang/String", "charAt", "(I)C"⟩
abbrev B32 := jdk_42_method_56_code
abbrev y33 : MethodName := ⟨"java/lang/StringLatin1", "charAt", "([BI)C"⟩
abbrev B33 := jdk_43_method_2_code
abbrev y34 : MethodName := ⟨"java/lang/String", "checkIndex", "(II)V"⟩
abbrev B34 := jdk_42_method_155_code
abbrev y35 : MethodName := ⟨"jdk/internal/util/Preconditions", "checkIndex", "(IILjava/util/function/BiFunction;)I"⟩
abbrev B35 := jdk_41_method_11_code
theorem wq {a0 : Array Value} {Z : State} (hw : HW a0 Z) (i : Nat) {d : Jvm.Cond} (h : tables_1[i]? = some d) : d.before a0 Z = true := hw d (List.mem_of_getElem? h)
theorem wz {args a0 : Array Value} {Z s : State} {d : Cond} (hZ : Z.Warmed39 s.vm) (hw : HW a0 Z) (i : Nat) (h : tables_1[i]? = some d) (hd : (d.onTables && d.keepsFace) = true := by first | rfl | simp [Cond.onTables, Cond.keepsFace, Cond.keeps, Cond.steady]) : d.before args s = true := mvT hZ (wq hw i h) hd
theorem own_eqi {t : Term} {n : Int32} {args : Array Value} {s : State} (h : (Cond.eq t (.int n)).value args s none s [] = some true) : t.eval args s none [] s = some (.int n) := by
  obtain ⟨x, y, h1, h2, k, -⟩ := cmp_v (Or.inl h)
  cases (show some y = some (Value.int n) from h2.symm)
  cases x with
  | int z => rw [h1]; congr 2; have q := h; simp [Cond.value, h1, Term.eval] at q; exact q
  | _ => simp [Kin, Value.isRef] at k
theorem own_ns1 {h : Heap} {a : Addr} {ws : List Addr} (q : ∀ cell : Cell, h[a]? = some cell → cell.vm.isStatics = false) (r : ∀ (x : Addr) (c : Cell), h[x]? = some c → c.vm.isStatics = true → x ∉ ws) : ∀ (x : Addr) (c : Cell), h[x]? = some c → c.vm.isStatics = true → x ∉ a :: ws := fun x c hx hc => ninS (fun e => by subst e; rw [q c hx] at hc; cases hc) (r x c hx hc)
theorem own_sk {Z : State} {h h' : Heap} {C n d : String} {v : Value} {ws : List Addr} (F : Sta Z h C n d v) (K : Keep h h' ws) (q : ∀ (x : Addr) (c : Cell), h[x]? = some c → c.vm.isStatics = true → x ∉ ws) : Sta Z h' C n d v := by
  obtain ⟨cf, i, k, f, st, cell, h1, h2, h3, h4, h5, h6, h7⟩ := F
  exact ⟨cf, i, k, f, st, cell, h1, h2, h3, h4, K.2.1 _ _ h5 (q _ _ h5 h6), h6, h7⟩

/-- an array of n places; place k holds g k -/
def AV (Z : State) (h : Heap) (a : Addr) (ty : FieldType) (n : Nat) (g : Nat → Value) : Prop := n < 2 ^ 31 ∧ ∃ c : Cell, Arr Z h a c ty ∧ c.slots.size = n ∧ ∀ k, k < n → c.slots[k]? = some (g k)
def up {α : Type} (f : Nat → α) (i : Nat) (v : α) : Nat → α := fun k => if k = i then v else f k
section AVs
variable {p : Program} {l : Launch} {e : Env} {R : Room} {s : State} {m : MethodId} {args : Array Value} {below : List Frame} {meth : Method} {c : Code} {T : State} {locs : List Loc} {cells slots : Nat}
variable {Z : State} {h h' : Heap} {a b : Addr} {ty : FieldType} {n : Nat} {g g' : Nat → Value} {sl : Nat} {v : Value} {ws : List Addr} {j : Int32}
theorem AV.lt (F : AV Z h a ty n g) : a < h.size := by obtain ⟨_, c, A, -⟩ := F; exact A.lt
theorem AV.ext (F : AV Z h a ty n g) (E : Ext h h') : AV Z h' a ty n g := by obtain ⟨q, c, A, r⟩ := F; exact ⟨q, c, A.ext E, r⟩
theorem AV.other (F : AV Z h b ty n g) (W : Wr h h' a sl v) (q : b ≠ a) : AV Z h' b ty n g := by obtain ⟨q', c, A, r⟩ := F; exact ⟨q', c, A.other W q, r⟩
theorem AV.keep (F : AV Z h a ty n g) (K : Keep h h' ws) (q : a ∉ ws) : AV Z h' a ty n g := by obtain ⟨q', c, A, r⟩ := F; exact ⟨q', c, ⟨K.2.1 a c A.1 q, A.2⟩, r⟩
theorem AV.congr (F : AV Z h a ty n g) (q : ∀ k, k < n → g k = g' k) : AV Z h a ty n g' := by obtain ⟨q', c, A, r1, r2⟩ := F; exact ⟨q', c, A, r1, fun k hk => by rw [← q k hk]; exact r2 k hk⟩
theorem AV.set (F : AV Z h a ty n g) (W : Wr h h' a sl v) : AV Z h' a ty n (up g sl v) := by
  obtain ⟨q', c, A, r1, r2⟩ := F
  refine ⟨q', _, A.same W, by rw [sz_set]; exact r1, fun k hk => ?_⟩
  by_cases u : k = sl
  · subst u; simp [Cell.setSlot, up, r1, hk]
  · simp only [Cell.setSlot, up, if_neg u]; rw [Array.getElem?_setIfInBounds_ne (Ne.symm u)]; exact r2 k hk
theorem AV.new {k : ClassId} {z : Int32} (A : Arr Z h a (newA k ty z) ty) : AV Z h a ty z.toNatClampNeg (fun _ => defaultValue ty) := by
  refine ⟨by have := Int32.toInt_lt z; simp only [Int32.toNatClampNeg]; omega, _, A, sz_new _ _ _, fun i hi => by simp [newA, hi]⟩
theorem AV.inb {cl : Cell} (hs : cl.slots.size = n) (hj : ¬ j < 0 ∧ j.toNatClampNeg < n) : ¬ (j < 0 ∨ cl.slots.size ≤ j.toNatClampNeg) := fun q => q.elim hj.1 fun q => by rw [hs] at q; exact absurd hj.2 (Nat.not_lt.mpr q)
theorem AV.len (F : AV Z h a ty n g) (X : Stand p l e R s m args below meth c T locs cells slots) (hx : p.tables.exec = Jvm.exec) (hZ : Z.Warmed39 s.vm) (eT : T.heap = h) {pc : Nat} {Ls : Array Slot} {rest : List Value} (hd : decode c.code pc = .ok (.arraylength, 1)) {t : State}
    (k : Steps p.tables e below (T.setTop (mkF m (pc + 1) Ls (.int (Int32.ofNat n) :: rest))) t) : Steps p.tables e below (T.setTop (mkF m pc Ls (.ref a :: rest))) t := by
  obtain ⟨q', cl, A, r1, r2⟩ := F
  subst r1
  exact X.arraylength hx (by rw [eT]; exact A.1) (State.isArrayOf_alike hZ.alike A.2.1) (g := mkF m pc Ls (.ref a :: rest)) rfl rfl hd _ k
theorem AV.iaload {f : Nat → Int32} (F : AV Z h a .int n (fun k => .int (f k))) (X : Stand p l e R s m args below meth c T locs cells slots) (hx : p.tables.exec = Jvm.exec) (hZ : Z.Warmed39 s.vm) (eT : T.heap = h) (hj : ¬ j < 0 ∧ j.toNatClampNeg < n) {pc : Nat} {Ls : Array Slot} {rest : List Value} (hd : decode c.code pc = .ok (.iaload, 1)) {t : State}
    (k : Steps p.tables e below (T.setTop (mkF m (pc + 1) Ls (.int (f j.toNatClampNeg) :: rest))) t) : Steps p.tables e below (T.setTop (mkF m pc Ls (.int j :: .ref a :: rest))) t := by
  obtain ⟨q', cl, A, r1, r2⟩ := F
  exact X.iaload hx (j := j) (v := .int (f j.toNatClampNeg)) (by rw [eT]; exact A.1) (State.isArrayOf_alike hZ.alike A.2.1) A.2.2 (AV.inb r1 hj) (r2 _ hj.2) (g := mkF m pc Ls (.int j :: .ref a :: rest)) rfl rfl hd _ k
theorem AV.laload {f : Nat → Int64} (F : AV Z h a .long n (fun k => .long (f k))) (X : Stand p l e R s m args below meth c T locs cells slots) (hx : p.tables.exec = Jvm.exec) (hZ : Z.Warmed39 s.vm) (eT : T.heap = h) (hj : ¬ j < 0 ∧ j.toNatClampNeg < n) {pc : Nat} {Ls : Array Slot} {rest : List Value} (hd : decode c.code pc = .ok (.laload, 1)) {t : State}
    (k : Steps p.tables e below (T.setTop (mkF m (pc + 1) Ls (.long (f j.toNatClampNeg) :: rest))) t) : Steps p.tables e below (T.setTop (mkF m pc Ls (.int j :: .ref a :: rest))) t := by
  obtain ⟨q', cl, A, r1, r2⟩ := F
  exact X.laload hx (j := j) (v := .long (f j.toNatClampNeg)) (by rw [eT]; exact A.1) (State.isArrayOf_alike hZ.alike A.2.1) A.2.2 (AV.inb r1 hj) (r2 _ hj.2) (g := mkF m pc Ls (.int j :: .ref a :: rest)) rfl rfl hd _ k
theorem AV.aaload (F : AV Z h a ty n g) (hty : ty.isReference = true) (X : Stand p l e R s m args below meth c T locs cells slots) (hx : p.tables.exec = Jvm.exec) (hZ : Z.Warmed39 s.vm) (eT : T.heap = h) (hj : ¬ j < 0 ∧ j.toNatClampNeg < n) {pc : Nat} {Ls : Array Slot} {rest : List Value} (hd : decode c.code pc = .ok (.aaload, 1)) {t : State}
    (k : Steps p.tables e below (T.setTop (mkF m (pc + 1) Ls (g j.toNatClampNeg :: rest))) t) : Steps p.tables e below (T.setTop (mkF m pc Ls (.int j :: .ref a :: rest))) t := by
  obtain ⟨q', cl, A, r1, r2⟩ := F
  exact X.aaload hx (j := j) (v := g j.toNatClampNeg) (by rw [eT]; exact A.1) (State.isArrayOf_alike hZ.alike A.2.1) hty A.2.2 (AV.inb r1 hj) (r2 _ hj.2) (g := mkF m pc Ls (.int j :: .ref a :: rest)) rfl rfl hd _ k
theorem AV.iastore {f : Nat → Int32} {x : Int32} (F : AV Z h a .int n (fun k => .int (f k))) (X : Stand p l e R s m args below meth c T locs cells slots) (hx : p.tables.exec = Jvm.exec) (hZ : Z.Warmed39 s.vm) (eT : T.heap = h) (hj : ¬ j < 0 ∧ j.toNatClampNeg < n) {pc : Nat} {Ls : Array Slot} {rest : List Value} (hd : decode c.code pc = .ok (.iastore, 1)) :
    ∃ T' h', Stand p l e R s m args below meth c T' (locs ++ [⟨a, j.toNatClampNeg⟩]) cells slots ∧ T'.heap = h' ∧ Wr h h' a j.toNatClampNeg (.int x) ∧ AV Z h' a .int n (fun k => .int (up f j.toNatClampNeg x k)) ∧
      ∀ t, Steps p.tables e below (T'.setTop (mkF m (pc + 1) Ls rest)) t → Steps p.tables e below (T.setTop (mkF m pc Ls (.int x :: .int j :: .ref a :: rest))) t := by
  have F0 := F
  obtain ⟨q', cl, A, r1, r2⟩ := F
  obtain ⟨T', h', X', e', W, st⟩ := stI X hx hZ eT A (j := j) (AV.inb r1 hj) (g := mkF m pc Ls (.int x :: .int j :: .ref a :: rest)) rfl rfl hd
  exact ⟨T', h', X', e', W, (F0.set W).congr (fun k _ => by unfold up; split <;> rfl), st⟩
theorem AV.lastore {f : Nat → Int64} {x : Int64} (F : AV Z h a .long n (fun k => .long (f k))) (X : Stand p l e R s m args below meth c T locs cells slots) (hx : p.tables.exec = Jvm.exec) (hZ : Z.Warmed39 s.vm) (eT : T.heap = h) (hj : ¬ j < 0 ∧ j.toNatClampNeg < n) {pc : Nat} {Ls : Array Slot} {rest : List Value} (hd : decode c.code pc = .ok (.lastore, 1)) :
    ∃ T' h', Stand p l e R s m args below meth c T' (locs ++ [⟨a, j.toNatClampNeg⟩]) cells slots ∧ T'.heap = h' ∧ Wr h h' a j.toNatClampNeg (.long x) ∧ AV Z h' a .long n (fun k => .long (up f j.toNatClampNeg x k)) ∧
      ∀ t, Steps p.tables e below (T'.setTop (mkF m (pc + 1) Ls rest)) t → Steps p.tables e below (T.setTop (mkF m pc Ls (.long x :: .int j :: .ref a :: rest))) t := by
  have F0 := F
  obtain ⟨q', cl, A, r1, r2⟩ := F
  obtain ⟨T', h', X', e', W, st⟩ := stJ X hx hZ eT A (j := j) (AV.inb r1 hj) (g := mkF m pc Ls (.long x :: .int j :: .ref a :: rest)) rfl rfl hd
  exact ⟨T', h', X', e', W, (F0.set W).congr (fun k _ => by unfold up; split <;> rfl), st⟩
theorem AV.bastoreZ {f : Nat → Int32} {x : Int32} (F : AV Z h a .boolean n (fun k => .int (f k))) (X : Stand p l e R s m args below meth c T locs cells slots) (hx : p.tables.exec = Jvm.exec) (hZ : Z.Warmed39 s.vm) (eT : T.heap = h) (hj : ¬ j < 0 ∧ j.toNatClampNeg < n) {pc : Nat} {Ls : Array Slot} {rest : List Value} (hd : decode c.code pc = .ok (.bastore, 1)) :
    ∃ T' h', Stand p l e R s m args below meth c T' (locs ++ [⟨a, j.toNatClampNeg⟩]) cells slots ∧ T'.heap = h' ∧ Wr h h' a j.toNatClampNeg (.int (nar .boolean x)) ∧ AV Z h' a .boolean n (fun k => .int (up f j.toNatClampNeg (nar .boolean x) k)) ∧
      ∀ t, Steps p.tables e below (T'.setTop (mkF m (pc + 1) Ls rest)) t → Steps p.tables e below (T.setTop (mkF m pc Ls (.int x :: .int j :: .ref a :: rest))) t := by
  have F0 := F
  obtain ⟨q', cl, A, r1, r2⟩ := F
  obtain ⟨T', h', X', e', W, st⟩ := stZ X hx hZ eT A (j := j) (AV.inb r1 hj) (g := mkF m pc Ls (.int x :: .int j :: .ref a :: rest)) rfl rfl hd
  exact ⟨T', h', X', e', W, (F0.set W).congr (fun k _ => by unfold up; split <;> rfl), st⟩
theorem AV.aastore (F : AV Z h a ty n g) (hty : ty.isReference = true) (S : Sto Z h a v) (X : Stand p l e R s m args below meth c T locs cells slots) (hx : p.tables.exec = Jvm.exec) (hZ : Z.Warmed39 s.vm) (eT : T.heap = h) (hj : ¬ j < 0 ∧ j.toNatClampNeg < n) {pc : Nat} {Ls : Array Slot} {rest : List Value} (hd : decode c.code pc = .ok (.aastore, 1)) :
    ∃ T' h', Stand p l e R s m args below meth c T' (locs ++ [⟨a, j.toNatClampNeg⟩]) cells slots ∧ T'.heap = h' ∧ Wr h h' a j.toNatClampNeg v ∧ AV Z h' a ty n (up g j.toNatClampNeg v) ∧
      ∀ t, Steps p.tables e below (T'.setTop (mkF m (pc + 1) Ls rest)) t → Steps p.tables e below (T.setTop (mkF m pc Ls (v :: .int j :: .ref a :: rest))) t := by
  have F0 := F
  obtain ⟨q', cl, A, r1, r2⟩ := F
  obtain ⟨T', h', X', e', W, st⟩ := stR X hx hZ eT A (j := j) (AV.inb r1 hj) hty S (g := mkF m pc Ls (v :: .int j :: .ref a :: rest)) rfl rfl hd
  exact ⟨T', h', X', e', W, F0.set W, st⟩
end AVs
/-- what may lie in an array of arrays -/
def OV (Z : State) (h : Heap) (a : Addr) (ty : FieldType) (C : String) : Prop := ∃ cl : Cell, h[a]? = some cl ∧ OvrA Z cl.cls ty C
section OVs
variable {Z : State} {h h' : Heap} {a b : Addr} {ty t0 : FieldType} {C : String} {n : Nat} {g : Nat → Value} {sl : Nat} {v : Value} {ws : List Addr}
theorem OV.ext (F : OV Z h a ty C) (E : Ext h h') : OV Z h' a ty C := by obtain ⟨cl, q, O⟩ := F; exact ⟨cl, E.2 _ _ q, O⟩
theorem OV.wr (F : OV Z h a ty C) (W : Wr h h' b sl v) : OV Z h' a ty C := by
  obtain ⟨cl, q, O⟩ := F; obtain ⟨c', e1, e2, -⟩ := wr_at W q; exact ⟨c', e1, by rw [e2]; exact O⟩
theorem OV.keep (F : OV Z h a ty C) (K : Keep h h' ws) : OV Z h' a ty C := by
  obtain ⟨cl, q, O⟩ := F; obtain ⟨c', e1, e2, -⟩ := K.2.2 _ _ q; exact ⟨c', e1, by rw [e2]; exact O⟩
theorem OV.sto (F : OV Z h a ty C) (A : AV Z h a t0 n g) (I : Ins Z h b C true) : Sto Z h a (.ref b) := by
  obtain ⟨cl, q, O⟩ := F; obtain ⟨-, c, A', -⟩ := A; cases q.symm.trans A'.1; exact Sto.ofVA A' rfl O I
end OVs
section AVc
variable {p : Program} {l : Launch} {e : Env} {R : Room} {s : State} {m : MethodId} {args : Array Value} {below : List Frame} {meth : Method} {c : Code} {T : State} {locs : List Loc} {cells slots : Nat}
variable {Z : State} {h : Heap} {a : Addr} {ty : FieldType} {n : Nat} {g0 : Nat → Value} {a0 : Array Value}
theorem AV.clone (F : AV Z h a ty n g0) (ht : ∀ k, k < n → fits ty (g0 k) = true) (X : Stand p l e R s m args below meth c T locs cells slots) (hx : p.tables.exec = Jvm.exec) (hZ : Z.Warmed39 s.vm) {own ad : String} {index : Nat} (hown : s.vm.findClass own = some m.cls)
    (w1 : (Cond.methodLink own index ⟨ad, "clone", "()Ljava/lang/Object;"⟩).before a0 Z = true) (w2 : (Cond.sameMethod ad "java/lang/Object" "clone" "()Ljava/lang/Object;").before a0 Z = true) (w3 : (Cond.native ⟨"java/lang/Object", "clone", "()Ljava/lang/Object;"⟩).before a0 Z = true)
    (w4 : (Cond.instanceMethod ⟨"java/lang/Object", "clone", "()Ljava/lang/Object;"⟩).before a0 Z = true) (w5 : (Cond.selects ad ⟨ad, "clone", "()Ljava/lang/Object;"⟩ ⟨"java/lang/Object", "clone", "()Ljava/lang/Object;"⟩).before a0 Z = true) (w6 : (Cond.castable ad "java/lang/Cloneable").before a0 Z = true)
    (eT : T.heap = h) (E : Exa Z h a ad) {g : JFrame} (hg : g.method = m) (hsize : g.locals.size = c.maxLocals) {rest : List Value} (hst : g.stack = .ref a :: rest) (hd : decode c.code g.pc = .ok (.invokevirtual index, 3))
    (hf : 1 ≤ R.frames) {W cap : Nat} (hW : 2 * g.monitorRoom + (rest.map fun v => v.category).sum ≤ W) (hl : W + 14 ≤ R.locals) (hcap : n ≤ cap) (hc : cells + 1 ≤ R.cells) (hsl : slots + cap ≤ R.slots) :
    ∃ T' h', Stand p l e R s m args below meth c T' locs (cells + 1) (slots + cap) ∧ T'.heap = h' ∧ Ext h h' ∧ AV Z h' h.size ty n g0 ∧ Exa Z h' h.size ad ∧
      ∀ target, Steps p.tables e below (T'.setTop { g with pc := g.pc + 3, stack := .ref h.size :: rest }) target → Steps p.tables e below (T.setTop g) target := by
  obtain ⟨q0, cl, A, S, H⟩ := F
  have FC : FitC Z cl := fitC_of A fun i hi v hv => by
    rw [S] at hi; rw [H i hi] at hv; cases hv; exact ht i hi
  obtain ⟨T', h', X', e', ex, A', E', st⟩ := cloneA X hx hZ hown w1 w2 w3 w4 w5 w6 eT A E FC hg hsize hst hd hf hW hl (by rw [S]; exact hcap) hc hsl
  exact ⟨T', h', X', e', ex, ⟨q0, cloneOf cl, A', S, H⟩, E', st⟩
end AVc

section AVb
variable {p : Program} {l : Launch} {e : Env} {R : Room} {s : State} {m : MethodId} {args : Array Value} {below : List Frame} {meth : Method} {c : Code} {T : State} {locs : List Loc} {cells slots : Nat}
variable {Z : State} {h : Heap} {a : Addr} {n : Nat} {j : Int32}
theorem AV.baload {f : Nat → Int32} (F : AV Z h a .byte n (fun k => .int (f k))) (X : Stand p l e R s m args below meth c T locs cells slots) (hx : p.tables.exec = Jvm.exec) (hZ : Z.Warmed39 s.vm) (eT : T.heap = h) (hj : ¬ j < 0 ∧ j.toNatClampNeg < n) {pc : Nat} {Ls : Array Slot} {rest : List Value} (hd : decode c.code pc = .ok (.baload, 1)) {t : State}
    (k : Steps p.tables e below (T.setTop (mkF m (pc + 1) Ls (.int (f j.toNatClampNeg) :: rest))) t) : Steps p.tables e below (T.setTop (mkF m pc Ls (.int j :: .ref a :: rest))) t := by
  obtain ⟨q', cl, A, r1, r2⟩ := F
  exact X.baloadBytes hx (j := j) (v := .int (f j.toNatClampNeg)) (by rw [eT]; exact A.1) (State.isArrayOf_alike hZ.alike A.2.1) A.2.2 (AV.inb r1 hj) (r2 _ hj.2) (g := mkF m pc Ls (.int j :: .ref a :: rest)) rfl rfl hd _ k
/-- the bytes of a short text -/
def own_t (l : List Int32) : Nat → Int32 := fun k => l.getD k 0
theorem AV.ofArv {k : ClassId} {z : Int32} {l : List Int32} (F : Arv Z h a k .byte z (l.map .int) (.int 0)) (hn : z.toNatClampNeg = n) (h31 : n < 2 ^ 31) : AV Z h a .byte n (fun k => .int (own_t l k)) := by
  obtain ⟨c, A, -, S, -, H, -⟩ := F
  refine ⟨h31, c, A, S.trans hn, fun i hi => ?_⟩
  rw [H i (by rw [S, hn]; exact hi)]
  simp only [own_t, List.getD_eq_getElem?_getD, List.getElem?_map]
  cases l[i]? <;> rfl
end AVb

section AVstr
variable {p : Program} {l : Launch} {e : Env} {R : Room} {s : State} {m : MethodId} {args : Array Value} {below : List Frame} {meth : Method} {c : Code} {T : State} {locs : List Loc} {cells slots : Nat}
variable {Z : State} {h h' : Heap} {a b x : Addr} {ty ty' : FieldType} {n n' : Nat} {g g' : Nat → Value} {j : Int32} {a0 : Array Value}
theorem AV.caload {f : Nat → Int32} (F : AV Z h a .char n (fun k => .int (f k))) (X : Stand p l e R s m args below meth c T locs cells slots) (hx : p.tables.exec = Jvm.exec) (hZ : Z.Warmed39 s.vm) (eT : T.heap = h) (hj : ¬ j < 0 ∧ j.toNatClampNeg < n) {pc : Nat} {Ls : Array Slot} {rest : List Value} (hd : decode c.code pc = .ok (.caload, 1)) {t : State}
    (k : Steps p.tables e below (T.setTop (mkF m (pc + 1) Ls (.int (f j.toNatClampNeg) :: rest))) t) : Steps p.tables e below (T.setTop (mkF m pc Ls (.int j :: .ref a :: rest))) t := by
  obtain ⟨q', cl, A, r1, r2⟩ := F
  exact X.caload hx (j := j) (v := .int (f j.toNatClampNeg)) (by rw [eT]; exact A.1) (State.isArrayOf_alike hZ.alike A.2.1) A.2.2 (AV.inb r1 hj) (r2 _ hj.2) (g := mkF m pc Ls (.int j :: .ref a :: rest)) rfl rfl hd _ k
theorem AV.castore {f : Nat → Int32} {x : Int32} (F : AV Z h a .char n (fun k => .int (f k))) (X : Stand p l e R s m args below meth c T locs cells slots) (hx : p.tables.exec = Jvm.exec) (hZ : Z.Warmed39 s.vm) (eT : T.heap = h) (hj : ¬ j < 0 ∧ j.toNatClampNeg < n) {pc : Nat} {Ls : Array Slot} {rest : List Value} (hd : decode c.code pc = .ok (.castore, 1)) :
    ∃ T' h', Stand p l e R s m args below meth c T' (locs ++ [⟨a, j.toNatClampNeg⟩]) cells slots ∧ T'.heap = h' ∧ Wr h h' a j.toNatClampNeg (.int (nar .char x)) ∧ AV Z h' a .char n (fun k => .int (up f j.toNatClampNeg (nar .char x) k)) ∧
      ∀ t, Steps p.tables e below (T'.setTop (mkF m (pc + 1) Ls rest)) t → Steps p.tables e below (T.setTop (mkF m pc Ls (.int x :: .int j :: .ref a :: rest))) t := by
  have F0 := F
  obtain ⟨q', cl, A, r1, r2⟩ := F
  obtain ⟨T', h', X', e', W, st⟩ := stC X hx hZ eT A (j := j) (AV.inb r1 hj) (g := mkF m pc Ls (.int x :: .int j :: .ref a :: rest)) rfl rfl hd
  exact ⟨T', h', X', e', W, (F0.set W).congr (fun k _ => by unfold up; split <;> rfl), st⟩
theorem AV.bastoreB {f : Nat → Int32} {x : Int32} (F : AV Z h a .byte n (fun k => .int (f k))) (X : Stand p l e R s m args below meth c T locs cells slots) (hx : p.tables.exec = Jvm.exec) (hZ : Z.Warmed39 s.vm) (eT : T.heap = h) (hj : ¬ j < 0 ∧ j.toNatClampNeg < n) {pc : Nat} {Ls : Array Slot} {rest : List Value} (hd : decode c.code pc = .ok (.bastore, 1)) :
    ∃ T' h', Stand p l e R s m args below meth c T' (locs ++ [⟨a, j.toNatClampNeg⟩]) cells slots ∧ T'.heap = h' ∧ Wr h h' a j.toNatClampNeg (.int (nar .byte x)) ∧ AV Z h' a .byte n (fun k => .int (up f j.toNatClampNeg (nar .byte x) k)) ∧
      ∀ t, Steps p.tables e below (T'.setTop (mkF m (pc + 1) Ls rest)) t → Steps p.tables e below (T.setTop (mkF m pc Ls (.int x :: .int j :: .ref a :: rest))) t := by
  have F0 := F
  obtain ⟨q', cl, A, r1, r2⟩ := F
  obtain ⟨T', h', X', e', W, st⟩ := stB X hx hZ eT A (j := j) (AV.inb r1 hj) (g := mkF m pc Ls (.int x :: .int j :: .ref a :: rest)) rfl rfl hd
  exact ⟨T', h', X', e', W, (F0.set W).congr (fun k _ => by unfold up; split <;> rfl), st⟩
theorem AV.neExa {n1 : Nat} {C : String} (F : AV Z h b ty n g) (E : Exa Z h x C) (w : (Cond.instantiable C n1).before a0 Z = true) : b ≠ x := fun q => by
  subst q
  obtain ⟨c1, k1, e1, f1, g1, -⟩ := E
  obtain ⟨-, c2, ⟨e2, hA, -⟩, -⟩ := F
  cases e1.symm.trans e2
  simp only [Cond.before, Cond.holds, Cond.value, f1, Option.bind_some, g1, Option.map_some] at w
  have ho : k1.kind = .ordinary := by
    simp only [beq_iff_eq, Option.some.injEq, Bool.and_eq_true, decide_eq_true_eq] at w; exact w.1.1.1
  obtain ⟨-, kk, hk, comp, hkind⟩ := hA
  rw [g1] at hk; cases hk; rw [ho] at hkind; cases hkind
theorem AV.arv (F : AV Z h a ty n g) (hf : ∀ k, k < n → fits ty (g k) = true) {d : Value} : ∃ k, Arv Z h a k ty (Int32.ofNat n) ((List.range n).map g) d := by
  obtain ⟨q, cl, A, S, H⟩ := F
  have e1 : (Int32.ofNat n).toNatClampNeg = n := by simp only [Int32.toNatClampNeg, len_toInt q]; rfl
  have gd : ∀ i, i < n → ((List.range n).map g).getD i d = g i := fun i hi => by rw [List.getD_eq_getElem?_getD]; simp [hi]
  refine ⟨cl.cls, cl, A, rfl, S.trans e1.symm, by rw [Int32.lt_iff_toInt_lt, len_toInt q]; show ¬ ((n : Int) < 0); omega, fun i hi => ?_, fun i hi => ?_⟩
  · rw [S] at hi; rw [gd i hi]; exact H i hi
  · rw [S] at hi; rw [gd i hi]; exact hf i hi
/-- System.arraycopy of nn bytes behind sp to the head of a new array of nn places -/
theorem AV.copyB {f f' : Nat → Int32} {nn sp' : Nat} {sp : Int32} (A : AV Z h a .byte n (fun k => .int (f k))) (B : AV Z h b .byte nn (fun k => .int (f' k))) (hf : ∀ k, k < n → fits .byte (.int (f k)) = true) (hf' : ∀ k, k < nn → fits .byte (.int (f' k)) = true) (hsp : sp = Int32.ofNat sp') (hle : sp' + nn ≤ n)
    (X : Stand p l e R s m args below meth c T locs cells slots) (hx : p.tables.exec = Jvm.exec) (hZ : Z.Warmed39 s.vm) {own : String} {index : Nat} (hown : s.vm.findClass own = some m.cls)
    (w1 : (Cond.methodLink own index Jvm.Stand.acN).before a0 Z = true) (w2 : (Cond.native Jvm.Stand.acN).before a0 Z = true) (w3 : (Cond.static Jvm.Stand.acN).before a0 Z = true) (w4 : (Cond.initialized "java/lang/System").before a0 Z = true) (eT : T.heap = h)
    {n0 : Nat} (N : Fr n0 locs) (ge : n0 ≤ b) {g : JFrame} (hg : g.method = m) (hsize : g.locals.size = c.maxLocals) {rest : List Value} (hs : g.stack = .int (Int32.ofNat nn) :: .int 0 :: .ref b :: .int sp :: .ref a :: rest) (hd : decode c.code g.pc = .ok (.invokestatic index, 3))
    (hfr : 1 ≤ R.frames) {W : Nat} (hW : 2 * g.monitorRoom + (rest.map fun v => v.category).sum ≤ W) (hlo : W + (nativeFrameWords "java/lang/System" "arraycopy" 5 + 11) ≤ R.locals) :
    ∃ T' h' L, Stand p l e R s m args below meth c T' L cells slots ∧ T'.heap = h' ∧ Fr n0 L ∧ Keep h h' [b] ∧ AV Z h' b .byte nn (fun k => .int (f (sp' + k))) ∧
      ∀ target, Steps p.tables e below (T'.setTop { g with pc := g.pc + 3, stack := rest }) target → Steps p.tables e below (T.setTop g) target := by
  have qA := A.1; have qB := B.1
  have nat : ∀ {i : Nat}, i < 2 ^ 31 → (Int32.ofNat i).toNatClampNeg = i := fun {i} q => by simp only [Int32.toNatClampNeg, len_toInt q]; rfl
  have neg : ∀ {i : Nat}, i < 2 ^ 31 → ¬ (Int32.ofNat i) < 0 := fun {i} q => by rw [Int32.lt_iff_toInt_lt, len_toInt q]; show ¬ ((i : Int) < 0); omega
  obtain ⟨ka, VA⟩ := A.arv hf (d := .int 0)
  obtain ⟨kb, VB⟩ := B.arv hf' (d := .int 0)
  have hsp31 : sp' < 2 ^ 31 := by omega
  subst hsp
  obtain ⟨T', h', L, X', e', N', K', V', st⟩ := cpA X hx hZ hown w1 w2 w3 w4 eT VA VB (sp := Int32.ofNat sp') (dp := 0) (nn := Int32.ofNat nn) (Or.inl ⟨rfl, rfl⟩) (neg hsp31) (by decide) (neg qB) (by rw [nat hsp31, nat qB, nat qA]; exact hle) (by rw [nat qB]; show 0 + nn ≤ nn; omega) rfl (by rw [nat qB]; simp) N ge hg hsize hs hd hfr hW hlo
  refine ⟨T', h', L, X', e', N', K', ?_, st⟩
  obtain ⟨cl, A2, -, S2, -, H2, -⟩ := V'
  rw [nat qB] at S2
  refine ⟨qB, cl, A2, S2, fun i hi => ?_⟩
  rw [H2 i (by rw [S2]; exact hi)]
  congr 1
  rw [nat qB, nat hsp31]
  have e0 : (0 : Int32).toNatClampNeg = 0 := rfl
  rw [e0, List.getD_eq_getElem?_getD]
  simp [hi, show sp' + i < n by omega]
end AVstr
theorem own_safeNull {Z : State} {EL : List (String × Nat)} {vm : Vm} {h : Heap} {x : Addr} (hal : Z.vm.Alike vm) (E : Exa Z h x "java/lang/String") (F : Fld Z h x "java/lang/String" "value" "[B" .null) : Safe Z EL vm h x := fun B => by
  obtain ⟨p, -, u, a, -, q, -, S, rfl | rfl⟩ := B
  · obtain ⟨cS, ⟨⟨s1, s2, s3, ⟨cv, kv, iv, s4, s4'⟩, ⟨cc, kc, ic, s5, s5'⟩, s6, s7, s8, s9, s10, s11, s12, s13, s14, s15, s16⟩, hfS, hcS⟩, -⟩ := S
    obtain ⟨kv', z4⟩ := ff_back (U := Wst Z vm h) hal s4
    have G : Fld Z h q.sa "java/lang/String" "value" "[B" (.ref q.sd) := ⟨q.sC, cv, kv', iv, q.fSV, s1, z4, s6, s2, s3, by rw [← hal.assignable]; exact s4', s8⟩
    exact Fld.ne F G (by simp) rfl
  · obtain ⟨cell, k, e1, e2, e3, -, -⟩ := E
    cases (show h[q.sd]? = some q.SA from S.hd).symm.trans e1
    obtain ⟨cS, -, -, f, -⟩ := S
    have f' : vm.findClass "[B" = some q.SA.cls := f
    rw [hal.findClass] at f'
    obtain ⟨k1, q1, q2⟩ := Vm.findClass_spec f'
    obtain ⟨k2, q3, q4⟩ := Vm.findClass_spec e2
    cases q1.symm.trans q3
    exact absurd (q2.symm.trans q4) (by decide)
theorem Go.finW {p : Program} {l : Launch} {e : Env} {R : Room} {s : State} {m : MethodId} {args : Array Value} {below : List Frame} {meth : Method} {c : Code} {T : State} {locs : List Loc} {cells slots K N : Nat} {Z : State} {EL : List (String × Nat)} {h h0 : Heap} {a0 : Array Value} {vm₁ : Vm}
    (X : Stand p l e R (s.setVm vm₁) m args below meth c T locs cells slots) {n : Nat} (hS : s.Since vm₁ n) (eT : T.heap = h) (hnn : n ≤ h.size) (hlk : meth.locks = false) {v : Option Value} (hv : meth.sig.returnType = none → v = none) {Q : Option Value → Heap → List Loc → Prop} {g : JFrame}
    (st : ∀ fs, (∀ (f : JFrame) (acts : List Action), f.method = m → f.locked = none → f.entered = [] → (doReturn e (T.setTop f) acts v).1 = T.setFrames fs) → Steps p.tables e below (T.setTop g) (T.setFrames fs))
    (hk : cells ≤ K) (hn : slots ≤ N) (hh : s.heap = h0) (hZ : Z.Warmed39 vm₁) (w : EW Z a0 EL) (CR : CHr Z EL s.vm h0 vm₁ h) (hq : Q v h locs) : Go p e below (fun o u => ∃ v L, o = .returned v ∧ Q v u.heap L ∧ CHr Z EL s.vm s.heap u.vm u.heap ∧ ReturnedEndW s o u L K N) (T.setTop g) := by
  subst eT
  obtain ⟨fs, hr, hrun, hended, h1, h2, h3, h4⟩ := X.leaveW hS hnn (v := v) hv hlk
  refine ⟨_, _, st fs hr, hrun, hended, _, _, rfl, hq, ?_, h1, h2, h3, h4.mono hk hn⟩
  rw [hh]
  exact CR.trans (show CHr Z EL vm₁ T.heap T.vm T.heap from CHv.at X hZ w CR.1)

def own_sh (f : Nat → Int32) (i : Nat) : Nat → Int32 := fun k => f (i + k)
def own_EL : List (String × Nat) := [("java/lang/String", 7), ("java/lang/StringLatin1", 151), ("com/example/bindery/bindery/compiler/JavaTypeOuterNamePinLaw", 18), ("com/example/bindery/bindery/compiler/JavaTypeOuterNamePinLaw", 20)]
theorem own_EW {Z : State} {a0 : Array Value} (hw : HW a0 Z) : EW Z a0 own_EL := (EW.cons (wq hw 22 rfl) (by decide) (EW.cons (wq hw 166 rfl) (by decide) (EW.cons (wq hw 165 rfl) (by decide) (EW.cons (wq hw 30 rfl) (by decide) EW.nil))))
def own_ch (x : Int32) : Prop := ∃ u : Fin 256, x = Int32.ofNat u
theorem own_msk (x m : Int32) (k : Nat) (hk : k < 32) (hm : m.toBitVec.toNat = 2 ^ k - 1) : 0 ≤ (x &&& m).toInt ∧ (x &&& m).toInt < 2 ^ k := by
  have e : (x &&& m).toBitVec.toNat = x.toBitVec.toNat % 2 ^ k := by
    show (x.toBitVec &&& m.toBitVec).toNat = _
    rw [BitVec.toNat_and, hm, Nat.and_two_pow_sub_one_eq_mod]
  have l : (x &&& m).toBitVec.toNat < 2 ^ k := by rw [e]; exact Nat.mod_lt _ (Nat.pow_pos (by decide))
  have l31 : (2 : Nat) ^ k ≤ 2 ^ 31 := Nat.pow_le_pow_right (by decide) (by omega)
  have i : (x &&& m).toInt = ((x &&& m).toBitVec.toNat : Int) := by
    show (x &&& m).toBitVec.toInt = _
    exact BitVec.toInt_eq_toNat_of_lt (by omega)
  have c : (((2 : Nat) ^ k : Nat) : Int) = (2 : Int) ^ k := by simp
  rw [i]; omega
theorem own_and255 (a : Int32) : ∃ u : Fin 256, a &&& 255 = Int32.ofNat u := by
  have e := own_msk a 255 8 (by decide) (by decide)
  refine ⟨⟨(a &&& 255).toInt.toNat, by omega⟩, Int32.toInt_inj.mp ?_⟩
  rw [len_toInt (by show (a &&& 255).toInt.toNat < 2 ^ 31; omega)]
  show (a &&& 255).toInt = ((a &&& 255).toInt.toNat : Int)
  omega
theorem own_hch {x : Int32} (h : own_ch x) : ¬ (255 : Int32) < nar .char x := by
  obtain ⟨u, rfl⟩ := h; revert u; decide +kernel
theorem own_ndot {x : Int32} (h : own_ch x) (q : ¬ x = 46) : ¬ nar .byte ((nar .char x).toInt8.toInt32) = ((46 : Int32).toInt8.toInt32) := by
  obtain ⟨u, rfl⟩ := h; revert u; decide +kernel
theorem own_dot {x : Int32} (q : x = 46) : nar .byte ((nar .char x).toInt8.toInt32) = ((46 : Int32).toInt8.toInt32) := by subst q; decide
theorem own_rt {x : Int32} (h : own_ch x) : nar .char (nar .char ((nar .byte ((nar .char x).toInt8.toInt32) &&& 255).toUInt32.toUInt16.toUInt32.toInt32)) = nar .char x := by
  obtain ⟨u, rfl⟩ := h; revert u; decide +kernel
theorem own_idc {x : Int32} (h : own_ch x) : nar .char x = x := by
  obtain ⟨u, rfl⟩ := h; revert u; decide +kernel
theorem own_idc2 (a : Int32) : own_ch (nar .char ((a &&& 255).toUInt32.toUInt16.toUInt32.toInt32)) := by
  obtain ⟨u, q⟩ := own_and255 a; rw [q]; clear q; exact ⟨u, by revert u; decide +kernel⟩
theorem own_mod5 (x : Int32) : (x &&& 2147483647) % 5 = 0 ∨ (x &&& 2147483647) % 5 = 1 ∨ (x &&& 2147483647) % 5 = 2 ∨ (x &&& 2147483647) % 5 = 3 ∨ (x &&& 2147483647) % 5 = 4 := by
  have e := own_msk x 2147483647 31 (by decide) (by decide)
  have r : ((x &&& 2147483647) % 5).toInt = (x &&& 2147483647).toInt % (5 : Int32).toInt := by rw [Int32.toInt_mod, Int.tmod_eq_emod_of_nonneg e.1]
  have f : (5 : Int32).toInt = 5 := rfl
  rw [f] at r
  have : ((x &&& 2147483647) % 5).toInt = 0 ∨ ((x &&& 2147483647) % 5).toInt = 1 ∨ ((x &&& 2147483647) % 5).toInt = 2 ∨ ((x &&& 2147483647) % 5).toInt = 3 ∨ ((x &&& 2147483647) % 5).toInt = 4 := by omega
  rcases this with q | q | q | q | q
  · left; exact Int32.toInt_inj.mp q
  · right; left; exact Int32.toInt_inj.mp q
  · right; right; left; exact Int32.toInt_inj.mp q
  · right; right; right; left; exact Int32.toInt_inj.mp q
  · right; right; right; right; exact Int32.toInt_inj.mp q

theorem own_rt2 {x y : Int32} (h : own_ch x) (q : y = nar .byte ((nar .char x).toInt8.toInt32)) : nar .char (nar .char ((y &&& 255).toUInt32.toUInt16.toUInt32.toInt32)) = x := by
  rw [q, own_rt h]; exact own_idc h
theorem d15_0 : decode B15 0 = .ok (.getstatic 38, 3) := by decide +kernel
theorem d15_3 : decode B15 3 = .ok (.ifCond .eq 10, 3) := by decide +kernel
theorem d15_6 : decode B15 6 = .ok (.aload_n 0, 1) := by decide +kernel
theorem d15_7 : decode B15 7 = .ok (.getfield 15, 3) := by decide +kernel
theorem d15_10 : decode B15 10 = .ok (.goto 4, 3) := by decide +kernel
theorem d15_14 : decode B15 14 = .ok (.ireturn, 1) := by decide +kernel
def f15 (o0 : Addr) (cs : Int32) : Int32 := (nar .byte (0 : Int32))
def Q15 (o0 : Addr) (cs : Int32) (h0 : Heap) (n0 : Nat) (v : Option Value) (h : Heap) (L : List Loc) : Prop := v = some (.int (f15 o0 cs)) ∧ Fr n0 L ∧ h = h0
abbrev RM_0_0_0_0 : Room := { frames := 0, cells := 0, slots := 0, locals := 0 }
theorem pn_0 : plainName "java/lang/String" = true := by first | (simp [plainName, overriddenIn]; done) | decide +kernel
theorem ef_15_a (m : MethodId) (x0 : Addr) : entryFrame m #[(.ref x0)] 1 = mkF m 0 #[.val (.ref x0)] [] := by first | (simp [entryFrame, mkF, argsToLocals, Value.category]; done) | rfl
theorem rm15 (l : Launch) (Z : State) (a0 : Array Value) (hw : HW a0 Z) (ws : List Jvm.Cond) (o0 : Addr) (cs : Int32) (h0 : Heap) (n0 : Nat) (Z0 : n0 ≤ h0.size) (ha0 : Fld Z h0 o0 "java/lang/String" "coder" "B" (.int 0)) (ha1 : Sta Z h0 "java/lang/String" "COMPACT_STRINGS" "Z" (.int cs)) (hcs : ¬ cs = 0) :
    MetFree l y15 (head1 (Jvm.Cond.code y15 jdk_42_method_152_code 1 (some .byte) :: ws) RM_0_0_0_0) (fun a U => a = #[(.ref o0)] ∧ Z.Warmed39 U.vm ∧ U.heap = h0) (fun _ _ _ _ _ => True) (fun _ U o U' => ∃ v L, o = .returned v ∧ Q15 o0 cs h0 n0 v U'.heap L ∧ FrameEnd U o U' L RM_0_0_0_0.cells RM_0_0_0_0.slots) := by
  refine MetFree.of_bodySF (plainFor_of_name pn_0) hisR ?_
  intro p e s m args below meth c s₁ Bd hml0 hP hK
  obtain ⟨rfl, hZ, hh⟩ := hP
  have hx := Bd.exec
  have hby := Bd.bytes
  have hml : c.maxLocals = 1 := hml0
  have hown : s.vm.findClass "java/lang/String" = some m.cls := findClass_of_methodNamed Bd.named
  have X0 : Stand p l e RM_0_0_0_0 s m _ below meth c s₁ [] 0 0 := Stand.of_body Bd
  have e0 : s₁.heap = h0 := by rw [← hh, Bd.state]; rfl
  have N0 := Fr.nil n0
  refine Go.into (P := fun oo uu => ∃ v L, oo = .returned v ∧ Q15 o0 cs h0 n0 v uu.heap L ∧ FrameEnd s oo uu L RM_0_0_0_0.cells RM_0_0_0_0.slots) (ef_15_a m o0) ?_
  show Go p e below _ (s₁.setTop (mkF m 0 #[sR o0] []))
  obtain ⟨T1, X1, e1, st1⟩ := getS2 X0 hx hZ hown (host := "") (Or.inl (wq hw 77 rfl)) Via.refl e0 ha1 (g := (mkF m 0 #[sR o0] [])) rfl (hb hby d15_0)
  refine Go.via st1 ?_
  refine Vi (T1.setTop (mkF m 7 #[sR o0] [(.ref o0)])) (fun tZ kZ => ?_) ?_
  · refine XS.ifNo X1.here hx rfl (hb hby d15_3) rfl ((if0 _ _).trans (feq hcs).1) ?_
    refine XS.aloadN X1.here hx rfl (hb hby d15_6) rfl rfl ?_
    exact kZ
  obtain ⟨T2, X2, e2, st2⟩ := getF X1 hx hZ hown (host := "") (Or.inl (wq hw 29 rfl)) Via.refl e1 ha0 (g := (mkF m 7 #[sR o0] [(.ref o0)])) rfl rfl (hb hby d15_7)
  refine Go.via st2 ?_
  refine Vi (T2.setTop (mkF m 14 #[sR o0] [(.int 0)])) (fun tZ kZ => ?_) ?_
  · refine XS.goto X2.here hx rfl (pc0 := 10) (pc' := 14) rfl (hb hby d15_10) (by decide) (by decide) ?_
    exact kZ
  refine Go.retN X2 hx Bd.notSynchronized (t := .byte) Bd.returns (by simp) (hb hby d15_14) (by decide) (by decide) ?_
  refine ⟨?_, N0, e2⟩
  show some ((Value.int (nar .byte (0 : Int32))) : Value) = some (.int (f15 o0 cs))
  rfl
theorem d13_0 : decode B13 0 = .ok (.getstatic 38, 3) := by decide +kernel
theorem d13_3 : decode B13 3 = .ok (.ifCond .eq 14, 3) := by decide +kernel
theorem d13_6 : decode B13 6 = .ok (.aload_n 0, 1) := by decide +kernel
theorem d13_7 : decode B13 7 = .ok (.getfield 15, 3) := by decide +kernel
theorem d13_10 : decode B13 10 = .ok (.ifCond .ne 7, 3) := by decide +kernel
theorem d13_13 : decode B13 13 = .ok (.iconst 1, 1) := by decide +kernel
theorem d13_14 : decode B13 14 = .ok (.goto 4, 3) := by decide +kernel
theorem d13_18 : decode B13 18 = .ok (.ireturn, 1) := by decide +kernel
def f13 (o0 : Addr) (cs : Int32) : Int32 := (1 : Int32)
def Q13 (o0 : Addr) (cs : Int32) (h0 : Heap) (n0 : Nat) (v : Option Value) (h : Heap) (L : List Loc) : Prop := v = some (.int (f13 o0 cs)) ∧ Fr n0 L ∧ h = h0
theorem ef_13_a (m : MethodId) (x0 : Addr) : entryFrame m #[(.ref x0)] 1 = mkF m 0 #[.val (.ref x0)] [] := by first | (simp [entryFrame, mkF, argsToLocals, Value.category]; done) | rfl
theorem rm13 (l : Launch) (Z : State) (a0 : Array Value) (hw : HW a0 Z) (ws : List Jvm.Cond) (o0 : Addr) (cs : Int32) (h0 : Heap) (n0 : Nat) (Z0 : n0 ≤ h0.size) (ha0 : Fld Z h0 o0 "java/lang/String" "coder" "B" (.int 0)) (ha1 : Sta Z h0 "java/lang/String" "COMPACT_STRINGS" "Z" (.int cs)) (hcs : ¬ cs = 0) :
    MetFree l y13 (head1 (Jvm.Cond.code y13 jdk_42_method_154_code 1 (some .boolean) :: ws) RM_0_0_0_0) (fun a U => a = #[(.ref o0)] ∧ Z.Warmed39 U.vm ∧ U.heap = h0) (fun _ _ _ _ _ => True) (fun _ U o U' => ∃ v L, o = .returned v ∧ Q13 o0 cs h0 n0 v U'.heap L ∧ FrameEnd U o U' L RM_0_0_0_0.cells RM_0_0_0_0.slots) := by
  refine MetFree.of_bodySF (plainFor_of_name pn_0) hisR ?_
  intro p e s m args below meth c s₁ Bd hml0 hP hK
  obtain ⟨rfl, hZ, hh⟩ := hP
  have hx := Bd.exec
  have hby := Bd.bytes
  have hml : c.maxLocals = 1 := hml0
  have hown : s.vm.findClass "java/lang/String" = some m.cls := findClass_of_methodNamed Bd.named
  have X0 : Stand p l e RM_0_0_0_0 s m _ below meth c s₁ [] 0 0 := Stand.of_body Bd
  have e0 : s₁.heap = h0 := by rw [← hh, Bd.state]; rfl
  have N0 := Fr.nil n0
  refine Go.into (P := fun oo uu => ∃ v L, oo = .returned v ∧ Q13 o0 cs h0 n0 v uu.heap L ∧ FrameEnd s oo uu L RM_0_0_0_0.cells RM_0_0_0_0.slots) (ef_13_a m o0) ?_
  show Go p e below _ (s₁.setTop (mkF m 0 #[sR o0] []))
  obtain ⟨T1, X1, e1, st1⟩ := getS2 X0 hx hZ hown (host := "") (Or.inl (wq hw 77 rfl)) Via.refl e0 ha1 (g := (mkF m 0 #[sR o0] [])) rfl (hb hby d13_0)
  refine Go.via st1 ?_
  refine Vi (T1.setTop (mkF m 7 #[sR o0] [(.ref o0)])) (fun tZ kZ => ?_) ?_
  · refine XS.ifNo X1.here hx rfl (hb hby d13_3) rfl ((if0 _ _).trans (feq hcs).1) ?_
    refine XS.aloadN X1.here hx rfl (hb hby d13_6) rfl rfl ?_
    exact kZ
  obtain ⟨T2, X2, e2, st2⟩ := getF X1 hx hZ hown (host := "") (Or.inl (wq hw 29 rfl)) Via.refl e1 ha0 (g := (mkF m 7 #[sR o0] [(.ref o0)])) rfl rfl (hb hby d13_7)
  refine Go.via st2 ?_
  refine Vi (T2.setTop (mkF m 18 #[sR o0] [(.int 1)])) (fun tZ kZ => ?_) ?_
  · refine XS.ifNo X2.here hx rfl (hb hby d13_10) rfl ((if0 _ _).trans (teq (by decide)).2) ?_
    refine XS.iconst X2.here hx rfl (hb hby d13_13) ?_
    refine XS.goto X2.here hx rfl (pc0 := 14) (pc' := 18) rfl (hb hby d13_14) (by decide) (by decide) ?_
    exact kZ
  refine Go.retN X2 hx Bd.notSynchronized (t := .boolean) Bd.returns (by simp) (hb hby d13_18) (by decide) (by decide) ?_
  refine ⟨?_, N0, e2⟩
  show some ((Value.int (nar .boolean (1 : Int32))) : Value) = some (.int (f13 o0 cs))
  rfl
theorem d17_0 : decode B17 0 = .ok (.iload_n 0, 1) := by decide +kernel
theorem d17_1 : decode B17 1 = .ok (.ifCond .lt 14, 3) := by decide +kernel
theorem d17_15 : decode B17 15 = .ok (.iconst 0, 1) := by decide +kernel
theorem d17_4 : decode B17 4 = .ok (.iload_n 0, 1) := by decide +kernel
theorem d17_5 : decode B17 5 = .ok (.sipush 255, 3) := by decide +kernel
theorem d17_8 : decode B17 8 = .ok (.if_icmp .gt 7, 3) := by decide +kernel
theorem d17_11 : decode B17 11 = .ok (.iconst 1, 1) := by decide +kernel
theorem d17_12 : decode B17 12 = .ok (.goto 4, 3) := by decide +kernel
def w17_0 (p0 : Int32) : Int32 := (if p0 < (0 : Int32) then (0 : Int32) else (if (255 : Int32) < p0 then (0 : Int32) else (1 : Int32)))
theorem d17_16 : decode B17 16 = .ok (.ireturn, 1) := by decide +kernel
def f17 (p0 : Int32) : Int32 := (nar .boolean (w17_0 p0))
def Q17 (p0 : Int32) (h0 : Heap) (n0 : Nat) (v : Option Value) (h : Heap) (L : List Loc) : Prop := v = some (.int (f17 p0)) ∧ Fr n0 L ∧ h = h0
theorem pn_1 : plainName "java/lang/StringLatin1" = true := by first | (simp [plainName, overriddenIn]; done) | decide +kernel
theorem ef_17_a (m : MethodId) (x0 : Int32) : entryFrame m #[(.int x0)] 1 = mkF m 0 #[.val (.int x0)] [] := by first | (simp [entryFrame, mkF, argsToLocals, Value.category]; done) | rfl
theorem rm17 (l : Launch) (Z : State) (a0 : Array Value) (hw : HW a0 Z) (ws : List Jvm.Cond) (p0 : Int32) (h0 : Heap) (n0 : Nat) (Z0 : n0 ≤ h0.size) :
    MetFree l y17 (head1 (Jvm.Cond.code y17 jdk_43_method_4_code 1 (some .boolean) :: ws) RM_0_0_0_0) (fun a U => a = #[(.int p0)] ∧ Z.Warmed39 U.vm ∧ U.heap = h0) (fun _ _ _ _ _ => True) (fun _ U o U' => ∃ v L, o = .returned v ∧ Q17 p0 h0 n0 v U'.heap L ∧ FrameEnd U o U' L RM_0_0_0_0.cells RM_0_0_0_0.slots) := by
  refine MetFree.of_bodySF (plainFor_of_name pn_1) hisR ?_
  intro p e s m args below meth c s₁ Bd hml0 hP hK
  obtain ⟨rfl, hZ, hh⟩ := hP
  have hx := Bd.exec
  have hby := Bd.bytes
  have hml : c.maxLocals = 1 := hml0
  have hown : s.vm.findClass "java/lang/StringLatin1" = some m.cls := findClass_of_methodNamed Bd.named
  have X0 : Stand p l e RM_0_0_0_0 s m _ below meth c s₁ [] 0 0 := Stand.of_body Bd
  have e0 : s₁.heap = h0 := by rw [← hh, Bd.state]; rfl
  have N0 := Fr.nil n0
  refine Go.into (P := fun oo uu => ∃ v L, oo = .returned v ∧ Q17 p0 h0 n0 v uu.heap L ∧ FrameEnd s oo uu L RM_0_0_0_0.cells RM_0_0_0_0.slots) (ef_17_a m p0) ?_
  show Go p e below _ (s₁.setTop (mkF m 0 #[sI p0] []))
  refine Vi (s₁.setTop (mkF m 16 #[sI p0] [(.int (w17_0 p0))])) (fun tZ kZ => ?_) ?_
  · refine XS.iloadN X0.here hx rfl (hb hby d17_0) rfl ?_
    have sg1 : Steps p.tables e below (s₁.setTop (mkF m 16 #[sI p0] [(.int (if p0 < (0 : Int32) then (0 : Int32) else (if (255 : Int32) < p0 then (0 : Int32) else (1 : Int32))))])) tZ → Steps p.tables e below (s₁.setTop (mkF m 1 #[sI p0] [(.int p0)])) tZ := by
      intro kj
      by_cases hc1 : p0 < (0 : Int32)
      · try simp only [if_pos hc1] at kj
        refine XS.ifYes X0.here hx rfl (pc0 := 1) (pc' := 15) rfl (hb hby d17_1) rfl ((if0 _ _).trans (tlt hc1).1) (by decide) (by decide) ?_
        refine XS.iconst X0.here hx rfl (hb hby d17_15) ?_
        exact kj
      · try simp only [if_neg hc1] at kj
        refine XS.ifNo X0.here hx rfl (hb hby d17_1) rfl ((if0 _ _).trans (flt hc1).1) ?_
        refine XS.iloadN X0.here hx rfl (hb hby d17_4) rfl ?_
        refine XS.sipush X0.here hx rfl (hb hby d17_5) ?_
        have sg8 : Steps p.tables e below (s₁.setTop (mkF m 16 #[sI p0] [(.int (if (255 : Int32) < p0 then (0 : Int32) else (1 : Int32)))])) tZ → Steps p.tables e below (s₁.setTop (mkF m 8 #[sI p0] [(.int 255), (.int p0)])) tZ := by
          intro kj
          by_cases hc8 : (255 : Int32) < p0
          · try simp only [if_pos hc8] at kj
            refine XS.icmpYes X0.here hx rfl (pc0 := 8) (pc' := 15) rfl (hb hby d17_8) rfl (tlt hc8).2.2.1 (by decide) (by decide) ?_
            refine XS.iconst X0.here hx rfl (hb hby d17_15) ?_
            exact kj
          · try simp only [if_neg hc8] at kj
            refine XS.icmpNo X0.here hx rfl (hb hby d17_8) rfl (flt hc8).2.2.1 ?_
            refine XS.iconst X0.here hx rfl (hb hby d17_11) ?_
            refine XS.goto X0.here hx rfl (pc0 := 12) (pc' := 16) rfl (hb hby d17_12) (by decide) (by decide) ?_
            exact kj
        refine sg8 ?_
        show Steps p.tables e below (s₁.setTop (mkF m 16 #[sI p0] [(.int (if (255 : Int32) < p0 then (0 : Int32) else (1 : Int32)))])) _
        exact kj
    refine sg1 ?_
    show Steps p.tables e below (s₁.setTop (mkF m 16 #[sI p0] [(.int (w17_0 p0))])) _
    exact kZ
  refine Go.retN X0 hx Bd.notSynchronized (t := .boolean) Bd.returns (by simp) (hb hby d17_16) (by decide) (by decide) ?_
  refine ⟨?_, N0, e0⟩
  show some ((Value.int (nar .boolean (w17_0 p0))) : Value) = some (.int (f17 p0))
  rfl
theorem d19_0 : decode B19 0 = .ok (.iload_n 0, 1) := by decide +kernel
theorem d19_1 : decode B19 1 = .ok (.iload_n 1, 1) := by decide +kernel
theorem d19_2 : decode B19 2 = .ok (.if_icmp .gt 7, 3) := by decide +kernel
theorem d19_9 : decode B19 9 = .ok (.iload_n 1, 1) := by decide +kernel
theorem d19_5 : decode B19 5 = .ok (.iload_n 0, 1) := by decide +kernel
theorem d19_6 : decode B19 6 = .ok (.goto 4, 3) := by decide +kernel
theorem d19_10 : decode B19 10 = .ok (.ireturn, 1) := by decide +kernel
def f19 (p0 : Int32) (p1 : Int32) : Int32 := (if p1 < p0 then p1 else p0)
def Q19 (p0 : Int32) (p1 : Int32) (h0 : Heap) (n0 : Nat) (v : Option Value) (h : Heap) (L : List Loc) : Prop := v = some (.int (f19 p0 p1)) ∧ Fr n0 L ∧ h = h0
theorem ef_19_aa (m : MethodId) (x0 : Int32) (x1 : Int32) : entryFrame m #[(.int x0), (.int x1)] 2 = mkF m 0 #[.val (.int x0), .val (.int x1)] [] := by first | (simp [entryFrame, mkF, argsToLocals, Value.category]; done) | rfl
theorem rm19 (l : Launch) (Z : State) (a0 : Array Value) (hw : HW a0 Z) (ws : List Jvm.Cond) (p0 : Int32) (p1 : Int32) (h0 : Heap) (n0 : Nat) (Z0 : n0 ≤ h0.size) :
    MetFree l y19 (head1 (Jvm.Cond.code y19 jdk_29_method_69_code 2 (some .int) :: ws) RM_0_0_0_0) (fun a U => a = #[(.int p0), (.int p1)] ∧ Z.Warmed39 U.vm ∧ U.heap = h0) (fun _ _ _ _ _ => True) (fun _ U o U' => ∃ v L, o = .returned v ∧ Q19 p0 p1 h0 n0 v U'.heap L ∧ FrameEnd U o U' L RM_0_0_0_0.cells RM_0_0_0_0.slots) := by
  refine MetFree.of_bodySF (Jvm.Free.JP.mathPlain rfl (by decide +kernel)) hisR ?_
  intro p e s m args below meth c s₁ Bd hml0 hP hK
  obtain ⟨rfl, hZ, hh⟩ := hP
  have hx := Bd.exec
  have hby := Bd.bytes
  have hml : c.maxLocals = 2 := hml0
  have hown : s.vm.findClass "java/lang/Math" = some m.cls := findClass_of_methodNamed Bd.named
  have X0 : Stand p l e RM_0_0_0_0 s m _ below meth c s₁ [] 0 0 := Stand.of_body Bd
  have e0 : s₁.heap = h0 := by rw [← hh, Bd.state]; rfl
  have N0 := Fr.nil n0
  refine Go.into (P := fun oo uu => ∃ v L, oo = .returned v ∧ Q19 p0 p1 h0 n0 v uu.heap L ∧ FrameEnd s oo uu L RM_0_0_0_0.cells RM_0_0_0_0.slots) (ef_19_aa m p0 p1) ?_
  show Go p e below _ (s₁.setTop (mkF m 0 #[sI p0, sI p1] []))
  refine Vi (s₁.setTop (mkF m 10 #[sI p0, sI p1] [(.int (if p1 < p0 then p1 else p0))])) (fun tZ kZ => ?_) ?_
  · refine XS.iloadN X0.here hx rfl (hb hby d19_0) rfl ?_
    refine XS.iloadN X0.here hx rfl (hb hby d19_1) rfl ?_
    have sg2 : Steps p.tables e below (s₁.setTop (mkF m 10 #[sI p0, sI p1] [(.int (if p1 < p0 then p1 else p0))])) tZ → Steps p.tables e below (s₁.setTop (mkF m 2 #[sI p0, sI p1] [(.int p1), (.int p0)])) tZ := by
      intro kj
      by_cases hc2 : p1 < p0
      · try simp only [if_pos hc2] at kj
        refine XS.icmpYes X0.here hx rfl (pc0 := 2) (pc' := 9) rfl (hb hby d19_2) rfl (tlt hc2).2.2.1 (by decide) (by decide) ?_
        refine XS.iloadN X0.here hx rfl (hb hby d19_9) rfl ?_
        exact kj
      · try simp only [if_neg hc2] at kj
        refine XS.icmpNo X0.here hx rfl (hb hby d19_2) rfl (flt hc2).2.2.1 ?_
        refine XS.iloadN X0.here hx rfl (hb hby d19_5) rfl ?_
        refine XS.goto X0.here hx rfl (pc0 := 6) (pc' := 10) rfl (hb hby d19_6) (by decide) (by decide) ?_
        exact kj
    refine sg2 ?_
    show Steps p.tables e below (s₁.setTop (mkF m 10 #[sI p0, sI p1] [(.int (if p1 < p0 then p1 else p0))])) _
    exact kZ
  refine Go.retI X0 hx Bd.notSynchronized Bd.returns (hb hby d19_10) (by decide) (by decide) ?_
  refine ⟨?_, N0, e0⟩
  show some ((.int (if p1 < p0 then p1 else p0)) : Value) = some (.int (f19 p0 p1))
  rfl
theorem d18_0 : decode B18 0 = .ok (.iload_n 0, 1) := by decide +kernel
theorem d18_1 : decode B18 1 = .ok (.iload_n 1, 1) := by decide +kernel
theorem d18_2 : decode B18 2 = .ok (.if_icmp .lt 7, 3) := by decide +kernel
theorem d18_9 : decode B18 9 = .ok (.iload_n 1, 1) := by decide +kernel
theorem d18_5 : decode B18 5 = .ok (.iload_n 0, 1) := by decide +kernel
theorem d18_6 : decode B18 6 = .ok (.goto 4, 3) := by decide +kernel
theorem d18_10 : decode B18 10 = .ok (.ireturn, 1) := by decide +kernel
def f18 (p0 : Int32) (p1 : Int32) : Int32 := (if p0 < p1 then p1 else p0)
def Q18 (p0 : Int32) (p1 : Int32) (h0 : Heap) (n0 : Nat) (v : Option Value) (h : Heap) (L : List Loc) : Prop := v = some (.int (f18 p0 p1)) ∧ Fr n0 L ∧ h = h0
theorem ef_18_aa (m : MethodId) (x0 : Int32) (x1 : Int32) : entryFrame m #[(.int x0), (.int x1)] 2 = mkF m 0 #[.val (.int x0), .val (.int x1)] [] := by first | (simp [entryFrame, mkF, argsToLocals, Value.category]; done) | rfl
theorem rm18 (l : Launch) (Z : State) (a0 : Array Value) (hw : HW a0 Z) (ws : List Jvm.Cond) (p0 : Int32) (p1 : Int32) (h0 : Heap) (n0 : Nat) (Z0 : n0 ≤ h0.size) :
    MetFree l y18 (head1 (Jvm.Cond.code y18 jdk_29_method_65_code 2 (some .int) :: ws) RM_0_0_0_0) (fun a U => a = #[(.int p0), (.int p1)] ∧ Z.Warmed39 U.vm ∧ U.heap = h0) (fun _ _ _ _ _ => True) (fun _ U o U' => ∃ v L, o = .returned v ∧ Q18 p0 p1 h0 n0 v U'.heap L ∧ FrameEnd U o U' L RM_0_0_0_0.cells RM_0_0_0_0.slots) := by
  refine MetFree.of_bodySF (Jvm.Free.JP.mathPlain rfl (by decide +kernel)) hisR ?_
  intro p e s m args below meth c s₁ Bd hml0 hP hK
  obtain ⟨rfl, hZ, hh⟩ := hP
  have hx := Bd.exec
  have hby := Bd.bytes
  have hml : c.maxLocals = 2 := hml0
  have hown : s.vm.findClass "java/lang/Math" = some m.cls := findClass_of_methodNamed Bd.named
  have X0 : Stand p l e RM_0_0_0_0 s m _ below meth c s₁ [] 0 0 := Stand.of_body Bd
  have e0 : s₁.heap = h0 := by rw [← hh, Bd.state]; rfl
  have N0 := Fr.nil n0
  refine Go.into (P := fun oo uu => ∃ v L, oo = .returned v ∧ Q18 p0 p1 h0 n0 v uu.heap L ∧ FrameEnd s oo uu L RM_0_0_0_0.cells RM_0_0_0_0.slots) (ef_18_aa m p0 p1) ?_
  show Go p e below _ (s₁.setTop (mkF m 0 #[sI p0, sI p1] []))
  refine Vi (s₁.setTop (mkF m 10 #[sI p0, sI p1] [(.int (if p0 < p1 then p1 else p0))])) (fun tZ kZ => ?_) ?_
  · refine XS.iloadN X0.here hx rfl (hb hby d18_0) rfl ?_
    refine XS.iloadN X0.here hx rfl (hb hby d18_1) rfl ?_
    have sg2 : Steps p.tables e below (s₁.setTop (mkF m 10 #[sI p0, sI p1] [(.int (if p0 < p1 then p1 else p0))])) tZ → Steps p.tables e below (s₁.setTop (mkF m 2 #[sI p0, sI p1] [(.int p1), (.int p0)])) tZ := by
      intro kj
      by_cases hc2 : p0 < p1
      · try simp only [if_pos hc2] at kj
        refine XS.icmpYes X0.here hx rfl (pc0 := 2) (pc' := 9) rfl (hb hby d18_2) rfl (tlt hc2).1 (by decide) (by decide) ?_
        refine XS.iloadN X0.here hx rfl (hb hby d18_9) rfl ?_
        exact kj
      · try simp only [if_neg hc2] at kj
        refine XS.icmpNo X0.here hx rfl (hb hby d18_2) rfl (flt hc2).1 ?_
        refine XS.iloadN X0.here hx rfl (hb hby d18_5) rfl ?_
        refine XS.goto X0.here hx rfl (pc0 := 6) (pc' := 10) rfl (hb hby d18_6) (by decide) (by decide) ?_
        exact kj
    refine sg2 ?_
    show Steps p.tables e below (s₁.setTop (mkF m 10 #[sI p0, sI p1] [(.int (if p0 < p1 then p1 else p0))])) _
    exact kZ
  refine Go.retI X0 hx Bd.notSynchronized Bd.returns (hb hby d18_10) (by decide) (by decide) ?_
  refine ⟨?_, N0, e0⟩
  show some ((.int (if p0 < p1 then p1 else p0)) : Value) = some (.int (f18 p0 p1))
  rfl
theorem d26_0 : decode B26 0 = .ok (.iload_n 0, 1) := by decide +kernel
theorem d26_1 : decode B26 1 = .ok (.ifCond .lt 13, 3) := by decide +kernel
theorem d26_4 : decode B26 4 = .ok (.iload_n 0, 1) := by decide +kernel
theorem d26_5 : decode B26 5 = .ok (.iload_n 1, 1) := by decide +kernel
theorem d26_6 : decode B26 6 = .ok (.if_icmp .gt 8, 3) := by decide +kernel
theorem d26_9 : decode B26 9 = .ok (.iload_n 1, 1) := by decide +kernel
theorem d26_10 : decode B26 10 = .ok (.iload_n 2, 1) := by decide +kernel
theorem d26_11 : decode B26 11 = .ok (.if_icmp .le 11, 3) := by decide +kernel
theorem d26_22 : decode B26 22 = .ok (.iload_n 0, 1) := by decide +kernel
theorem d26_23 : decode B26 23 = .ok (.ireturn, 1) := by decide +kernel
def Q26n (Z : State) (p0 : Int32) (p1 : Int32) (p2 : Int32) (h0 : Heap) (n0 : Nat) (v : Option Value) (h : Heap) (L : List Loc) : Prop := v = some (.int p0) ∧ Fr n0 L ∧ h = h0
theorem pn_2 : plainName "jdk/internal/util/Preconditions" = true := by first | (simp [plainName, overriddenIn]; done) | decide +kernel
theorem ef_26_aaan (m : MethodId) (x0 : Int32) (x1 : Int32) (x2 : Int32) : entryFrame m #[(.int x0), (.int x1), (.int x2), .null] 4 = mkF m 0 #[.val (.int x0), .val (.int x1), .val (.int x2), .val .null] [] := by first | (simp [entryFrame, mkF, argsToLocals, Value.category]; done) | rfl
theorem rm26n (l : Launch) (Z : State) (a0 : Array Value) (hw : HW a0 Z) (ws : List Jvm.Cond) (p0 : Int32) (p1 : Int32) (p2 : Int32) (h0 : Heap) (n0 : Nat) (Z0 : n0 ≤ h0.size) (hp0 : ¬ p0 < 0) (hp1 : ¬ p1 < p0) (hp2 : ¬ p2 < p1) :
    MetFree l y26 (head1 (Jvm.Cond.code y26 jdk_41_method_12_code 4 (some .int) :: ws) RM_0_0_0_0) (fun a U => a = #[(.int p0), (.int p1), (.int p2), .null] ∧ Z.Warmed39 U.vm ∧ U.heap = h0) (fun _ _ _ _ _ => True) (fun _ U o U' => ∃ v L, o = .returned v ∧ Q26n Z p0 p1 p2 h0 n0 v U'.heap L ∧ FrameEnd U o U' L RM_0_0_0_0.cells RM_0_0_0_0.slots) := by
  refine MetFree.of_bodySF (plainFor_of_name pn_2) hisR ?_
  intro p e s m args below meth c s₁ Bd hml0 hP hK
  obtain ⟨rfl, hZ, hh⟩ := hP
  have hx := Bd.exec
  have hby := Bd.bytes
  have hml : c.maxLocals = 4 := hml0
  have hown : s.vm.findClass "jdk/internal/util/Preconditions" = some m.cls := findClass_of_methodNamed Bd.named
  have X0 : Stand p l e RM_0_0_0_0 s m _ below meth c s₁ [] 0 0 := Stand.of_body Bd
  have e0 : s₁.heap = h0 := by rw [← hh, Bd.state]; rfl
  have N0 := Fr.nil n0
  refine Go.into (P := fun oo uu => ∃ v L, oo = .returned v ∧ Q26n Z p0 p1 p2 h0 n0 v uu.heap L ∧ FrameEnd s oo uu L RM_0_0_0_0.cells RM_0_0_0_0.slots) (ef_26_aaan m p0 p1 p2) ?_
  show Go p e below _ (s₁.setTop (mkF m 0 #[sI p0, sI p1, sI p2, .val .null] []))
  refine Vi (s₁.setTop (mkF m 23 #[sI p0, sI p1, sI p2, .val .null] [(.int p0)])) (fun tZ kZ => ?_) ?_
  · refine XS.iloadN X0.here hx rfl (hb hby d26_0) rfl ?_
    refine XS.ifNo X0.here hx rfl (hb hby d26_1) rfl ((if0 _ _).trans (flt hp0).1) ?_
    refine XS.iloadN X0.here hx rfl (hb hby d26_4) rfl ?_
    refine XS.iloadN X0.here hx rfl (hb hby d26_5) rfl ?_
    refine XS.icmpNo X0.here hx rfl (hb hby d26_6) rfl (flt hp1).2.2.1 ?_
    refine XS.iloadN X0.here hx rfl (hb hby d26_9) rfl ?_
    refine XS.iloadN X0.here hx rfl (hb hby d26_10) rfl ?_
    refine XS.icmpYes X0.here hx rfl (pc0 := 11) (pc' := 22) rfl (hb hby d26_11) rfl (flt hp2).2.2.2 (by decide) (by decide) ?_
    refine XS.iloadN X0.here hx rfl (hb hby d26_22) rfl ?_
    exact kZ
  refine Go.retI X0 hx Bd.notSynchronized Bd.returns (hb hby d26_23) (by decide) (by decide) ?_
  rw [e0]
  exact ⟨rfl, N0, rfl⟩
def Q26r (Z : State) (p0 : Int32) (p1 : Int32) (p2 : Int32) (fo : Addr) (h0 : Heap) (n0 : Nat) (v : Option Value) (h : Heap) (L : List Loc) : Prop := v = some (.int p0) ∧ Fr n0 L ∧ h = h0
theorem ef_26_aaaa (m : MethodId) (x0 : Int32) (x1 : Int32) (x2 : Int32) (x3 : Addr) : entryFrame m #[(.int x0), (.int x1), (.int x2), (.ref x3)] 4 = mkF m 0 #[.val (.int x0), .val (.int x1), .val (.int x2), .val (.ref x3)] [] := by first | (simp [entryFrame, mkF, argsToLocals, Value.category]; done) | rfl
theorem rm26r (l : Launch) (Z : State) (a0 : Array Value) (hw : HW a0 Z) (ws : List Jvm.Cond) (p0 : Int32) (p1 : Int32) (p2 : Int32) (fo : Addr) (h0 : Heap) (n0 : Nat) (Z0 : n0 ≤ h0.size) (hp0 : ¬ p0 < 0) (hp1 : ¬ p1 < p0) (hp2 : ¬ p2 < p1) :
    MetFree l y26 (head1 (Jvm.Cond.code y26 jdk_41_method_12_code 4 (some .int) :: ws) RM_0_0_0_0) (fun a U => a = #[(.int p0), (.int p1), (.int p2), (.ref fo)] ∧ Z.Warmed39 U.vm ∧ U.heap = h0) (fun _ _ _ _ _ => True) (fun _ U o U' => ∃ v L, o = .returned v ∧ Q26r Z p0 p1 p2 fo h0 n0 v U'.heap L ∧ FrameEnd U o U' L RM_0_0_0_0.cells RM_0_0_0_0.slots) := by
  refine MetFree.of_bodySF (plainFor_of_name pn_2) hisR ?_
  intro p e s m args below meth c s₁ Bd hml0 hP hK
  obtain ⟨rfl, hZ, hh⟩ := hP
  have hx := Bd.exec
  have hby := Bd.bytes
  have hml : c.maxLocals = 4 := hml0
  have hown : s.vm.findClass "jdk/internal/util/Preconditions" = some m.cls := findClass_of_methodNamed Bd.named
  have X0 : Stand p l e RM_0_0_0_0 s m _ below meth c s₁ [] 0 0 := Stand.of_body Bd
  have e0 : s₁.heap = h0 := by rw [← hh, Bd.state]; rfl
  have N0 := Fr.nil n0
  refine Go.into (P := fun oo uu => ∃ v L, oo = .returned v ∧ Q26r Z p0 p1 p2 fo h0 n0 v uu.heap L ∧ FrameEnd s oo uu L RM_0_0_0_0.cells RM_0_0_0_0.slots) (ef_26_aaaa m p0 p1 p2 fo) ?_
  show Go p e below _ (s₁.setTop (mkF m 0 #[sI p0, sI p1, sI p2, sR fo] []))
  refine Vi (s₁.setTop (mkF m 23 #[sI p0, sI p1, sI p2, sR fo] [(.int p0)])) (fun tZ kZ => ?_) ?_
  · refine XS.iloadN X0.here hx rfl (hb hby d26_0) rfl ?_
    refine XS.ifNo X0.here hx rfl (hb hby d26_1) rfl ((if0 _ _).trans (flt hp0).1) ?_
    refine XS.iloadN X0.here hx rfl (hb hby d26_4) rfl ?_
    refine XS.iloadN X0.here hx rfl (hb hby d26_5) rfl ?_
    refine XS.icmpNo X0.here hx rfl (hb hby d26_6) rfl (flt hp1).2.2.1 ?_
    refine XS.iloadN X0.here hx rfl (hb hby d26_9) rfl ?_
    refine XS.iloadN X0.here hx rfl (hb hby d26_10) rfl ?_
    refine XS.icmpYes X0.here hx rfl (pc0 := 11) (pc' := 22) rfl (hb hby d26_11) rfl (flt hp2).2.2.2 (by decide) (by decide) ?_
    refine XS.iloadN X0.here hx rfl (hb hby d26_22) rfl ?_
    exact kZ
  refine Go.retI X0 hx Bd.notSynchronized Bd.returns (hb hby d26_23) (by decide) (by decide) ?_
  rw [e0]
  exact ⟨rfl, N0, rfl⟩
theorem d25_0 : decode B25 0 = .ok (.iload_n 0, 1) := by decide +kernel
theorem d25_1 : decode B25 1 = .ok (.iload_n 1, 1) := by decide +kernel
theorem d25_2 : decode B25 2 = .ok (.iload_n 2, 1) := by decide +kernel
theorem d25_3 : decode B25 3 = .ok (.getstatic 1053, 3) := by decide +kernel
theorem pd_21 : parseMethodDescriptor "(IIILjava/util/function/BiFunction;)I" = some ⟨[.int, .int, .int, (.object "java/util/function/BiFunction")], some .int⟩ := by decide +kernel
theorem d25_6 : decode B25 6 = .ok (.invokestatic 1062, 3) := by decide +kernel
theorem d25_9 : decode B25 9 = .ok (.pop, 1) := by decide +kernel
theorem d25_10 : decode B25 10 = .ok (.return_, 1) := by decide +kernel
def Q25n (Z : State) (p0 : Int32) (p1 : Int32) (p2 : Int32) (h0 : Heap) (n0 : Nat) (v : Option Value) (h : Heap) (L : List Loc) : Prop := v = none ∧ Fr n0 L ∧ h = h0
abbrev RM_1_0_0_15 : Room := { frames := 1, cells := 0, slots := 0, locals := 15 }
theorem ef_25_aaa (m : MethodId) (x0 : Int32) (x1 : Int32) (x2 : Int32) : entryFrame m #[(.int x0), (.int x1), (.int x2)] 3 = mkF m 0 #[.val (.int x0), .val (.int x1), .val (.int x2)] [] := by first | (simp [entryFrame, mkF, argsToLocals, Value.category]; done) | rfl
theorem rm25n (l : Launch) (Z : State) (a0 : Array Value) (hw : HW a0 Z) (ws : List Jvm.Cond) (p0 : Int32) (p1 : Int32) (p2 : Int32) (h0 : Heap) (n0 : Nat) (Z0 : n0 ≤ h0.size) (ha0 : Sta Z h0 "jdk/internal/util/Preconditions" "SIOOBE_FORMATTER" "Ljava/util/function/BiFunction;" .null) (hp0 : ¬ p0 < 0) (hp1 : ¬ p1 < p0) (hp2 : ¬ p2 < p1) :
    MetFree l y25 (head1 (Jvm.Cond.code y25 jdk_42_method_158_code 3 none :: ws) RM_1_0_0_15) (fun a U => a = #[(.int p0), (.int p1), (.int p2)] ∧ Z.Warmed39 U.vm ∧ U.heap = h0) (fun _ _ _ _ _ => True) (fun _ U o U' => ∃ v L, o = .returned v ∧ Q25n Z p0 p1 p2 h0 n0 v U'.heap L ∧ FrameEnd U o U' L RM_1_0_0_15.cells RM_1_0_0_15.slots) := by
  refine MetFree.of_bodySF (plainFor_of_name pn_0) hisR ?_
  intro p e s m args below meth c s₁ Bd hml0 hP hK
  obtain ⟨rfl, hZ, hh⟩ := hP
  have hx := Bd.exec
  have hby := Bd.bytes
  have hml : c.maxLocals = 3 := hml0
  have hown : s.vm.findClass "java/lang/String" = some m.cls := findClass_of_methodNamed Bd.named
  have X0 : Stand p l e RM_1_0_0_15 s m _ below meth c s₁ [] 0 0 := Stand.of_body Bd
  have e0 : s₁.heap = h0 := by rw [← hh, Bd.state]; rfl
  have N0 := Fr.nil n0
  refine Go.into (P := fun oo uu => ∃ v L, oo = .returned v ∧ Q25n Z p0 p1 p2 h0 n0 v uu.heap L ∧ FrameEnd s oo uu L RM_1_0_0_15.cells RM_1_0_0_15.slots) (ef_25_aaa m p0 p1 p2) ?_
  show Go p e below _ (s₁.setTop (mkF m 0 #[sI p0, sI p1, sI p2] []))
  refine Vi (s₁.setTop (mkF m 3 #[sI p0, sI p1, sI p2] [(.int p2), (.int p1), (.int p0)])) (fun tZ kZ => ?_) ?_
  · refine XS.iloadN X0.here hx rfl (hb hby d25_0) rfl ?_
    refine XS.iloadN X0.here hx rfl (hb hby d25_1) rfl ?_
    refine XS.iloadN X0.here hx rfl (hb hby d25_2) rfl ?_
    exact kZ
  obtain ⟨T1, X1, e1, st1⟩ := getS2 X0 hx hZ hown (host := "") (Or.inl (wq hw 124 rfl)) Via.refl e0 ha0 (g := (mkF m 3 #[sI p0, sI p1, sI p2] [(.int p2), (.int p1), (.int p0)])) rfl (hb hby d25_3)
  refine Go.via st1 ?_
  obtain ⟨_, _, ⟨T2, L2, k2, n2⟩, -, X2, ⟨Lc2, hQ2, l2, y2, z2⟩, st2⟩ := Jvm.LawKit.callS X1 hx (y := y26) hown (wz hZ hw 126 rfl) (wz hZ hw 127 rfl) (wz hZ hw 125 rfl) (wz hZ hw 128 rfl) (by decide) (backOf (W := 0) (rm26n l Z a0 hw [] p0 p1 p2 h0 n0 Z0 hp0 hp1 hp2) hZ (wq hw 128 rfl) (wq hw 125 rfl) (by decide) (by decide)) (g := (mkF m 6 #[sI p0, sI p1, sI p2] [.null, (.int p2), (.int p1), (.int p0)])) rfl (by rw [hml]; rfl) (argsL := [(.int p0), (.int p1), (.int p2), .null]) (rest := []) (lenOf pd_21 rfl) rfl (leW rfl) (hb hby d25_6) (fun _ _ => ⟨rfl, e1, (by decide : 0 + 0 ≤ _), (by decide : 0 + 0 ≤ _)⟩)
  dsimp only [Pt.U, Pt.locs, Pt.cells, Pt.slots] at X2 l2 y2 z2 st2 hQ2
  subst l2 y2 z2
  obtain ⟨rfl, N2q, e2⟩ := hQ2
  have N2 := Fr.app N0 N2q
  refine Go.via st2 ?_
  refine Vi (T2.setTop (mkF m 10 #[sI p0, sI p1, sI p2] [])) (fun tZ kZ => ?_) ?_
  · refine XS.pop X2.here hx rfl (hb hby d25_9) rfl rfl ?_
    exact kZ
  refine Go.retV X2 hx Bd.notSynchronized Bd.returns (hb hby d25_10) (by decide) (by decide) ?_
  rw [e2]
  exact ⟨rfl, N2, rfl⟩
def Q25r (Z : State) (p0 : Int32) (p1 : Int32) (p2 : Int32) (fo : Addr) (h0 : Heap) (n0 : Nat) (v : Option Value) (h : Heap) (L : List Loc) : Prop := v = none ∧ Fr n0 L ∧ h = h0
theorem rm25r (l : Launch) (Z : State) (a0 : Array Value) (hw : HW a0 Z) (ws : List Jvm.Cond) (p0 : Int32) (p1 : Int32) (p2 : Int32) (fo : Addr) (h0 : Heap) (n0 : Nat) (Z0 : n0 ≤ h0.size) (ha0 : Sta Z h0 "jdk/internal/util/Preconditions" "SIOOBE_FORMATTER" "Ljava/util/function/BiFunction;" (.ref fo)) (hp0 : ¬ p0 < 0) (hp1 : ¬ p1 < p0) (hp2 : ¬ p2 < p1) :
    MetFree l y25 (head1 (Jvm.Cond.code y25 jdk_42_method_158_code 3 none :: ws) RM_1_0_0_15) (fun a U => a = #[(.int p0), (.int p1), (.int p2)] ∧ Z.Warmed39 U.vm ∧ U.heap = h0) (fun _ _ _ _ _ => True) (fun _ U o U' => ∃ v L, o = .returned v ∧ Q25r Z p0 p1 p2 fo h0 n0 v U'.heap L ∧ FrameEnd U o U' L RM_1_0_0_15.cells RM_1_0_0_15.slots) := by
  refine MetFree.of_bodySF (plainFor_of_name pn_0) hisR ?_
  intro p e s m args below meth c s₁ Bd hml0 hP hK
  obtain ⟨rfl, hZ, hh⟩ := hP
  have hx := Bd.exec
  have hby := Bd.bytes
  have hml : c.maxLocals = 3 := hml0
  have hown : s.vm.findClass "java/lang/String" = some m.cls := findClass_of_methodNamed Bd.named
  have X0 : Stand p l e RM_1_0_0_15 s m _ below meth c s₁ [] 0 0 := Stand.of_body Bd
  have e0 : s₁.heap = h0 := by rw [← hh, Bd.state]; rfl
  have N0 := Fr.nil n0
  refine Go.into (P := fun oo uu => ∃ v L, oo = .returned v ∧ Q25r Z p0 p1 p2 fo h0 n0 v uu.heap L ∧ FrameEnd s oo uu L RM_1_0_0_15.cells RM_1_0_0_15.slots) (ef_25_aaa m p0 p1 p2) ?_
  show Go p e below _ (s₁.setTop (mkF m 0 #[sI p0, sI p1, sI p2] []))
  refine Vi (s₁.setTop (mkF m 3 #[sI p0, sI p1, sI p2] [(.int p2), (.int p1), (.int p0)])) (fun tZ kZ => ?_) ?_
  · refine XS.iloadN X0.here hx rfl (hb hby d25_0) rfl ?_
    refine XS.iloadN X0.here hx rfl (hb hby d25_1) rfl ?_
    refine XS.iloadN X0.here hx rfl (hb hby d25_2) rfl ?_
    exact kZ
  obtain ⟨T1, X1, e1, st1⟩ := getS2 X0 hx hZ hown (host := "") (Or.inl (wq hw 124 rfl)) Via.refl e0 ha0 (g := (mkF m 3 #[sI p0, sI p1, sI p2] [(.int p2), (.int p1), (.int p0)])) rfl (hb hby d25_3)
  refine Go.via st1 ?_
  obtain ⟨_, _, ⟨T2, L2, k2, n2⟩, -, X2, ⟨Lc2, hQ2, l2, y2, z2⟩, st2⟩ := Jvm.LawKit.callS X1 hx (y := y26) hown (wz hZ hw 126 rfl) (wz hZ hw 127 rfl) (wz hZ hw 125 rfl) (wz hZ hw 128 rfl) (by decide) (backOf (W := 0) (rm26r l Z a0 hw [] p0 p1 p2 fo h0 n0 Z0 hp0 hp1 hp2) hZ (wq hw 128 rfl) (wq hw 125 rfl) (by decide) (by decide)) (g := (mkF m 6 #[sI p0, sI p1, sI p2] [(.ref fo), (.int p2), (.int p1), (.int p0)])) rfl (by rw [hml]; rfl) (argsL := [(.int p0), (.int p1), (.int p2), (.ref fo)]) (rest := []) (lenOf pd_21 rfl) rfl (leW rfl) (hb hby d25_6) (fun _ _ => ⟨rfl, e1, (by decide : 0 + 0 ≤ _), (by decide : 0 + 0 ≤ _)⟩)
  dsimp only [Pt.U, Pt.locs, Pt.cells, Pt.slots] at X2 l2 y2 z2 st2 hQ2
  subst l2 y2 z2
  obtain ⟨rfl, N2q, e2⟩ := hQ2
  have N2 := Fr.app N0 N2q
  refine Go.via st2 ?_
  refine Vi (T2.setTop (mkF m 10 #[sI p0, sI p1, sI p2] [])) (fun tZ kZ => ?_) ?_
  · refine XS.pop X2.here hx rfl (hb hby d25_9) rfl rfl ?_
    exact kZ
  refine Go.retV X2 hx Bd.notSynchronized Bd.returns (hb hby d25_10) (by decide) (by decide) ?_
  rw [e2]
  exact ⟨rfl, N2, rfl⟩
theorem rm25 (l : Launch) (Z : State) (a0 : Array Value) (hw : HW a0 Z) (ws : List Jvm.Cond) (p0 : Int32) (p1 : Int32) (p2 : Int32) (sv : Value) (h0 : Heap) (n0 : Nat) (Z0 : n0 ≤ h0.size) (ha0 : Sta Z h0 "jdk/internal/util/Preconditions" "SIOOBE_FORMATTER" "Ljava/util/function/BiFunction;" sv) (hp0 : ¬ p0 < 0) (hp1 : ¬ p1 < p0) (hp2 : ¬ p2 < p1) (hsv : sv.isRef = true) :
    MetFree l y25 (head1 (Jvm.Cond.code y25 jdk_42_method_158_code 3 none :: ws) RM_1_0_0_15) (fun a U => a = #[(.int p0), (.int p1), (.int p2)] ∧ Z.Warmed39 U.vm ∧ U.heap = h0) (fun _ _ _ _ _ => True) (fun _ U o U' => ∃ v L, o = .returned v ∧ Q25n Z p0 p1 p2 h0 n0 v U'.heap L ∧ FrameEnd U o U' L RM_1_0_0_15.cells RM_1_0_0_15.slots) := by
  cases sv with
  | null => exact rm25n l Z a0 hw ws p0 p1 p2 h0 n0 Z0 ha0 hp0 hp1 hp2
  | ref fo => exact rm25r l Z a0 hw ws p0 p1 p2 fo h0 n0 Z0 ha0 hp0 hp1 hp2
  | _ => cases hsv
theorem d35_0 : decode B35 0 = .ok (.iload_n 0, 1) := by decide +kernel
theorem d35_1 : decode B35 1 = .ok (.ifCond .lt 8, 3) := by decide +kernel
theorem d35_4 : decode B35 4 = .ok (.iload_n 0, 1) := by decide +kernel
theorem d35_5 : decode B35 5 = .ok (.iload_n 1, 1) := by decide +kernel
theorem d35_6 : decode B35 6 = .ok (.if_icmp .lt 10, 3) := by decide +kernel
theorem d35_16 : decode B35 16 = .ok (.iload_n 0, 1) := by decide +kernel
theorem d35_17 : decode B35 17 = .ok (.ireturn, 1) := by decide +kernel
def Q35n (Z : State) (p0 : Int32) (p1 : Int32) (h0 : Heap) (n0 : Nat) (v : Option Value) (h : Heap) (L : List Loc) : Prop := v = some (.int p0) ∧ Fr n0 L ∧ h = h0
theorem ef_35_aan (m : MethodId) (x0 : Int32) (x1 : Int32) : entryFrame m #[(.int x0), (.int x1), .null] 3 = mkF m 0 #[.val (.int x0), .val (.int x1), .val .null] [] := by first | (simp [entryFrame, mkF, argsToLocals, Value.category]; done) | rfl
theorem rm35n (l : Launch) (Z : State) (a0 : Array Value) (hw : HW a0 Z) (ws : List Jvm.Cond) (p0 : Int32) (p1 : Int32) (h0 : Heap) (n0 : Nat) (Z0 : n0 ≤ h0.size) (hp0 : ¬ p0 < 0) (hp1 : p0 < p1) :
    MetFree l y35 (head1 (Jvm.Cond.code y35 jdk_41_method_11_code 3 (some .int) :: ws) RM_0_0_0_0) (fun a U => a = #[(.int p0), (.int p1), .null] ∧ Z.Warmed39 U.vm ∧ U.heap = h0) (fun _ _ _ _ _ => True) (fun _ U o U' => ∃ v L, o = .returned v ∧ Q35n Z p0 p1 h0 n0 v U'.heap L ∧ FrameEnd U o U' L RM_0_0_0_0.cells RM_0_0_0_0.slots) := by
  refine MetFree.of_bodySF (plainFor_of_name pn_2) hisR ?_
  intro p e s m args below meth c s₁ Bd hml0 hP hK
  obtain ⟨rfl, hZ, hh⟩ := hP
  have hx := Bd.exec
  have hby := Bd.bytes
  have hml : c.maxLocals = 3 := hml0
  have hown : s.vm.findClass "jdk/internal/util/Preconditions" = some m.cls := findClass_of_methodNamed Bd.named
  have X0 : Stand p l e RM_0_0_0_0 s m _ below meth c s₁ [] 0 0 := Stand.of_body Bd
  have e0 : s₁.heap = h0 := by rw [← hh, Bd.state]; rfl
  have N0 := Fr.nil n0
  refine Go.into (P := fun oo uu => ∃ v L, oo = .returned v ∧ Q35n Z p0 p1 h0 n0 v uu.heap L ∧ FrameEnd s oo uu L RM_0_0_0_0.cells RM_0_0_0_0.slots) (ef_35_aan m p0 p1) ?_
  show Go p e below _ (s₁.setTop (mkF m 0 #[sI p0, sI p1, .val .null] []))
  refine Vi (s₁.setTop (mkF m 17 #[sI p0, sI p1, .val .null] [(.int p0)])) (fun tZ kZ => ?_) ?_
  · refine XS.iloadN X0.here hx rfl (hb hby d35_0) rfl ?_
    refine XS.ifNo X0.here hx rfl (hb hby d35_1) rfl ((if0 _ _).trans (flt hp0).1) ?_
    refine XS.iloadN X0.here hx rfl (hb hby d35_4) rfl ?_
    refine XS.iloadN X0.here hx rfl (hb hby d35_5) rfl ?_
    refine XS.icmpYes X0.here hx rfl (pc0 := 6) (pc' := 16) rfl (hb hby d35_6) rfl (tlt hp1).1 (by decide) (by decide) ?_
    refine XS.iloadN X0.here hx rfl (hb hby d35_16) rfl ?_
    exact kZ
  refine Go.retI X0 hx Bd.notSynchronized Bd.returns (hb hby d35_17) (by decide) (by decide) ?_
  rw [e0]
  exact ⟨rfl, N0, rfl⟩
def Q35r (Z : State) (p0 : Int32) (p1 : Int32) (fo : Addr) (h0 : Heap) (n0 : Nat) (v : Option Value) (h : Heap) (L : List Loc) : Prop := v = some (.int p0) ∧ Fr n0 L ∧ h = h0
theorem ef_35_aaa (m : MethodId) (x0 : Int32) (x1 : Int32) (x2 : Addr) : entryFrame m #[(.int x0), (.int x1), (.ref x2)] 3 = mkF m 0 #[.val (.int x0), .val (.int x1), .val (.ref x2)] [] := by first | (simp [entryFrame, mkF, argsToLocals, Value.category]; done) | rfl
theorem rm35r (l : Launch) (Z : State) (a0 : Array Value) (hw : HW a0 Z) (ws : List Jvm.Cond) (p0 : Int32) (p1 : Int32) (fo : Addr) (h0 : Heap) (n0 : Nat) (Z0 : n0 ≤ h0.size) (hp0 : ¬ p0 < 0) (hp1 : p0 < p1) :
    MetFree l y35 (head1 (Jvm.Cond.code y35 jdk_41_method_11_code 3 (some .int) :: ws) RM_0_0_0_0) (fun a U => a = #[(.int p0), (.int p1), (.ref fo)] ∧ Z.Warmed39 U.vm ∧ U.heap = h0) (fun _ _ _ _ _ => True) (fun _ U o U' => ∃ v L, o = .returned v ∧ Q35r Z p0 p1 fo h0 n0 v U'.heap L ∧ FrameEnd U o U' L RM_0_0_0_0.cells RM_0_0_0_0.slots) := by
  refine MetFree.of_bodySF (plainFor_of_name pn_2) hisR ?_
  intro p e s m args below meth c s₁ Bd hml0 hP hK
  obtain ⟨rfl, hZ, hh⟩ := hP
  have hx := Bd.exec
  have hby := Bd.bytes
  have hml : c.maxLocals = 3 := hml0
  have hown : s.vm.findClass "jdk/internal/util/Preconditions" = some m.cls := findClass_of_methodNamed Bd.named
  have X0 : Stand p l e RM_0_0_0_0 s m _ below meth c s₁ [] 0 0 := Stand.of_body Bd
  have e0 : s₁.heap = h0 := by rw [← hh, Bd.state]; rfl
  have N0 := Fr.nil n0
  refine Go.into (P := fun oo uu => ∃ v L, oo = .returned v ∧ Q35r Z p0 p1 fo h0 n0 v uu.heap L ∧ FrameEnd s oo uu L RM_0_0_0_0.cells RM_0_0_0_0.slots) (ef_35_aaa m p0 p1 fo) ?_
  show Go p e below _ (s₁.setTop (mkF m 0 #[sI p0, sI p1, sR fo] []))
  refine Vi (s₁.setTop (mkF m 17 #[sI p0, sI p1, sR fo] [(.int p0)])) (fun tZ kZ => ?_) ?_
  · refine XS.iloadN X0.here hx rfl (hb hby d35_0) rfl ?_
    refine XS.ifNo X0.here hx rfl (hb hby d35_1) rfl ((if0 _ _).trans (flt hp0).1) ?_
    refine XS.iloadN X0.here hx rfl (hb hby d35_4) rfl ?_
    refine XS.iloadN X0.here hx rfl (hb hby d35_5) rfl ?_
    refine XS.icmpYes X0.here hx rfl (pc0 := 6) (pc' := 16) rfl (hb hby d35_6) rfl (tlt hp1).1 (by decide) (by decide) ?_
    refine XS.iloadN X0.here hx rfl (hb hby d35_16) rfl ?_
    exact kZ
  refine Go.retI X0 hx Bd.notSynchronized Bd.returns (hb hby d35_17) (by decide) (by decide) ?_
  rw [e0]
  exact ⟨rfl, N0, rfl⟩
theorem d34_0 : decode B34 0 = .ok (.iload_n 0, 1) := by decide +kernel
theorem d34_1 : decode B34 1 = .ok (.iload_n 1, 1) := by decide +kernel
theorem d34_2 : decode B34 2 = .ok (.getstatic 1053, 3) := by decide +kernel
theorem pd_29 : parseMethodDescriptor "(IILjava/util/function/BiFunction;)I" = some ⟨[.int, .int, (.object "java/util/function/BiFunction")], some .int⟩ := by decide +kernel
theorem d34_5 : decode B34 5 = .ok (.invokestatic 1059, 3) := by decide +kernel
theorem d34_8 : decode B34 8 = .ok (.pop, 1) := by decide +kernel
theorem d34_9 : decode B34 9 = .ok (.return_, 1) := by decide +kernel
def Q34n (Z : State) (p0 : Int32) (p1 : Int32) (h0 : Heap) (n0 : Nat) (v : Option Value) (h : Heap) (L : List Loc) : Prop := v = none ∧ Fr n0 L ∧ h = h0
abbrev RM_1_0_0_14 : Room := { frames := 1, cells := 0, slots := 0, locals := 14 }
theorem ef_34_aa (m : MethodId) (x0 : Int32) (x1 : Int32) : entryFrame m #[(.int x0), (.int x1)] 2 = mkF m 0 #[.val (.int x0), .val (.int x1)] [] := by first | (simp [entryFrame, mkF, argsToLocals, Value.category]; done) | rfl
theorem rm34n (l : Launch) (Z : State) (a0 : Array Value) (hw : HW a0 Z) (ws : List Jvm.Cond) (p0 : Int32) (p1 : Int32) (h0 : Heap) (n0 : Nat) (Z0 : n0 ≤ h0.size) (ha0 : Sta Z h0 "jdk/internal/util/Preconditions" "SIOOBE_FORMATTER" "Ljava/util/function/BiFunction;" .null) (hp0 : ¬ p0 < 0) (hp1 : p0 < p1) :
    MetFree l y34 (head1 (Jvm.Cond.code y34 jdk_42_method_155_code 2 none :: ws) RM_1_0_0_14) (fun a U => a = #[(.int p0), (.int p1)] ∧ Z.Warmed39 U.vm ∧ U.heap = h0) (fun _ _ _ _ _ => True) (fun _ U o U' => ∃ v L, o = .returned v ∧ Q34n Z p0 p1 h0 n0 v U'.heap L ∧ FrameEnd U o U' L RM_1_0_0_14.cells RM_1_0_0_14.slots) := by
  refine MetFree.of_bodySF (plainFor_of_name pn_0) hisR ?_
  intro p e s m args below meth c s₁ Bd hml0 hP hK
  obtain ⟨rfl, hZ, hh⟩ := hP
  have hx := Bd.exec
  have hby := Bd.bytes
  have hml : c.maxLocals = 2 := hml0
  have hown : s.vm.findClass "java/lang/String" = some m.cls := findClass_of_methodNamed Bd.named
  have X0 : Stand p l e RM_1_0_0_14 s m _ below meth c s₁ [] 0 0 := Stand.of_body Bd
  have e0 : s₁.heap = h0 := by rw [← hh, Bd.state]; rfl
  have N0 := Fr.nil n0
  refine Go.into (P := fun oo uu => ∃ v L, oo = .returned v ∧ Q34n Z p0 p1 h0 n0 v uu.heap L ∧ FrameEnd s oo uu L RM_1_0_0_14.cells RM_1_0_0_14.slots) (ef_34_aa m p0 p1) ?_
  show Go p e below _ (s₁.setTop (mkF m 0 #[sI p0, sI p1] []))
  refine Vi (s₁.setTop (mkF m 2 #[sI p0, sI p1] [(.int p1), (.int p0)])) (fun tZ kZ => ?_) ?_
  · refine XS.iloadN X0.here hx rfl (hb hby d34_0) rfl ?_
    refine XS.iloadN X0.here hx rfl (hb hby d34_1) rfl ?_
    exact kZ
  obtain ⟨T1, X1, e1, st1⟩ := getS2 X0 hx hZ hown (host := "") (Or.inl (wq hw 124 rfl)) Via.refl e0 ha0 (g := (mkF m 2 #[sI p0, sI p1] [(.int p1), (.int p0)])) rfl (hb hby d34_2)
  refine Go.via st1 ?_
  obtain ⟨_, _, ⟨T2, L2, k2, n2⟩, -, X2, ⟨Lc2, hQ2, l2, y2, z2⟩, st2⟩ := Jvm.LawKit.callS X1 hx (y := y35) hown (wz hZ hw 162 rfl) (wz hZ hw 163 rfl) (wz hZ hw 125 rfl) (wz hZ hw 164 rfl) (by decide) (backOf (W := 0) (rm35n l Z a0 hw [] p0 p1 h0 n0 Z0 hp0 hp1) hZ (wq hw 164 rfl) (wq hw 125 rfl) (by decide) (by decide)) (g := (mkF m 5 #[sI p0, sI p1] [.null, (.int p1), (.int p0)])) rfl (by rw [hml]; rfl) (argsL := [(.int p0), (.int p1), .null]) (rest := []) (lenOf pd_29 rfl) rfl (leW rfl) (hb hby d34_5) (fun _ _ => ⟨rfl, e1, (by decide : 0 + 0 ≤ _), (by decide : 0 + 0 ≤ _)⟩)
  dsimp only [Pt.U, Pt.locs, Pt.cells, Pt.slots] at X2 l2 y2 z2 st2 hQ2
  subst l2 y2 z2
  obtain ⟨rfl, N2q, e2⟩ := hQ2
  have N2 := Fr.app N0 N2q
  refine Go.via st2 ?_
  refine Vi (T2.setTop (mkF m 9 #[sI p0, sI p1] [])) (fun tZ kZ => ?_) ?_
  · refine XS.pop X2.here hx rfl (hb hby d34_8) rfl rfl ?_
    exact kZ
  refine Go.retV X2 hx Bd.notSynchronized Bd.returns (hb hby d34_9) (by decide) (by decide) ?_
  rw [e2]
  exact ⟨rfl, N2, rfl⟩
def Q34r (Z : State) (p0 : Int32) (p1 : Int32) (fo : Addr) (h0 : Heap) (n0 : Nat) (v : Option Value) (h : Heap) (L : List Loc) : Prop := v = none ∧ Fr n0 L ∧ h = h0
theorem rm34r (l : Launch) (Z : State) (a0 : Array Value) (hw : HW a0 Z) (ws : List Jvm.Cond) (p0 : Int32) (p1 : Int32) (fo : Addr) (h0 : Heap) (n0 : Nat) (Z0 : n0 ≤ h0.size) (ha0 : Sta Z h0 "jdk/internal/util/Preconditions" "SIOOBE_FORMATTER" "Ljava/util/function/BiFunction;" (.ref fo)) (hp0 : ¬ p0 < 0) (hp1 : p0 < p1) :
    MetFree l y34 (head1 (Jvm.Cond.code y34 jdk_42_method_155_code 2 none :: ws) RM_1_0_0_14) (fun a U => a = #[(.int p0), (.int p1)] ∧ Z.Warmed39 U.vm ∧ U.heap = h0) (fun _ _ _ _ _ => True) (fun _ U o U' => ∃ v L, o = .returned v ∧ Q34r Z p0 p1 fo h0 n0 v U'.heap L ∧ FrameEnd U o U' L RM_1_0_0_14.cells RM_1_0_0_14.slots) := by
  refine MetFree.of_bodySF (plainFor_of_name pn_0) hisR ?_
  intro p e s m args below meth c s₁ Bd hml0 hP hK
  obtain ⟨rfl, hZ, hh⟩ := hP
  have hx := Bd.exec
  have hby := Bd.bytes
  have hml : c.maxLocals = 2 := hml0
  have hown : s.vm.findClass "java/lang/String" = some m.cls := findClass_of_methodNamed Bd.named
  have X0 : Stand p l e RM_1_0_0_14 s m _ below meth c s₁ [] 0 0 := Stand.of_body Bd
  have e0 : s₁.heap = h0 := by rw [← hh, Bd.state]; rfl
  have N0 := Fr.nil n0
  refine Go.into (P := fun oo uu => ∃ v L, oo = .returned v ∧ Q34r Z p0 p1 fo h0 n0 v uu.heap L ∧ FrameEnd s oo uu L RM_1_0_0_14.cells RM_1_0_0_14.slots) (ef_34_aa m p0 p1) ?_
  show Go p e below _ (s₁.setTop (mkF m 0 #[sI p0, sI p1] []))
  refine Vi (s₁.setTop (mkF m 2 #[sI p0, sI p1] [(.int p1), (.int p0)])) (fun tZ kZ => ?_) ?_
  · refine XS.iloadN X0.here hx rfl (hb hby d34_0) rfl ?_
    refine XS.iloadN X0.here hx rfl (hb hby d34_1) rfl ?_
    exact kZ
  obtain ⟨T1, X1, e1, st1⟩ := getS2 X0 hx hZ hown (host := "") (Or.inl (wq hw 124 rfl)) Via.refl e0 ha0 (g := (mkF m 2 #[sI p0, sI p1] [(.int p1), (.int p0)])) rfl (hb hby d34_2)
  refine Go.via st1 ?_
  obtain ⟨_, _, ⟨T2, L2, k2, n2⟩, -, X2, ⟨Lc2, hQ2, l2, y2, z2⟩, st2⟩ := Jvm.LawKit.callS X1 hx (y := y35) hown (wz hZ hw 162 rfl) (wz hZ hw 163 rfl) (wz hZ hw 125 rfl) (wz hZ hw 164 rfl) (by decide) (backOf (W := 0) (rm35r l Z a0 hw [] p0 p1 fo h0 n0 Z0 hp0 hp1) hZ (wq hw 164 rfl) (wq hw 125 rfl) (by decide) (by decide)) (g := (mkF m 5 #[sI p0, sI p1] [(.ref fo), (.int p1), (.int p0)])) rfl (by rw [hml]; rfl) (argsL := [(.int p0), (.int p1), (.ref fo)]) (rest := []) (lenOf pd_29 rfl) rfl (leW rfl) (hb hby d34_5) (fun _ _ => ⟨rfl, e1, (by decide : 0 + 0 ≤ _), (by decide : 0 + 0 ≤ _)⟩)
  dsimp only [Pt.U, Pt.locs, Pt.cells, Pt.slots] at X2 l2 y2 z2 st2 hQ2
  subst l2 y2 z2
  obtain ⟨rfl, N2q, e2⟩ := hQ2
  have N2 := Fr.app N0 N2q
  refine Go.via st2 ?_
  refine Vi (T2.setTop (mkF m 9 #[sI p0, sI p1] [])) (fun tZ kZ => ?_) ?_
  · refine XS.pop X2.here hx rfl (hb hby d34_8) rfl rfl ?_
    exact kZ
  refine Go.retV X2 hx Bd.notSynchronized Bd.returns (hb hby d34_9) (by decide) (by decide) ?_
  rw [e2]
  exact ⟨rfl, N2, rfl⟩
theorem rm34 (l : Launch) (Z : State) (a0 : Array Value) (hw : HW a0 Z) (ws : List Jvm.Cond) (p0 : Int32) (p1 : Int32) (sv : Value) (h0 : Heap) (n0 : Nat) (Z0 : n0 ≤ h0.size) (ha0 : Sta Z h0 "jdk/internal/util/Preconditions" "SIOOBE_FORMATTER" "Ljava/util/function/BiFunction;" sv) (hp0 : ¬ p0 < 0) (hp1 : p0 < p1) (hsv : sv.isRef = true) :
    MetFree l y34 (head1 (Jvm.Cond.code y34 jdk_42_method_155_code 2 none :: ws) RM_1_0_0_14) (fun a U => a = #[(.int p0), (.int p1)] ∧ Z.Warmed39 U.vm ∧ U.heap = h0) (fun _ _ _ _ _ => True) (fun _ U o U' => ∃ v L, o = .returned v ∧ Q34n Z p0 p1 h0 n0 v U'.heap L ∧ FrameEnd U o U' L RM_1_0_0_14.cells RM_1_0_0_14.slots) := by
  cases sv with
  | null => exact rm34n l Z a0 hw ws p0 p1 h0 n0 Z0 ha0 hp0 hp1
  | ref fo => exact rm34r l Z a0 hw ws p0 p1 fo h0 n0 Z0 ha0 hp0 hp1
  | _ => cases hsv
theorem d7_0 : decode B7 0 = .ok (.getstatic 1, 3) := by decide +kernel
theorem d7_3 : decode B7 3 = .ok (.astore_n 0, 1) := by decide +kernel
theorem d7_4 : decode B7 4 = .ok (.aload_n 0, 1) := by decide +kernel
theorem d7_5 : decode B7 5 = .ok (.areturn, 1) := by decide +kernel
def Q7 (Z : State) (em : Addr) (h0 : Heap) (n0 : Nat) (v : Option Value) (h : Heap) (L : List Loc) : Prop := v = some (.ref em) ∧ Fr n0 L ∧ h = h0
theorem pn_3 : plainName "java/util/Optional" = true := by first | (simp [plainName, overriddenIn]; done) | decide +kernel
theorem ef_7_ (m : MethodId)  : entryFrame m #[] 1 = mkF m 0 #[.unset] [] := by first | (simp [entryFrame, mkF, argsToLocals, Value.category]; done) | rfl
theorem rm7 (l : Launch) (Z : State) (a0 : Array Value) (hw : HW a0 Z) (ws : List Jvm.Cond) (em : Addr) (h0 : Heap) (n0 : Nat) (Z0 : n0 ≤ h0.size) (ha0 : Sta Z h0 "java/util/Optional" "EMPTY" "Ljava/util/Optional;" (.ref em)) :
    MetFree l y7 (head1 (Jvm.Cond.code y7 jdk_32_method_1_code 1 (some (.object "java/util/Optional")) :: ws) RM_0_0_0_0) (fun a U => a = #[] ∧ Z.Warmed39 U.vm ∧ U.heap = h0) (fun _ _ _ _ _ => True) (fun _ U o U' => ∃ v L, o = .returned v ∧ Q7 Z em h0 n0 v U'.heap L ∧ FrameEnd U o U' L RM_0_0_0_0.cells RM_0_0_0_0.slots) := by
  refine MetFree.of_bodySF (plainFor_of_name pn_3) hisR ?_
  intro p e s m args below meth c s₁ Bd hml0 hP hK
  obtain ⟨rfl, hZ, hh⟩ := hP
  have hx := Bd.exec
  have hby := Bd.bytes
  have hml : c.maxLocals = 1 := hml0
  have hown : s.vm.findClass "java/util/Optional" = some m.cls := findClass_of_methodNamed Bd.named
  have X0 : Stand p l e RM_0_0_0_0 s m _ below meth c s₁ [] 0 0 := Stand.of_body Bd
  have e0 : s₁.heap = h0 := by rw [← hh, Bd.state]; rfl
  have N0 := Fr.nil n0
  refine Go.into (P := fun oo uu => ∃ v L, oo = .returned v ∧ Q7 Z em h0 n0 v uu.heap L ∧ FrameEnd s oo uu L RM_0_0_0_0.cells RM_0_0_0_0.slots) (ef_7_ m ) ?_
  show Go p e below _ (s₁.setTop (mkF m 0 #[.unset] []))
  obtain ⟨T1, X1, e1, st1⟩ := getS2 X0 hx hZ hown (host := "") (Or.inl (wq hw 41 rfl)) Via.refl e0 ha0 (g := (mkF m 0 #[.unset] [])) rfl (hb hby d7_0)
  refine Go.via st1 ?_
  refine Vi (T1.setTop (mkF m 5 #[sR em] [(.ref em)])) (fun tZ kZ => ?_) ?_
  · refine XS.astoreN X1.here hx rfl (hb hby d7_3) rfl rfl (l' := #[sR em]) rfl ?_
    refine XS.aloadN X1.here hx rfl (hb hby d7_4) rfl rfl ?_
    exact kZ
  refine Go.retR X1 hx Bd.notSynchronized Bd.returns rfl rfl (hb hby d7_5) (by decide) (by decide) ?_
  rw [e1]
  exact ⟨rfl, N0, rfl⟩
theorem d9_0 : decode B9 0 = .ok (.aload_n 0, 1) := by decide +kernel
theorem d9_1 : decode B9 1 = .ok (.invokespecial 1, 3) := by decide +kernel
theorem d9_4 : decode B9 4 = .ok (.return_, 1) := by decide +kernel
def Q9 (Z : State) (o0 : Addr) (h0 : Heap) (n0 : Nat) (v : Option Value) (h : Heap) (L : List Loc) : Prop := v = none ∧ Fr n0 L ∧ h = h0
abbrev RM_1_0_0_12 : Room := { frames := 1, cells := 0, slots := 0, locals := 12 }
theorem pn_4 : plainName "java/lang/Record" = true := by first | (simp [plainName, overriddenIn]; done) | decide +kernel
theorem ef_9_a (m : MethodId) (x0 : Addr) : entryFrame m #[(.ref x0)] 1 = mkF m 0 #[.val (.ref x0)] [] := by first | (simp [entryFrame, mkF, argsToLocals, Value.category]; done) | rfl
theorem rm9 (l : Launch) (Z : State) (a0 : Array Value) (hw : HW a0 Z) (ws : List Jvm.Cond) (o0 : Addr) (h0 : Heap) (n0 : Nat) (Z0 : n0 ≤ h0.size) :
    MetFree l y9 (head1 (Jvm.Cond.code y9 jdk_30_method_1_code 1 none :: ws) RM_1_0_0_12) (fun a U => a = #[(.ref o0)] ∧ Z.Warmed39 U.vm ∧ U.heap = h0) (fun _ _ _ _ _ => True) (fun _ U o U' => ∃ v L, o = .returned v ∧ Q9 Z o0 h0 n0 v U'.heap L ∧ FrameEnd U o U' L RM_1_0_0_12.cells RM_1_0_0_12.slots) := by
  refine MetFree.of_bodySF (plainFor_of_name pn_4) hisR ?_
  intro p e s m args below meth c s₁ Bd hml0 hP hK
  obtain ⟨rfl, hZ, hh⟩ := hP
  have hx := Bd.exec
  have hby := Bd.bytes
  have hml : c.maxLocals = 1 := hml0
  have hown : s.vm.findClass "java/lang/Record" = some m.cls := findClass_of_methodNamed Bd.named
  have X0 : Stand p l e RM_1_0_0_12 s m _ below meth c s₁ [] 0 0 := Stand.of_body Bd
  have e0 : s₁.heap = h0 := by rw [← hh, Bd.state]; rfl
  have N0 := Fr.nil n0
  refine Go.into (P := fun oo uu => ∃ v L, oo = .returned v ∧ Q9 Z o0 h0 n0 v uu.heap L ∧ FrameEnd s oo uu L RM_1_0_0_12.cells RM_1_0_0_12.slots) (ef_9_a m o0) ?_
  show Go p e below _ (s₁.setTop (mkF m 0 #[sR o0] []))
  refine Vi (s₁.setTop (mkF m 1 #[sR o0] [(.ref o0)])) (fun tZ kZ => ?_) ?_
  · refine XS.aloadN X0.here hx rfl (hb hby d9_0) rfl rfl ?_
    exact kZ
  obtain ⟨T1, X1, e1, st1⟩ := initO X0 hx hZ hown (wq hw 50 rfl) (wq hw 20 rfl) (wq hw 21 rfl) e0 (g := (mkF m 1 #[sR o0] [(.ref o0)])) rfl (by rw [hml]; rfl) rfl (hb hby d9_1) (by decide) (W := 0) (by show 2 * 0 + _ ≤ _; exact Nat.le_of_eq rfl) (by decide)
  refine Go.via st1 ?_
  refine Go.retV X1 hx Bd.notSynchronized Bd.returns (hb hby d9_4) (by decide) (by decide) ?_
  rw [e1]
  exact ⟨rfl, N0, rfl⟩
theorem d8_0 : decode B8 0 = .ok (.aload_n 0, 1) := by decide +kernel
theorem pd_4 : parseMethodDescriptor "()V" = some ⟨[], none⟩ := by decide +kernel
theorem d8_1 : decode B8 1 = .ok (.invokespecial 1, 3) := by decide +kernel
theorem d8_4 : decode B8 4 = .ok (.aload_n 0, 1) := by decide +kernel
theorem d8_5 : decode B8 5 = .ok (.aload_n 1, 1) := by decide +kernel
theorem d8_6 : decode B8 6 = .ok (.putfield 7, 3) := by decide +kernel
theorem d8_9 : decode B8 9 = .ok (.aload_n 0, 1) := by decide +kernel
theorem d8_10 : decode B8 10 = .ok (.aload_n 2, 1) := by decide +kernel
theorem d8_11 : decode B8 11 = .ok (.putfield 13, 3) := by decide +kernel
theorem d8_14 : decode B8 14 = .ok (.aload_n 0, 1) := by decide +kernel
theorem d8_15 : decode B8 15 = .ok (.aload_n 3, 1) := by decide +kernel
theorem d8_16 : decode B8 16 = .ok (.putfield 16, 3) := by decide +kernel
theorem d8_19 : decode B8 19 = .ok (.return_, 1) := by decide +kernel
def Q8 (Z : State) (o0 : Addr) (o1 : Addr) (o2 : Addr) (o3 : Addr) (h0 : Heap) (n0 : Nat) (v : Option Value) (h : Heap) (L : List Loc) : Prop := v = none ∧ Fr n0 L ∧ Keep h0 h [o0] ∧ Exa Z h o0 "com/example/bindery/bindery/compiler/JavaType" ∧ Fld Z h o0 "com/example/bindery/bindery/compiler/JavaType" "packageName" "Ljava/lang/String;" (.ref o1) ∧ Fld Z h o0 "com/example/bindery/bindery/compiler/JavaType" "name" "Ljava/lang/String;" (.ref o2) ∧ Fld Z h o0 "com/example/bindery/bindery/compiler/JavaType" "argument" "Ljava/util/Optional;" (.ref o3)
abbrev RM_2_0_0_24 : Room := { frames := 2, cells := 0, slots := 0, locals := 24 }
theorem pn_5 : plainName "com/example/bindery/bindery/compiler/JavaType" = true := by first | (simp [plainName, overriddenIn]; done) | decide +kernel
theorem ef_8_aaaa (m : MethodId) (x0 : Addr) (x1 : Addr) (x2 : Addr) (x3 : Addr) : entryFrame m #[(.ref x0), (.ref x1), (.ref x2), (.ref x3)] 4 = mkF m 0 #[.val (.ref x0), .val (.ref x1), .val (.ref x2), .val (.ref x3)] [] := by first | (simp [entryFrame, mkF, argsToLocals, Value.category]; done) | rfl
theorem rm8 (l : Launch) (Z : State) (a0 : Array Value) (hw : HW a0 Z) (ws : List Jvm.Cond) (o0 : Addr) (o1 : Addr) (o2 : Addr) (o3 : Addr) (h0 : Heap) (n0 : Nat) (Z0 : n0 ≤ h0.size) (ha0 : Exa Z h0 o0 "com/example/bindery/bindery/compiler/JavaType") (ha1 : Fld Z h0 o0 "com/example/bindery/bindery/compiler/JavaType" "packageName" "Ljava/lang/String;" .null) (ha2 : Fld Z h0 o0 "com/example/bindery/bindery/compiler/JavaType" "name" "Ljava/lang/String;" .null) (ha3 : Fld Z h0 o0 "com/example/bindery/bindery/compiler/JavaType" "argument" "Ljava/util/Optional;" .null) (ha4 : n0 ≤ o0) :
    MetFree l y8 (head1 (Jvm.Cond.code y8 prog_5_method_2_code 4 none :: ws) RM_2_0_0_24) (fun a U => a = #[(.ref o0), (.ref o1), (.ref o2), (.ref o3)] ∧ Z.Warmed39 U.vm ∧ U.heap = h0) (fun _ _ _ _ _ => True) (fun _ U o U' => ∃ v L, o = .returned v ∧ Q8 Z o0 o1 o2 o3 h0 n0 v U'.heap L ∧ FrameEnd U o U' L RM_2_0_0_24.cells RM_2_0_0_24.slots) := by
  refine MetFree.of_bodySF (plainFor_of_name pn_5) hisR ?_
  intro p e s m args below meth c s₁ Bd hml0 hP hK
  obtain ⟨rfl, hZ, hh⟩ := hP
  have hx := Bd.exec
  have hby := Bd.bytes
  have hml : c.maxLocals = 4 := hml0
  have hown : s.vm.findClass "com/example/bindery/bindery/compiler/JavaType" = some m.cls := findClass_of_methodNamed Bd.named
  have hnm := (name_of_methodNamed Bd.named Bd.method).1
  have X0 : Stand p l e RM_2_0_0_24 s m _ below meth c s₁ [] 0 0 := Stand.of_body Bd
  have e0 : s₁.heap = h0 := by rw [← hh, Bd.state]; rfl
  have N0 := Fr.nil n0
  refine Go.into (P := fun oo uu => ∃ v L, oo = .returned v ∧ Q8 Z o0 o1 o2 o3 h0 n0 v uu.heap L ∧ FrameEnd s oo uu L RM_2_0_0_24.cells RM_2_0_0_24.slots) (ef_8_aaaa m o0 o1 o2 o3) ?_
  show Go p e below _ (s₁.setTop (mkF m 0 #[sR o0, sR o1, sR o2, sR o3] []))
  refine Vi (s₁.setTop (mkF m 1 #[sR o0, sR o1, sR o2, sR o3] [(.ref o0)])) (fun tZ kZ => ?_) ?_
  · refine XS.aloadN X0.here hx rfl (hb hby d8_0) rfl rfl ?_
    exact kZ
  obtain ⟨_, _, ⟨T1, L1, k1, n1⟩, -, X1, ⟨Lc1, hQ1, l1, y1, z1⟩, st1⟩ := X0.specialBack hx (y := y9) rfl hown (wz hZ hw 45 rfl) (wz hZ hw 46 rfl) (wz hZ hw 49 rfl) (by decide) (backOf (W := 0) (rm9 l Z a0 hw [] o0 h0 n0 Z0 ) hZ (wq hw 49 rfl) (wq hw 48 rfl) (by decide) (by decide)) (g := (mkF m 1 #[sR o0, sR o1, sR o2, sR o3] [(.ref o0)])) rfl (by rw [hml]; rfl) (Steps.refl _) (a := o0) (argsL := []) (rest := []) (lenOf pd_4 rfl) rfl (leW rfl) (hb hby d8_1) (fun _ _ => ⟨rfl, e0, (by decide : 0 + 0 ≤ _), (by decide : 0 + 0 ≤ _)⟩)
  dsimp only [Pt.U, Pt.locs, Pt.cells, Pt.slots] at X1 l1 y1 z1 st1 hQ1
  subst l1 y1 z1
  obtain ⟨rfl, N1q, e1⟩ := hQ1
  have N1 := Fr.app N0 N1q
  refine Go.via (fun t k => st1.trans k) ?_
  refine Vi (T1.setTop (mkF m 6 #[sR o0, sR o1, sR o2, sR o3] [(.ref o1), (.ref o0)])) (fun tZ kZ => ?_) ?_
  · refine XS.aloadN X1.here hx rfl (hb hby d8_4) rfl rfl ?_
    refine XS.aloadN X1.here hx rfl (hb hby d8_5) rfl rfl ?_
    exact kZ
  obtain ⟨T2, h2, X2, e2, W2, st2⟩ := putF X1 hx hZ hown (host := "") (Or.inl (wq hw 51 rfl)) Via.refl e1 ha1 ha0 (Or.inr ⟨(wq hw 52 rfl), rfl, hnm⟩) (wq hw 32 rfl) (ty := (.object "java/lang/String")) (by decide) rfl rfl (g := (mkF m 6 #[sR o0, sR o1, sR o2, sR o3] [(.ref o1), (.ref o0)])) rfl rfl (hb hby d8_6)
  have N2 := Fr.snoc X2 N1 ha4
  have c3_0 := ha0.wr W2
  have c3_2 := ha2.other W2 (Or.inr (slot_ne (Or.inr (wq hw 54 rfl)) (Or.inr (wq hw 52 rfl)) (by decide) (t := (.object "java/lang/String")) (t' := (.object "java/lang/String")) (by decide) (by decide)))
  have c3_3 := ha3.other W2 (Or.inr (slot_ne (Or.inr (wq hw 56 rfl)) (Or.inr (wq hw 52 rfl)) (by decide) (t := (.object "java/util/Optional")) (t' := (.object "java/lang/String")) (by decide) (by decide)))
  have K2 : Keep h0 h2 [o0] := (Keep.refl h0 [o0]).wr W2 (Or.inl (by simp))
  have Z2 := Nat.le_trans Z0 (Keep.of_wr W2).1
  have Fw2 := ha1.same W2
  refine Go.via st2 ?_
  refine Vi (T2.setTop (mkF m 11 #[sR o0, sR o1, sR o2, sR o3] [(.ref o2), (.ref o0)])) (fun tZ kZ => ?_) ?_
  · refine XS.aloadN X2.here hx rfl (hb hby d8_9) rfl rfl ?_
    refine XS.aloadN X2.here hx rfl (hb hby d8_10) rfl rfl ?_
    exact kZ
  obtain ⟨T4, h4, X4, e4, W4, st4⟩ := putF X2 hx hZ hown (host := "") (Or.inl (wq hw 53 rfl)) Via.refl e2 c3_2 c3_0 (Or.inr ⟨(wq hw 54 rfl), rfl, hnm⟩) (wq hw 32 rfl) (ty := (.object "java/lang/String")) (by decide) rfl rfl (g := (mkF m 11 #[sR o0, sR o1, sR o2, sR o3] [(.ref o2), (.ref o0)])) rfl rfl (hb hby d8_11)
  have N4 := Fr.snoc X4 N2 ha4
  have c5_0 := c3_0.wr W4
  have c5_1 := Fw2.other W4 (Or.inr (slot_ne (Or.inr (wq hw 52 rfl)) (Or.inr (wq hw 54 rfl)) (by decide) (t := (.object "java/lang/String")) (t' := (.object "java/lang/String")) (by decide) (by decide)))
  have c5_3 := c3_3.other W4 (Or.inr (slot_ne (Or.inr (wq hw 56 rfl)) (Or.inr (wq hw 54 rfl)) (by decide) (t := (.object "java/util/Optional")) (t' := (.object "java/lang/String")) (by decide) (by decide)))
  have K4 : Keep h0 h4 [o0] := K2.wr W4 (Or.inl (by simp))
  have Z4 := Nat.le_trans Z2 (Keep.of_wr W4).1
  have Fw4 := c3_2.same W4
  refine Go.via st4 ?_
  refine Vi (T4.setTop (mkF m 16 #[sR o0, sR o1, sR o2, sR o3] [(.ref o3), (.ref o0)])) (fun tZ kZ => ?_) ?_
  · refine XS.aloadN X4.here hx rfl (hb hby d8_14) rfl rfl ?_
    refine XS.aloadN X4.here hx rfl (hb hby d8_15) rfl rfl ?_
    exact kZ
  obtain ⟨T6, h6, X6, e6, W6, st6⟩ := putF X4 hx hZ hown (host := "") (Or.inl (wq hw 55 rfl)) Via.refl e4 c5_3 c5_0 (Or.inr ⟨(wq hw 56 rfl), rfl, hnm⟩) (wq hw 32 rfl) (ty := (.object "java/util/Optional")) (by decide) rfl rfl (g := (mkF m 16 #[sR o0, sR o1, sR o2, sR o3] [(.ref o3), (.ref o0)])) rfl rfl (hb hby d8_16)
  have N6 := Fr.snoc X6 N4 ha4
  have c7_0 := c5_0.wr W6
  have c7_1 := c5_1.other W6 (Or.inr (slot_ne (Or.inr (wq hw 52 rfl)) (Or.inr (wq hw 56 rfl)) (by decide) (t := (.object "java/lang/String")) (t' := (.object "java/util/Optional")) (by decide) (by decide)))
  have c7_2 := Fw4.other W6 (Or.inr (slot_ne (Or.inr (wq hw 54 rfl)) (Or.inr (wq hw 56 rfl)) (by decide) (t := (.object "java/lang/String")) (t' := (.object "java/util/Optional")) (by decide) (by decide)))
  have K6 : Keep h0 h6 [o0] := K4.wr W6 (Or.inl (by simp))
  have Z6 := Nat.le_trans Z4 (Keep.of_wr W6).1
  have Fw6 := c5_3.same W6
  refine Go.via st6 ?_
  refine Go.retV X6 hx Bd.notSynchronized Bd.returns (hb hby d8_19) (by decide) (by decide) ?_
  rw [e6]
  exact ⟨rfl, N6, K6, c7_0, c7_1, c7_2, Fw6⟩
theorem d6_0 : decode B6 0 = .ok (.aload_n 0, 1) := by decide +kernel
theorem d6_1 : decode B6 1 = .ok (.aload_n 1, 1) := by decide +kernel
theorem d6_2 : decode B6 2 = .ok (.aload_n 2, 1) := by decide +kernel
theorem pd_6 : parseMethodDescriptor "()Ljava/util/Optional;" = some ⟨[], some (.object "java/util/Optional")⟩ := by decide +kernel
theorem d6_3 : decode B6 3 = .ok (.invokestatic 20, 3) := by decide +kernel
theorem pd_7 : parseMethodDescriptor "(Ljava/lang/String;Ljava/lang/String;Ljava/util/Optional;)V" = some ⟨[(.object "java/lang/String"), (.object "java/lang/String"), (.object "java/util/Optional")], none⟩ := by decide +kernel
theorem d6_6 : decode B6 6 = .ok (.invokespecial 26, 3) := by decide +kernel
theorem d6_9 : decode B6 9 = .ok (.return_, 1) := by decide +kernel
def Q6 (Z : State) (o0 : Addr) (o1 : Addr) (o2 : Addr) (em : Addr) (h0 : Heap) (n0 : Nat) (v : Option Value) (h : Heap) (L : List Loc) : Prop := v = none ∧ Fr n0 L ∧ Keep h0 h [o0] ∧ Exa Z h o0 "com/example/bindery/bindery/compiler/JavaType" ∧ Fld Z h o0 "com/example/bindery/bindery/compiler/JavaType" "packageName" "Ljava/lang/String;" (.ref o1) ∧ Fld Z h o0 "com/example/bindery/bindery/compiler/JavaType" "name" "Ljava/lang/String;" (.ref o2) ∧ Fld Z h o0 "com/example/bindery/bindery/compiler/JavaType" "argument" "Ljava/util/Optional;" (.ref em) ∧ Sta Z h "java/util/Optional" "EMPTY" "Ljava/util/Optional;" (.ref em)
abbrev RM_3_0_0_39 : Room := { frames := 3, cells := 0, slots := 0, locals := 39 }
theorem ef_6_aaa (m : MethodId) (x0 : Addr) (x1 : Addr) (x2 : Addr) : entryFrame m #[(.ref x0), (.ref x1), (.ref x2)] 3 = mkF m 0 #[.val (.ref x0), .val (.ref x1), .val (.ref x2)] [] := by first | (simp [entryFrame, mkF, argsToLocals, Value.category]; done) | rfl
theorem rm6 (l : Launch) (Z : State) (a0 : Array Value) (hw : HW a0 Z) (ws : List Jvm.Cond) (o0 : Addr) (o1 : Addr) (o2 : Addr) (em : Addr) (h0 : Heap) (n0 : Nat) (Z0 : n0 ≤ h0.size) (ha0 : Exa Z h0 o0 "com/example/bindery/bindery/compiler/JavaType") (ha1 : Fld Z h0 o0 "com/example/bindery/bindery/compiler/JavaType" "packageName" "Ljava/lang/String;" .null) (ha2 : Fld Z h0 o0 "com/example/bindery/bindery/compiler/JavaType" "name" "Ljava/lang/String;" .null) (ha3 : Fld Z h0 o0 "com/example/bindery/bindery/compiler/JavaType" "argument" "Ljava/util/Optional;" .null) (ha4 : n0 ≤ o0) (ha5 : Sta Z h0 "java/util/Optional" "EMPTY" "Ljava/util/Optional;" (.ref em)) :
    MetFree l y6 (head1 (Jvm.Cond.code y6 prog_5_method_1_code 3 none :: ws) RM_3_0_0_39) (fun a U => a = #[(.ref o0), (.ref o1), (.ref o2)] ∧ Z.Warmed39 U.vm ∧ U.heap = h0) (fun _ _ _ _ _ => True) (fun _ U o U' => ∃ v L, o = .returned v ∧ Q6 Z o0 o1 o2 em h0 n0 v U'.heap L ∧ FrameEnd U o U' L RM_3_0_0_39.cells RM_3_0_0_39.slots) := by
  refine MetFree.of_bodySF (plainFor_of_name pn_5) hisR ?_
  intro p e s m args below meth c s₁ Bd hml0 hP hK
  obtain ⟨rfl, hZ, hh⟩ := hP
  have hx := Bd.exec
  have hby := Bd.bytes
  have hml : c.maxLocals = 3 := hml0
  have hown : s.vm.findClass "com/example/bindery/bindery/compiler/JavaType" = some m.cls := findClass_of_methodNamed Bd.named
  have X0 : Stand p l e RM_3_0_0_39 s m _ below meth c s₁ [] 0 0 := Stand.of_body Bd
  have e0 : s₁.heap = h0 := by rw [← hh, Bd.state]; rfl
  have N0 := Fr.nil n0
  refine Go.into (P := fun oo uu => ∃ v L, oo = .returned v ∧ Q6 Z o0 o1 o2 em h0 n0 v uu.heap L ∧ FrameEnd s oo uu L RM_3_0_0_39.cells RM_3_0_0_39.slots) (ef_6_aaa m o0 o1 o2) ?_
  show Go p e below _ (s₁.setTop (mkF m 0 #[sR o0, sR o1, sR o2] []))
  refine Vi (s₁.setTop (mkF m 3 #[sR o0, sR o1, sR o2] [(.ref o2), (.ref o1), (.ref o0)])) (fun tZ kZ => ?_) ?_
  · refine XS.aloadN X0.here hx rfl (hb hby d6_0) rfl rfl ?_
    refine XS.aloadN X0.here hx rfl (hb hby d6_1) rfl rfl ?_
    refine XS.aloadN X0.here hx rfl (hb hby d6_2) rfl rfl ?_
    exact kZ
  obtain ⟨_, _, ⟨T1, L1, k1, n1⟩, -, X1, ⟨Lc1, hQ1, l1, y1, z1⟩, st1⟩ := Jvm.LawKit.callS X0 hx (y := y7) hown (wz hZ hw 37 rfl) (wz hZ hw 38 rfl) (wz hZ hw 39 rfl) (wz hZ hw 40 rfl) (by decide) (backOf (W := 3) (rm7 l Z a0 hw [] em h0 n0 Z0 ha5) hZ (wq hw 40 rfl) (wq hw 39 rfl) (by decide) (by decide)) (g := (mkF m 3 #[sR o0, sR o1, sR o2] [(.ref o2), (.ref o1), (.ref o0)])) rfl (by rw [hml]; rfl) (argsL := []) (rest := [(.ref o2), (.ref o1), (.ref o0)]) (lenOf pd_6 rfl) rfl (leW rfl) (hb hby d6_3) (fun _ _ => ⟨rfl, e0, (by decide : 0 + 0 ≤ _), (by decide : 0 + 0 ≤ _)⟩)
  dsimp only [Pt.U, Pt.locs, Pt.cells, Pt.slots] at X1 l1 y1 z1 st1 hQ1
  subst l1 y1 z1
  obtain ⟨rfl, N1q, e1⟩ := hQ1
  have N1 := Fr.app N0 N1q
  refine Go.via st1 ?_
  obtain ⟨_, _, ⟨T2, L2, k2, n2⟩, -, X2, ⟨Lc2, hQ2, l2, y2, z2⟩, st2⟩ := X1.specialBack hx (y := y8) rfl hown (wz hZ hw 42 rfl) (wz hZ hw 43 rfl) (wz hZ hw 44 rfl) (by decide) (backOf (W := 0) (rm8 l Z a0 hw [] o0 o1 o2 em h0 n0 Z0 ha0 ha1 ha2 ha3 ha4) hZ (wq hw 44 rfl) (wq hw 33 rfl) (by decide) (by decide)) (g := (mkF m 6 #[sR o0, sR o1, sR o2] [(.ref em), (.ref o2), (.ref o1), (.ref o0)])) rfl (by rw [hml]; rfl) (Steps.refl _) (a := o0) (argsL := [(.ref o1), (.ref o2), (.ref em)]) (rest := []) (lenOf pd_7 rfl) rfl (leW rfl) (hb hby d6_6) (fun _ _ => ⟨rfl, e1, (by decide : 0 + 0 + 0 ≤ _), (by decide : 0 + 0 + 0 ≤ _)⟩)
  dsimp only [Pt.U, Pt.locs, Pt.cells, Pt.slots] at X2 l2 y2 z2 st2 hQ2
  subst l2 y2 z2
  obtain ⟨rfl, N2q, Kq2, f2_0, f2_1, f2_2, f2_3⟩ := hQ2
  have c3_5 := own_sk ha5 Kq2 (own_ns1 ha0.nostat (fun _ _ _ _ => nin0))
  have K2 : Keep h0 T2.heap [o0] := (Keep.refl h0 [o0]).trans Kq2 (allS (Or.inl (by simp)) all0)
  have Z2 := Nat.le_trans Z0 Kq2.1
  have N2 := Fr.app N1 N2q
  refine Go.via (fun t k => st2.trans k) ?_
  refine Go.retV X2 hx Bd.notSynchronized Bd.returns (hb hby d6_9) (by decide) (by decide) ?_
  exact ⟨rfl, N2, K2, f2_0, f2_1, f2_2, f2_3, c3_5⟩
theorem d1_0 : decode B1 0 = .ok (.iload_n 1, 1) := by decide +kernel
theorem d1_1 : decode B1 1 = .ok (.iload_n 2, 1) := by decide +kernel
theorem d1_2 : decode B1 2 = .ok (.ishr, 1) := by decide +kernel
theorem d1_3 : decode B1 3 = .ok (.iconst 1, 1) := by decide +kernel
theorem d1_4 : decode B1 4 = .ok (.iand, 1) := by decide +kernel
theorem d1_5 : decode B1 5 = .ok (.ifCond .eq 8, 3) := by decide +kernel
theorem d1_13 : decode B1 13 = .ok (.iload_n 0, 1) := by decide +kernel
theorem d1_14 : decode B1 14 = .ok (.sipush 255, 3) := by decide +kernel
theorem d1_17 : decode B1 17 = .ok (.iand, 1) := by decide +kernel
theorem d1_18 : decode B1 18 = .ok (.i2c, 1) := by decide +kernel
theorem d1_8 : decode B1 8 = .ok (.bipush 46, 2) := by decide +kernel
theorem d1_10 : decode B1 10 = .ok (.goto 9, 3) := by decide +kernel
def w1_0 (p0 : Int32) (p1 : Int32) (p2 : Int32) : Int32 := (if ((p1 >>> (p2 &&& 31)) &&& (1 : Int32)) = (0 : Int32) then ((p0 &&& (255 : Int32)).toUInt32.toUInt16.toUInt32.toInt32) else (46 : Int32))
theorem d1_19 : decode B1 19 = .ok (.ireturn, 1) := by decide +kernel
def f1 (p0 : Int32) (p1 : Int32) (p2 : Int32) : Int32 := (nar .char (w1_0 p0 p1 p2))
def Q1 (p0 : Int32) (p1 : Int32) (p2 : Int32) (h0 : Heap) (n0 : Nat) (v : Option Value) (h : Heap) (L : List Loc) : Prop := v = some (.int (f1 p0 p1 p2)) ∧ Fr n0 L ∧ h = h0
theorem pn_6 : plainName "com/example/bindery/bindery/compiler/JavaTypeOuterNamePinLaw" = true := by first | (simp [plainName, overriddenIn]; done) | decide +kernel
theorem ef_1_aaa (m : MethodId) (x0 : Int32) (x1 : Int32) (x2 : Int32) : entryFrame m #[(.int x0), (.int x1), (.int x2)] 3 = mkF m 0 #[.val (.int x0), .val (.int x1), .val (.int x2)] [] := by first | (simp [entryFrame, mkF, argsToLocals, Value.category]; done) | rfl
theorem rm1 (l : Launch) (Z : State) (a0 : Array Value) (hw : HW a0 Z) (ws : List Jvm.Cond) (p0 : Int32) (p1 : Int32) (p2 : Int32) (h0 : Heap) (n0 : Nat) (Z0 : n0 ≤ h0.size) :
    MetFree l y1 (head1 (Jvm.Cond.code y1 method_3_code 3 (some .char) :: ws) RM_0_0_0_0) (fun a U => a = #[(.int p0), (.int p1), (.int p2)] ∧ Z.Warmed39 U.vm ∧ U.heap = h0) (fun _ _ _ _ _ => True) (fun _ U o U' => ∃ v L, o = .returned v ∧ Q1 p0 p1 p2 h0 n0 v U'.heap L ∧ FrameEnd U o U' L RM_0_0_0_0.cells RM_0_0_0_0.slots) := by
  refine MetFree.of_bodySF (plainFor_of_name pn_6) hisR ?_
  intro p e s m args below meth c s₁ Bd hml0 hP hK
  obtain ⟨rfl, hZ, hh⟩ := hP
  have hx := Bd.exec
  have hby := Bd.bytes
  have hml : c.maxLocals = 3 := hml0
  have hown : s.vm.findClass "com/example/bindery/bindery/compiler/JavaTypeOuterNamePinLaw" = some m.cls := findClass_of_methodNamed Bd.named
  have X0 : Stand p l e RM_0_0_0_0 s m _ below meth c s₁ [] 0 0 := Stand.of_body Bd
  have e0 : s₁.heap = h0 := by rw [← hh, Bd.state]; rfl
  have N0 := Fr.nil n0
  refine Go.into (P := fun oo uu => ∃ v L, oo = .returned v ∧ Q1 p0 p1 p2 h0 n0 v uu.heap L ∧ FrameEnd s oo uu L RM_0_0_0_0.cells RM_0_0_0_0.slots) (ef_1_aaa m p0 p1 p2) ?_
  show Go p e below _ (s₁.setTop (mkF m 0 #[sI p0, sI p1, sI p2] []))
  refine Vi (s₁.setTop (mkF m 19 #[sI p0, sI p1, sI p2] [(.int (w1_0 p0 p1 p2))])) (fun tZ kZ => ?_) ?_
  · refine XS.iloadN X0.here hx rfl (hb hby d1_0) rfl ?_
    refine XS.iloadN X0.here hx rfl (hb hby d1_1) rfl ?_
    refine XS.ishr X0.here hx rfl (hb hby d1_2) rfl ?_
    refine XS.iconst X0.here hx rfl (hb hby d1_3) ?_
    refine XS.iand X0.here hx rfl (hb hby d1_4) rfl ?_
    have sg5 : Steps p.tables e below (s₁.setTop (mkF m 19 #[sI p0, sI p1, sI p2] [(.int (if ((p1 >>> (p2 &&& 31)) &&& (1 : Int32)) = (0 : Int32) then ((p0 &&& (255 : Int32)).toUInt32.toUInt16.toUInt32.toInt32) else (46 : Int32)))])) tZ → Steps p.tables e below (s₁.setTop (mkF m 5 #[sI p0, sI p1, sI p2] [(.int ((p1 >>> (p2 &&& 31)) &&& (1 : Int32)))])) tZ := by
      intro kj
      by_cases hc5 : ((p1 >>> (p2 &&& 31)) &&& (1 : Int32)) = (0 : Int32)
      · try simp only [if_pos hc5] at kj
        refine XS.ifYes X0.here hx rfl (pc0 := 5) (pc' := 13) rfl (hb hby d1_5) rfl ((if0 _ _).trans (teq hc5).1) (by decide) (by decide) ?_
        refine XS.iloadN X0.here hx rfl (hb hby d1_13) rfl ?_
        refine XS.sipush X0.here hx rfl (hb hby d1_14) ?_
        refine XS.iand X0.here hx rfl (hb hby d1_17) rfl ?_
        refine XS.i2c X0.here hx rfl (hb hby d1_18) rfl ?_
        exact kj
      · try simp only [if_neg hc5] at kj
        refine XS.ifNo X0.here hx rfl (hb hby d1_5) rfl ((if0 _ _).trans (feq hc5).1) ?_
        refine XS.bipush X0.here hx rfl (hb hby d1_8) ?_
        refine XS.goto X0.here hx rfl (pc0 := 10) (pc' := 19) rfl (hb hby d1_10) (by decide) (by decide) ?_
        exact kj
    refine sg5 ?_
    show Steps p.tables e below (s₁.setTop (mkF m 19 #[sI p0, sI p1, sI p2] [(.int (w1_0 p0 p1 p2))])) _
    exact kZ
  refine Go.retN X0 hx Bd.notSynchronized (t := .char) Bd.returns (by simp) (hb hby d1_19) (by decide) (by decide) ?_
  refine ⟨?_, N0, e0⟩
  show some ((Value.int (nar .char (w1_0 p0 p1 p2))) : Value) = some (.int (f1 p0 p1 p2))
  rfl
theorem own_pick (a b i : Int32) : own_ch (f1 a b i) := by
  unfold f1 w1_0
  split
  · exact own_idc2 a
  · exact ⟨⟨46, by decide⟩, by decide⟩
theorem own_sh0 (x : Int32) : x >>> ((0 : Int32) &&& 31) = x := by
  apply Int32.toBitVec_inj.mp
  rw [Int32.toBitVec_shiftRight]
  show x.toBitVec.sshiftRight _ = _
  exact BitVec.sshiftRight_zero
theorem d14_0 : decode B14 0 = .ok (.aload_n 0, 1) := by decide +kernel
theorem d14_1 : decode B14 1 = .ok (.getfield 9, 3) := by decide +kernel
theorem d14_4 : decode B14 4 = .ok (.arraylength, 1) := by decide +kernel
theorem d14_5 : decode B14 5 = .ok (.aload_n 0, 1) := by decide +kernel
theorem pd_13 : parseMethodDescriptor "()B" = some ⟨[], some .byte⟩ := by decide +kernel
theorem d14_6 : decode B14 6 = .ok (.invokevirtual 335, 3) := by decide +kernel
theorem d14_9 : decode B14 9 = .ok (.ishr, 1) := by decide +kernel
theorem d14_10 : decode B14 10 = .ok (.ireturn, 1) := by decide +kernel
def f14 (o0 : Addr) (b0 : Addr) (nN : Nat) (fF : Nat → Int32) (cs : Int32) : Int32 := ((Int32.ofNat nN) >>> ((0 : Int32) &&& 31))
def Q14 (o0 : Addr) (b0 : Addr) (nN : Nat) (fF : Nat → Int32) (cs : Int32) (h0 : Heap) (n0 : Nat) (v : Option Value) (h : Heap) (L : List Loc) : Prop := v = some (.int (f14 o0 b0 nN fF cs)) ∧ Fr n0 L ∧ h = h0
abbrev RM_1_0_0_13 : Room := { frames := 1, cells := 0, slots := 0, locals := 13 }
theorem ef_14_a (m : MethodId) (x0 : Addr) : entryFrame m #[(.ref x0)] 1 = mkF m 0 #[.val (.ref x0)] [] := by first | (simp [entryFrame, mkF, argsToLocals, Value.category]; done) | rfl
theorem rm14 (l : Launch) (Z : State) (a0 : Array Value) (hw : HW a0 Z) (ws : List Jvm.Cond) (o0 : Addr) (b0 : Addr) (nN : Nat) (fF : Nat → Int32) (cs : Int32) (h0 : Heap) (n0 : Nat) (Z0 : n0 ≤ h0.size) (ha0 : Exa Z h0 o0 "java/lang/String") (ha1 : Fld Z h0 o0 "java/lang/String" "coder" "B" (.int 0)) (ha2 : Fld Z h0 o0 "java/lang/String" "value" "[B" (.ref b0)) (ha3 : AV Z h0 b0 .byte nN (fun k => .int (fF k))) (ha4 : Sta Z h0 "java/lang/String" "COMPACT_STRINGS" "Z" (.int cs)) (hcs : ¬ cs = 0) :
    MetFree l y14 (head1 (Jvm.Cond.code y14 jdk_42_method_54_code 1 (some .int) :: ws) RM_1_0_0_13) (fun a U => a = #[(.ref o0)] ∧ Z.Warmed39 U.vm ∧ U.heap = h0) (fun _ _ _ _ _ => True) (fun _ U o U' => ∃ v L, o = .returned v ∧ Q14 o0 b0 nN fF cs h0 n0 v U'.heap L ∧ FrameEnd U o U' L RM_1_0_0_13.cells RM_1_0_0_13.slots) := by
  refine MetFree.of_bodySF (plainFor_of_name pn_0) hisR ?_
  intro p e s m args below meth c s₁ Bd hml0 hP hK
  obtain ⟨rfl, hZ, hh⟩ := hP
  have hx := Bd.exec
  have hby := Bd.bytes
  have hml : c.maxLocals = 1 := hml0
  have hown : s.vm.findClass "java/lang/String" = some m.cls := findClass_of_methodNamed Bd.named
  have X0 : Stand p l e RM_1_0_0_13 s m _ below meth c s₁ [] 0 0 := Stand.of_body Bd
  have e0 : s₁.heap = h0 := by rw [← hh, Bd.state]; rfl
  have N0 := Fr.nil n0
  refine Go.into (P := fun oo uu => ∃ v L, oo = .returned v ∧ Q14 o0 b0 nN fF cs h0 n0 v uu.heap L ∧ FrameEnd s oo uu L RM_1_0_0_13.cells RM_1_0_0_13.slots) (ef_14_a m o0) ?_
  show Go p e below _ (s₁.setTop (mkF m 0 #[sR o0] []))
  refine Vi (s₁.setTop (mkF m 1 #[sR o0] [(.ref o0)])) (fun tZ kZ => ?_) ?_
  · refine XS.aloadN X0.here hx rfl (hb hby d14_0) rfl rfl ?_
    exact kZ
  obtain ⟨T1, X1, e1, st1⟩ := getF X0 hx hZ hown (host := "") (Or.inl (wq hw 28 rfl)) Via.refl e0 ha2 (g := (mkF m 1 #[sR o0] [(.ref o0)])) rfl rfl (hb hby d14_1)
  refine Go.via st1 ?_
  refine Vi (T1.setTop (mkF m 6 #[sR o0] [(.ref o0), (.int (Int32.ofNat nN))])) (fun tZ kZ => ?_) ?_
  · refine AV.len ha3 X1 hx hZ e1 (hb hby d14_4) ?_
    refine XS.aloadN X1.here hx rfl (hb hby d14_5) rfl rfl ?_
    exact kZ
  obtain ⟨cq2, kq2, q2a, q2b, q2c⟩ := isOf hZ e1 ha0
  obtain ⟨_, _, ⟨T2, L2, k2, n2⟩, -, X2, ⟨Lc2, hQ2, l2, y2, z2⟩, st2⟩ := X1.virtualBack hx (y := y15) (z := y15) hown (wz hZ hw 83 rfl) (wz hZ hw 84 rfl) (notFace_of_selects (args := #[]) (wz hZ hw 86 rfl)) (wz hZ hw 86 rfl) (wz hZ hw 85 rfl) (by decide) (backOf (W := 1) (rm15 l Z a0 hw [] o0 cs h0 n0 Z0 ha1 ha4 hcs) hZ (wq hw 87 rfl) (wq hw 10 rfl) (by decide) (by decide)) q2a q2c (g := (mkF m 6 #[sR o0] [(.ref o0), (.int (Int32.ofNat nN))])) rfl (by rw [hml]; rfl) (Steps.refl _) (argsL := []) (rest := [(.int (Int32.ofNat nN))]) (lenOf pd_13 rfl) rfl (leW rfl) (hb hby d14_6) (fun _ _ => ⟨rfl, e1, (by decide : 0 + 0 ≤ _), (by decide : 0 + 0 ≤ _)⟩)
  dsimp only [Pt.U, Pt.locs, Pt.cells, Pt.slots] at X2 l2 y2 z2 st2 hQ2
  subst l2 y2 z2
  obtain ⟨rfl, N2q, e2⟩ := hQ2
  have hv2 : (f15 o0 cs) = (0 : Int32) := by unfold f15; decide
  rw [hv2] at st2
  have N2 := Fr.app N0 N2q
  refine Go.via (fun t k => st2.trans k) ?_
  refine Vi (T2.setTop (mkF m 10 #[sR o0] [(.int ((Int32.ofNat nN) >>> ((0 : Int32) &&& 31)))])) (fun tZ kZ => ?_) ?_
  · refine XS.ishr X2.here hx rfl (hb hby d14_9) rfl ?_
    exact kZ
  refine Go.retI X2 hx Bd.notSynchronized Bd.returns (hb hby d14_10) (by decide) (by decide) ?_
  refine ⟨?_, N2, e2⟩
  show some ((.int ((Int32.ofNat nN) >>> ((0 : Int32) &&& 31))) : Value) = some (.int (f14 o0 b0 nN fF cs))
  rfl
theorem d33_0 : decode B33 0 = .ok (.iload_n 1, 1) := by decide +kernel
theorem d33_1 : decode B33 1 = .ok (.aload_n 0, 1) := by decide +kernel
theorem d33_2 : decode B33 2 = .ok (.arraylength, 1) := by decide +kernel
theorem pd_24 : parseMethodDescriptor "(II)V" = some ⟨[.int, .int], none⟩ := by decide +kernel
theorem d33_3 : decode B33 3 = .ok (.invokestatic 9, 3) := by decide +kernel
theorem d33_6 : decode B33 6 = .ok (.aload_n 0, 1) := by decide +kernel
theorem d33_7 : decode B33 7 = .ok (.iload_n 1, 1) := by decide +kernel
theorem d33_8 : decode B33 8 = .ok (.baload, 1) := by decide +kernel
theorem d33_9 : decode B33 9 = .ok (.sipush 255, 3) := by decide +kernel
theorem d33_12 : decode B33 12 = .ok (.iand, 1) := by decide +kernel
theorem d33_13 : decode B33 13 = .ok (.i2c, 1) := by decide +kernel
theorem d33_14 : decode B33 14 = .ok (.ireturn, 1) := by decide +kernel
def f33 (o0 : Addr) (p1 : Int32) (nN : Nat) (fF : Nat → Int32) (sv : Value) : Int32 := (nar .char (((fF p1.toNatClampNeg) &&& (255 : Int32)).toUInt32.toUInt16.toUInt32.toInt32))
def Q33 (o0 : Addr) (p1 : Int32) (nN : Nat) (fF : Nat → Int32) (sv : Value) (h0 : Heap) (n0 : Nat) (v : Option Value) (h : Heap) (L : List Loc) : Prop := v = some (.int (f33 o0 p1 nN fF sv)) ∧ Fr n0 L ∧ h = h0
abbrev RM_2_0_0_27 : Room := { frames := 2, cells := 0, slots := 0, locals := 27 }
theorem ef_33_aa (m : MethodId) (x0 : Addr) (x1 : Int32) : entryFrame m #[(.ref x0), (.int x1)] 2 = mkF m 0 #[.val (.ref x0), .val (.int x1)] [] := by first | (simp [entryFrame, mkF, argsToLocals, Value.category]; done) | rfl
theorem rm33 (l : Launch) (Z : State) (a0 : Array Value) (hw : HW a0 Z) (ws : List Jvm.Cond) (o0 : Addr) (p1 : Int32) (nN : Nat) (fF : Nat → Int32) (sv : Value) (h0 : Heap) (n0 : Nat) (Z0 : n0 ≤ h0.size) (ha0 : AV Z h0 o0 .byte nN (fun k => .int (fF k))) (ha1 : Sta Z h0 "jdk/internal/util/Preconditions" "SIOOBE_FORMATTER" "Ljava/util/function/BiFunction;" sv) (hp0 : ¬ p1 < 0) (hp1 : p1 < (Int32.ofNat nN)) (hp2 : p1.toNatClampNeg < nN) (hsv : sv.isRef = true) :
    MetFree l y33 (head1 (Jvm.Cond.code y33 jdk_43_method_2_code 2 (some .char) :: ws) RM_2_0_0_27) (fun a U => a = #[(.ref o0), (.int p1)] ∧ Z.Warmed39 U.vm ∧ U.heap = h0) (fun _ _ _ _ _ => True) (fun _ U o U' => ∃ v L, o = .returned v ∧ Q33 o0 p1 nN fF sv h0 n0 v U'.heap L ∧ FrameEnd U o U' L RM_2_0_0_27.cells RM_2_0_0_27.slots) := by
  refine MetFree.of_bodySF (plainFor_of_name pn_1) hisR ?_
  intro p e s m args below meth c s₁ Bd hml0 hP hK
  obtain ⟨rfl, hZ, hh⟩ := hP
  have hx := Bd.exec
  have hby := Bd.bytes
  have hml : c.maxLocals = 2 := hml0
  have hown : s.vm.findClass "java/lang/StringLatin1" = some m.cls := findClass_of_methodNamed Bd.named
  have X0 : Stand p l e RM_2_0_0_27 s m _ below meth c s₁ [] 0 0 := Stand.of_body Bd
  have e0 : s₁.heap = h0 := by rw [← hh, Bd.state]; rfl
  have N0 := Fr.nil n0
  refine Go.into (P := fun oo uu => ∃ v L, oo = .returned v ∧ Q33 o0 p1 nN fF sv h0 n0 v uu.heap L ∧ FrameEnd s oo uu L RM_2_0_0_27.cells RM_2_0_0_27.slots) (ef_33_aa m o0 p1) ?_
  show Go p e below _ (s₁.setTop (mkF m 0 #[sR o0, sI p1] []))
  refine Vi (s₁.setTop (mkF m 3 #[sR o0, sI p1] [(.int (Int32.ofNat nN)), (.int p1)])) (fun tZ kZ => ?_) ?_
  · refine XS.iloadN X0.here hx rfl (hb hby d33_0) rfl ?_
    refine XS.aloadN X0.here hx rfl (hb hby d33_1) rfl rfl ?_
    refine AV.len ha0 X0 hx hZ e0 (hb hby d33_2) ?_
    exact kZ
  obtain ⟨_, _, ⟨T1, L1, k1, n1⟩, -, X1, ⟨Lc1, hQ1, l1, y1, z1⟩, st1⟩ := Jvm.LawKit.callS X0 hx (y := y34) hown (wz hZ hw 159 rfl) (wz hZ hw 160 rfl) (wz hZ hw 10 rfl) (wz hZ hw 161 rfl) (by decide) (backOf (W := 0) (rm34 l Z a0 hw [] p1 (Int32.ofNat nN) sv h0 n0 Z0 ha1 hp0 hp1 hsv) hZ (wq hw 161 rfl) (wq hw 10 rfl) (by decide) (by decide)) (g := (mkF m 3 #[sR o0, sI p1] [(.int (Int32.ofNat nN)), (.int p1)])) rfl (by rw [hml]; rfl) (argsL := [(.int p1), (.int (Int32.ofNat nN))]) (rest := []) (lenOf pd_24 rfl) rfl (leW rfl) (hb hby d33_3) (fun _ _ => ⟨rfl, e0, (by decide : 0 + 0 ≤ _), (by decide : 0 + 0 ≤ _)⟩)
  dsimp only [Pt.U, Pt.locs, Pt.cells, Pt.slots] at X1 l1 y1 z1 st1 hQ1
  subst l1 y1 z1
  obtain ⟨rfl, N1q, e1⟩ := hQ1
  have N1 := Fr.app N0 N1q
  refine Go.via st1 ?_
  refine Vi (T1.setTop (mkF m 14 #[sR o0, sI p1] [(.int (((fF p1.toNatClampNeg) &&& (255 : Int32)).toUInt32.toUInt16.toUInt32.toInt32))])) (fun tZ kZ => ?_) ?_
  · refine XS.aloadN X1.here hx rfl (hb hby d33_6) rfl rfl ?_
    refine XS.iloadN X1.here hx rfl (hb hby d33_7) rfl ?_
    refine AV.baload ha0 X1 hx hZ e1 (j := p1) ⟨hp0, hp2⟩ (hb hby d33_8) ?_
    refine XS.sipush X1.here hx rfl (hb hby d33_9) ?_
    refine XS.iand X1.here hx rfl (hb hby d33_12) rfl ?_
    refine XS.i2c X1.here hx rfl (hb hby d33_13) rfl ?_
    exact kZ
  refine Go.retN X1 hx Bd.notSynchronized (t := .char) Bd.returns (by simp) (hb hby d33_14) (by decide) (by decide) ?_
  refine ⟨?_, N1, e1⟩
  show some ((Value.int (nar .char (((fF p1.toNatClampNeg) &&& (255 : Int32)).toUInt32.toUInt16.toUInt32.toInt32))) : Value) = some (.int (f33 o0 p1 nN fF sv))
  rfl
theorem d32_0 : decode B32 0 = .ok (.aload_n 0, 1) := by decide +kernel
theorem pd_11 : parseMethodDescriptor "()Z" = some ⟨[], some .boolean⟩ := by decide +kernel
theorem d32_1 : decode B32 1 = .ok (.invokevirtual 492, 3) := by decide +kernel
theorem d32_4 : decode B32 4 = .ok (.ifCond .eq 12, 3) := by decide +kernel
theorem d32_7 : decode B32 7 = .ok (.aload_n 0, 1) := by decide +kernel
theorem d32_8 : decode B32 8 = .ok (.getfield 9, 3) := by decide +kernel
theorem d32_11 : decode B32 11 = .ok (.iload_n 1, 1) := by decide +kernel
theorem pd_28 : parseMethodDescriptor "([BI)C" = some ⟨[(.array .byte), .int], some .char⟩ := by decide +kernel
theorem d32_12 : decode B32 12 = .ok (.invokestatic 495, 3) := by decide +kernel
theorem d32_15 : decode B32 15 = .ok (.ireturn, 1) := by decide +kernel
def f32 (o0 : Addr) (p1 : Int32) (b0 : Addr) (nN : Nat) (fF : Nat → Int32) (cs : Int32) (sv : Value) : Int32 := (nar .char (f33 b0 p1 nN fF sv))
def Q32 (o0 : Addr) (p1 : Int32) (b0 : Addr) (nN : Nat) (fF : Nat → Int32) (cs : Int32) (sv : Value) (h0 : Heap) (n0 : Nat) (v : Option Value) (h : Heap) (L : List Loc) : Prop := v = some (.int (f32 o0 p1 b0 nN fF cs sv)) ∧ Fr n0 L ∧ h = h0
abbrev RM_3_0_0_40 : Room := { frames := 3, cells := 0, slots := 0, locals := 40 }
theorem ef_32_aa (m : MethodId) (x0 : Addr) (x1 : Int32) : entryFrame m #[(.ref x0), (.int x1)] 2 = mkF m 0 #[.val (.ref x0), .val (.int x1)] [] := by first | (simp [entryFrame, mkF, argsToLocals, Value.category]; done) | rfl
theorem rm32 (l : Launch) (Z : State) (a0 : Array Value) (hw : HW a0 Z) (ws : List Jvm.Cond) (o0 : Addr) (p1 : Int32) (b0 : Addr) (nN : Nat) (fF : Nat → Int32) (cs : Int32) (sv : Value) (h0 : Heap) (n0 : Nat) (Z0 : n0 ≤ h0.size) (ha0 : Exa Z h0 o0 "java/lang/String") (ha1 : Fld Z h0 o0 "java/lang/String" "coder" "B" (.int 0)) (ha2 : Fld Z h0 o0 "java/lang/String" "value" "[B" (.ref b0)) (ha3 : AV Z h0 b0 .byte nN (fun k => .int (fF k))) (ha4 : Sta Z h0 "java/lang/String" "COMPACT_STRINGS" "Z" (.int cs)) (ha5 : Sta Z h0 "jdk/internal/util/Preconditions" "SIOOBE_FORMATTER" "Ljava/util/function/BiFunction;" sv) (hcs : ¬ cs = 0) (hp0 : ¬ p1 < 0) (hp1 : p1 < (Int32.ofNat nN)) (hp2 : p1.toNatClampNeg < nN) (hsv : sv.isRef = true) :
    MetFree l y32 (head1 (Jvm.Cond.code y32 jdk_42_method_56_code 2 (some .char) :: ws) RM_3_0_0_40) (fun a U => a = #[(.ref o0), (.int p1)] ∧ Z.Warmed39 U.vm ∧ U.heap = h0) (fun _ _ _ _ _ => True) (fun _ U o U' => ∃ v L, o = .returned v ∧ Q32 o0 p1 b0 nN fF cs sv h0 n0 v U'.heap L ∧ FrameEnd U o U' L RM_3_0_0_40.cells RM_3_0_0_40.slots) := by
  refine MetFree.of_bodySF (plainFor_of_name pn_0) hisR ?_
  intro p e s m args below meth c s₁ Bd hml0 hP hK
  obtain ⟨rfl, hZ, hh⟩ := hP
  have hx := Bd.exec
  have hby := Bd.bytes
  have hml : c.maxLocals = 2 := hml0
  have hown : s.vm.findClass "java/lang/String" = some m.cls := findClass_of_methodNamed Bd.named
  have X0 : Stand p l e RM_3_0_0_40 s m _ below meth c s₁ [] 0 0 := Stand.of_body Bd
  have e0 : s₁.heap = h0 := by rw [← hh, Bd.state]; rfl
  have N0 := Fr.nil n0
  refine Go.into (P := fun oo uu => ∃ v L, oo = .returned v ∧ Q32 o0 p1 b0 nN fF cs sv h0 n0 v uu.heap L ∧ FrameEnd s oo uu L RM_3_0_0_40.cells RM_3_0_0_40.slots) (ef_32_aa m o0 p1) ?_
  show Go p e below _ (s₁.setTop (mkF m 0 #[sR o0, sI p1] []))
  refine Vi (s₁.setTop (mkF m 1 #[sR o0, sI p1] [(.ref o0)])) (fun tZ kZ => ?_) ?_
  · refine XS.aloadN X0.here hx rfl (hb hby d32_0) rfl rfl ?_
    exact kZ
  obtain ⟨cq1, kq1, q1a, q1b, q1c⟩ := isOf hZ e0 ha0
  obtain ⟨_, _, ⟨T1, L1, k1, n1⟩, -, X1, ⟨Lc1, hQ1, l1, y1, z1⟩, st1⟩ := X0.virtualBack hx (y := y13) (z := y13) hown (wz hZ hw 72 rfl) (wz hZ hw 73 rfl) (notFace_of_selects (args := #[]) (wz hZ hw 75 rfl)) (wz hZ hw 75 rfl) (wz hZ hw 74 rfl) (by decide) (backOf (W := 0) (rm13 l Z a0 hw [] o0 cs h0 n0 Z0 ha1 ha4 hcs) hZ (wq hw 76 rfl) (wq hw 10 rfl) (by decide) (by decide)) q1a q1c (g := (mkF m 1 #[sR o0, sI p1] [(.ref o0)])) rfl (by rw [hml]; rfl) (Steps.refl _) (argsL := []) (rest := []) (lenOf pd_11 rfl) rfl (leW rfl) (hb hby d32_1) (fun _ _ => ⟨rfl, e0, (by decide : 0 + 0 ≤ _), (by decide : 0 + 0 ≤ _)⟩)
  dsimp only [Pt.U, Pt.locs, Pt.cells, Pt.slots] at X1 l1 y1 z1 st1 hQ1
  subst l1 y1 z1
  obtain ⟨rfl, N1q, e1⟩ := hQ1
  have hv1 : (f13 o0 cs) = (1 : Int32) := by unfold f13; decide
  rw [hv1] at st1
  have N1 := Fr.app N0 N1q
  refine Go.via (fun t k => st1.trans k) ?_
  refine Vi (T1.setTop (mkF m 8 #[sR o0, sI p1] [(.ref o0)])) (fun tZ kZ => ?_) ?_
  · refine XS.ifNo X1.here hx rfl (hb hby d32_4) rfl ((if0 _ _).trans (feq (by decide)).1) ?_
    refine XS.aloadN X1.here hx rfl (hb hby d32_7) rfl rfl ?_
    exact kZ
  obtain ⟨T2, X2, e2, st2⟩ := getF X1 hx hZ hown (host := "") (Or.inl (wq hw 28 rfl)) Via.refl e1 ha2 (g := (mkF m 8 #[sR o0, sI p1] [(.ref o0)])) rfl rfl (hb hby d32_8)
  refine Go.via st2 ?_
  refine Vi (T2.setTop (mkF m 12 #[sR o0, sI p1] [(.int p1), (.ref b0)])) (fun tZ kZ => ?_) ?_
  · refine XS.iloadN X2.here hx rfl (hb hby d32_11) rfl ?_
    exact kZ
  obtain ⟨_, _, ⟨T3, L3, k3, n3⟩, -, X3, ⟨Lc3, hQ3, l3, y3, z3⟩, st3⟩ := Jvm.LawKit.callS X2 hx (y := y33) hown (wz hZ hw 156 rfl) (wz hZ hw 157 rfl) (wz hZ hw 90 rfl) (wz hZ hw 158 rfl) (by decide) (backOf (W := 0) (rm33 l Z a0 hw [] b0 p1 nN fF sv h0 n0 Z0 ha3 ha5 hp0 hp1 hp2 hsv) hZ (wq hw 158 rfl) (wq hw 90 rfl) (by decide) (by decide)) (g := (mkF m 12 #[sR o0, sI p1] [(.int p1), (.ref b0)])) rfl (by rw [hml]; rfl) (argsL := [(.ref b0), (.int p1)]) (rest := []) (lenOf pd_28 rfl) rfl (leW rfl) (hb hby d32_12) (fun _ _ => ⟨rfl, e2, (by decide : 0 + 0 + 0 ≤ _), (by decide : 0 + 0 + 0 ≤ _)⟩)
  dsimp only [Pt.U, Pt.locs, Pt.cells, Pt.slots] at X3 l3 y3 z3 st3 hQ3
  subst l3 y3 z3
  obtain ⟨rfl, N3q, e3⟩ := hQ3
  have N3 := Fr.app N1 N3q
  refine Go.via st3 ?_
  refine Go.retN X3 hx Bd.notSynchronized (t := .char) Bd.returns (by simp) (hb hby d32_15) (by decide) (by decide) ?_
  refine ⟨?_, N3, e3⟩
  show some ((Value.int (nar .char (f33 b0 p1 nN fF sv))) : Value) = some (.int (f32 o0 p1 b0 nN fF cs sv))
  rfl
theorem d4_0 : decode B4 0 = .ok (.aload_n 0, 1) := by decide +kernel
theorem d4_1 : decode B4 1 = .ok (.invokespecial 1, 3) := by decide +kernel
theorem d4_4 : decode B4 4 = .ok (.iload_n 3, 1) := by decide +kernel
theorem d4_5 : decode B4 5 = .ok (.ifCond .ne 22, 3) := by decide +kernel
theorem d4_8 : decode B4 8 = .ok (.aload_n 0, 1) := by decide +kernel
theorem d4_9 : decode B4 9 = .ok (.ldc 7, 2) := by decide +kernel
theorem d4_11 : decode B4 11 = .ok (.getfield 9, 3) := by decide +kernel
theorem d4_14 : decode B4 14 = .ok (.putfield 9, 3) := by decide +kernel
theorem d4_17 : decode B4 17 = .ok (.aload_n 0, 1) := by decide +kernel
theorem d4_18 : decode B4 18 = .ok (.ldc 7, 2) := by decide +kernel
theorem d4_20 : decode B4 20 = .ok (.getfield 15, 3) := by decide +kernel
theorem d4_23 : decode B4 23 = .ok (.putfield 15, 3) := by decide +kernel
theorem d4_26 : decode B4 26 = .ok (.return_, 1) := by decide +kernel
def Q4w (Z : State) (o0 : Addr) (o1 : Addr) (h0 : Heap) (n0 : Nat) (v : Option Value) (h : Heap) (L : List Loc) : Prop := ∃ ab2 : Addr, v = none ∧ Fr n0 L ∧ Keep h0 h [o0] ∧ Exa Z h o0 "java/lang/String" ∧ Fld Z h o0 "java/lang/String" "value" "[B" (.ref ab2) ∧ Fld Z h o0 "java/lang/String" "coder" "B" (.int 0) ∧ AV Z h ab2 .byte 0 (fun k => .int ((own_t []) k))
abbrev RM_1_4_136_12 : Room := { frames := 1, cells := 4, slots := 136, locals := 12 }
theorem ef_4_aaaan (m : MethodId) (x0 : Addr) (x1 : Addr) (x2 : Int32) (x3 : Int32) : entryFrame m #[(.ref x0), (.ref x1), (.int x2), (.int x3), .null] 6 = mkF m 0 #[.val (.ref x0), .val (.ref x1), .val (.int x2), .val (.int x3), .val .null, .unset] [] := by first | (simp [entryFrame, mkF, argsToLocals, Value.category]; done) | rfl
theorem rm4w (l : Launch) (Z : State) (a0 : Array Value) (hw : HW a0 Z) (ws : List Jvm.Cond) (o0 : Addr) (o1 : Addr) (h0 : Heap) (n0 : Nat) (Z0 : n0 ≤ h0.size) (ha0 : Exa Z h0 o0 "java/lang/String") (ha1 : Fld Z h0 o0 "java/lang/String" "value" "[B" .null) (ha2 : Fld Z h0 o0 "java/lang/String" "coder" "B" (.int 0)) (ha3 : n0 ≤ o0) :
    MetFree l y4 (head1 (Jvm.Cond.code y4 jdk_42_method_149_code 6 none :: ws) RM_1_4_136_12) (fun a U => a = #[(.ref o0), (.ref o1), (.int 0), (.int 0), .null] ∧ Z.Warmed39 U.vm ∧ U.heap = h0 ∧ CHv Z own_EL U.vm h0) (fun _ _ _ _ _ => True) (fun _ U o U' => ∃ v L, o = .returned v ∧ Q4w Z o0 o1 h0 n0 v U'.heap L ∧ CHr Z own_EL U.vm U.heap U'.vm U'.heap ∧ ReturnedEndW U o U' L RM_1_4_136_12.cells RM_1_4_136_12.slots) := by
  refine MetFree.of_bodySF (plainFor_of_name pn_0) hisR ?_
  intro p e s m args below meth c s₁ Bd hml0 hP hK
  obtain ⟨rfl, hZ, hh, hCH⟩ := hP
  have hx := Bd.exec
  have hby := Bd.bytes
  have hml : c.maxLocals = 6 := hml0
  have hown : s.vm.findClass "java/lang/String" = some m.cls := findClass_of_methodNamed Bd.named
  have hnm := (name_of_methodNamed Bd.named Bd.method).1
  have X0 : Stand p l e RM_1_4_136_12 s m _ below meth c s₁ [] 0 0 := Stand.of_body Bd
  have e0 : s₁.heap = h0 := by rw [← hh, Bd.state]; rfl
  have N0 := Fr.nil n0
  refine Go.into (P := fun oo uu => ∃ v L, oo = .returned v ∧ Q4w Z o0 o1 h0 n0 v uu.heap L ∧ CHr Z own_EL s.vm s.heap uu.vm uu.heap ∧ ReturnedEndW s oo uu L RM_1_4_136_12.cells RM_1_4_136_12.slots) (ef_4_aaaan m o0 o1 (0 : Int32) (0 : Int32)) ?_
  show Go p e below _ (s₁.setTop (mkF m 0 #[sR o0, sR o1, sI 0, sI 0, .val .null, .unset] []))
  have hS0 : s.Since s.vm 0 := (State.WarmedH.refl s).since 0
  have wS : ∀ a ∈ Bundle.stringAtoms, a.before a0 Z = true := by
    intro d hd
    simp only [Bundle.stringAtoms, List.mem_cons, List.not_mem_nil, or_false] at hd
    rcases hd with rfl | rfl | rfl | rfl | rfl | rfl | rfl
    · exact (wq hw 10 rfl)
    · exact (wq hw 9 rfl)
    · exact (wq hw 23 rfl)
    · exact (wq hw 24 rfl)
    · exact (wq hw 25 rfl)
    · exact (wq hw 26 rfl)
    · exact (wq hw 27 rfl)
  have Sf_o0 : Safe Z own_EL s.vm h0 o0 := own_safeNull hZ.alike ha0 ha1
  refine Vi (s₁.setTop (mkF m 1 #[sR o0, sR o1, sI 0, sI 0, .val .null, .unset] [(.ref o0)])) (fun tZ kZ => ?_) ?_
  · refine XS.aloadN X0.here hx rfl (hb hby d4_0) rfl rfl ?_
    exact kZ
  obtain ⟨T1, X1, e1, st1⟩ := initO X0 hx hZ hown (wq hw 19 rfl) (wq hw 20 rfl) (wq hw 21 rfl) e0 (g := (mkF m 1 #[sR o0, sR o1, sI 0, sI 0, .val .null, .unset] [(.ref o0)])) rfl (by rw [hml]; rfl) rfl (hb hby d4_1) (by decide) (W := 0) (by show 2 * 0 + _ ≤ _; exact Nat.le_of_eq rfl) (by decide)
  refine Go.via st1 ?_
  refine Vi (T1.setTop (mkF m 9 #[sR o0, sR o1, sI 0, sI 0, .val .null, .unset] [(.ref o0)])) (fun tZ kZ => ?_) ?_
  · refine XS.iloadN X1.here hx rfl (hb hby d4_4) rfl ?_
    refine XS.ifNo X1.here hx rfl (hb hby d4_5) rfl ((if0 _ _).trans (teq (by decide)).2) ?_
    refine XS.aloadN X1.here hx rfl (hb hby d4_8) rfl rfl ?_
    exact kZ
  obtain ⟨as2, T2, h2, kk2, ab2, kc2, X2, e2, E2, hS2, hk2, hZ, hown, Ea2, Fc2, Fv2, Ar2, -, -, A2, -, nS2, st2⟩ := ldcCH (s := s) (vm0 := s.vm) (EL := own_EL) X1 hx hZ hown (wq hw 22 rfl) wS e1 hS0 (Nat.zero_le _) (own_EW hw) (by simp [own_EL]) hCH (vs := ([] : List Int32).map Value.int) (z := 0) ⟨by decide, by decide +kernel⟩ (by decide) rfl (g := (mkF m 9 #[sR o0, sR o1, sI 0, sI 0, .val .null, .unset] [(.ref o0)])) rfl (hb hby d4_9) (n := 64) (by decide) (by decide) (by decide) (by decide)
  have Sf3_0 := A2.safe ha0.lt Sf_o0
  have CR3c := CHr.trans (CHr.refl hCH) A2
  have c4_0 := ha0.ext E2
  have c4_1 := ha1.ext E2
  have c4_2 := ha2.ext E2
  have Va2 := AV.ofArv Ar2 (n := 0) rfl (by decide)
  have K2 : Keep h0 h2 [o0] := (Keep.refl h0 [o0]).ext E2
  have Z2 := Nat.le_trans Z0 E2.1
  have ne_o0_as2 := (nS2 o0 Sf3_0).1
  have ne_o0_ab2 := (nS2 o0 Sf3_0).2
  refine Go.via st2 ?_
  obtain ⟨T5, X5, e5, st5⟩ := getF X2 hx hZ hown (host := "") (Or.inl (wq hw 28 rfl)) Via.refl e2 Fv2 (g := (mkF m 11 #[sR o0, sR o1, sI 0, sI 0, .val .null, .unset] [(.ref as2), (.ref o0)])) rfl rfl (hb hby d4_11)
  refine Go.via st5 ?_
  obtain ⟨T6, h6, X6, e6, W6, st6⟩ := putF X5 hx hZ hown (host := "") (Or.inl (wq hw 28 rfl)) Via.refl e5 c4_1 c4_0 (Or.inr ⟨(wq hw 24 rfl), rfl, hnm⟩) (wq hw 9 rfl) (ty := (.array .byte)) (by decide) rfl rfl (g := (mkF m 14 #[sR o0, sR o1, sI 0, sI 0, .val .null, .unset] [(.ref ab2), (.ref o0)])) rfl rfl (hb hby d4_14)
  have N6 := Fr.snoc X6 N0 ha3
  have Ac7 := CHr.wr W6 Sf3_0 A2.1
  have Sf7_0 := Ac7.safe c4_0.lt Sf3_0
  have CR7c := CHr.trans CR3c Ac7
  have c8_0 := c4_0.wr W6
  have c8_2 := c4_2.other W6 (Or.inr (slot_ne (Or.inr (wq hw 25 rfl)) (Or.inr (wq hw 24 rfl)) (by decide) (t := .byte) (t' := (.array .byte)) (by decide) (by decide)))
  have c8_4 := Ea2.wr W6
  have c8_5 := Fc2.other W6 (Or.inl (Ne.symm ne_o0_as2))
  have c8_6 := Fv2.other W6 (Or.inl (Ne.symm ne_o0_as2))
  have c8_7 := Va2.other W6 (Ne.symm ne_o0_ab2)
  have K6 : Keep h0 h6 [o0] := K2.wr W6 (Or.inl (by simp))
  have Z6 := Nat.le_trans Z2 (Keep.of_wr W6).1
  have hk6 := Nat.le_trans hk2 (Keep.of_wr W6).1
  have Fw6 := c4_1.same W6
  refine Go.via st6 ?_
  refine Vi (T6.setTop (mkF m 18 #[sR o0, sR o1, sI 0, sI 0, .val .null, .unset] [(.ref o0)])) (fun tZ kZ => ?_) ?_
  · refine XS.aloadN X6.here hx rfl (hb hby d4_17) rfl rfl ?_
    exact kZ
  obtain ⟨as9, T9, h9, kk9, ab9, kc9, X9, e9, E9, hS9, hk9, hZ, hown, Ea9, Fc9, Fv9, Ar9, -, -, A9, -, nS9, st9⟩ := ldcCH (s := s) (vm0 := T2.vm) (EL := own_EL) X6 hx hZ hown (wq hw 22 rfl) wS e6 hS2 hk6 (own_EW hw) (by simp [own_EL]) Ac7.1 (vs := ([] : List Int32).map Value.int) (z := 0) ⟨by decide, by decide +kernel⟩ (by decide) rfl (g := (mkF m 18 #[sR o0, sR o1, sI 0, sI 0, .val .null, .unset] [(.ref o0)])) rfl (hb hby d4_18) (n := 64) (by decide) (by decide) (by decide) (by decide)
  have Sf10_0 := A9.safe c8_0.lt Sf7_0
  have CR10c := CHr.trans CR7c A9
  have c11_0 := c8_0.ext E9
  have c11_1 := Fw6.ext E9
  have c11_2 := c8_2.ext E9
  have c11_4 := c8_7.ext E9
  have Va9 := AV.ofArv Ar9 (n := 0) rfl (by decide)
  have K9 : Keep h0 h9 [o0] := K6.ext E9
  have Z9 := Nat.le_trans Z6 E9.1
  have ne_o0_as9 := (nS9 o0 Sf10_0).1
  have ne_o0_ab9 := (nS9 o0 Sf10_0).2
  refine Go.via st9 ?_
  obtain ⟨T12, X12, e12, st12⟩ := getF X9 hx hZ hown (host := "") (Or.inl (wq hw 29 rfl)) Via.refl e9 Fc9 (g := (mkF m 20 #[sR o0, sR o1, sI 0, sI 0, .val .null, .unset] [(.ref as9), (.ref o0)])) rfl rfl (hb hby d4_20)
  refine Go.via st12 ?_
  obtain ⟨T13, h13, X13, e13, W13, st13⟩ := putFN X12 hx hZ hown (wq hw 29 rfl) Via.refl e12 c11_2 c11_0 (Or.inr ⟨(wq hw 25 rfl), rfl, hnm⟩) (wq hw 9 rfl) (ty := .byte) (v' := (.int (nar .byte (0 : Int32)))) (by decide) rfl (fits_nar_byte _) (g := (mkF m 23 #[sR o0, sR o1, sI 0, sI 0, .val .null, .unset] [(.int 0), (.ref o0)])) rfl rfl (hb hby d4_23)
  have N13 := Fr.snoc X13 N6 ha3
  have Ac14 := CHr.wr W13 Sf10_0 A9.1
  have Sf14_0 := Ac14.safe c11_0.lt Sf10_0
  have CR14c := CHr.trans CR10c Ac14
  have c15_0 := c11_0.wr W13
  have c15_1 := c11_1.other W13 (Or.inr (slot_ne (Or.inr (wq hw 24 rfl)) (Or.inr (wq hw 25 rfl)) (by decide) (t := (.array .byte)) (t' := .byte) (by decide) (by decide)))
  have c15_4 := c11_4.other W13 (Ne.symm ne_o0_ab2)
  have c15_5 := Ea9.wr W13
  have c15_6 := Fc9.other W13 (Or.inl (Ne.symm ne_o0_as9))
  have c15_7 := Fv9.other W13 (Or.inl (Ne.symm ne_o0_as9))
  have c15_8 := Va9.other W13 (Ne.symm ne_o0_ab9)
  have K13 : Keep h0 h13 [o0] := K9.wr W13 (Or.inl (by simp))
  have Z13 := Nat.le_trans Z9 (Keep.of_wr W13).1
  have hk13 := Nat.le_trans hk9 (Keep.of_wr W13).1
  have Fw13 : Fld Z h13 o0 "java/lang/String" "coder" "B" (.int 0) := c11_2.same W13
  refine Go.via st13 ?_
  refine Go.finW (h := h13) (h0 := h0) (s := s) (vm₁ := T9.vm) X13 hS9 e13 hk13 Bd.notSynchronized (v := none) (fun _ => rfl) (fun fs hr => X13.returnOut hx Bd.returns (hb hby d4_26) hr) (by decide) (by decide) hh hZ (own_EW hw) CR14c ?_
  exact ⟨ab2, rfl, N13, K13, c15_0, c15_1, Fw13, c15_4⟩
theorem d3_0 : decode B3 0 = .ok (.aload_n 0, 1) := by decide +kernel
theorem d3_1 : decode B3 1 = .ok (.aload_n 1, 1) := by decide +kernel
theorem d3_2 : decode B3 2 = .ok (.iconst 0, 1) := by decide +kernel
theorem d3_3 : decode B3 3 = .ok (.aload_n 1, 1) := by decide +kernel
theorem d3_4 : decode B3 4 = .ok (.arraylength, 1) := by decide +kernel
theorem d3_5 : decode B3 5 = .ok (.aconst_null, 1) := by decide +kernel
theorem pd_3 : parseMethodDescriptor "([CIILjava/lang/Void;)V" = some ⟨[(.array .char), .int, .int, (.object "java/lang/Void")], none⟩ := by decide +kernel
theorem d3_6 : decode B3 6 = .ok (.invokespecial 27, 3) := by decide +kernel
theorem d3_9 : decode B3 9 = .ok (.return_, 1) := by decide +kernel
def Q3w (Z : State) (o0 : Addr) (o1 : Addr) (cF : Nat → Int32) (h0 : Heap) (n0 : Nat) (v : Option Value) (h : Heap) (L : List Loc) : Prop := ∃ b1_0 : Addr, v = none ∧ Fr n0 L ∧ Keep h0 h [o0] ∧ Exa Z h o0 "java/lang/String" ∧ Fld Z h o0 "java/lang/String" "value" "[B" (.ref b1_0) ∧ Fld Z h o0 "java/lang/String" "coder" "B" (.int 0) ∧ AV Z h o1 .char 0 (fun k => .int (cF k)) ∧ AV Z h b1_0 .byte 0 (fun k => .int ((own_t []) k))
abbrev RM_2_4_136_29 : Room := { frames := 2, cells := 4, slots := 136, locals := 29 }
theorem ef_3_aa (m : MethodId) (x0 : Addr) (x1 : Addr) : entryFrame m #[(.ref x0), (.ref x1)] 2 = mkF m 0 #[.val (.ref x0), .val (.ref x1)] [] := by first | (simp [entryFrame, mkF, argsToLocals, Value.category]; done) | rfl
theorem rm3w (l : Launch) (Z : State) (a0 : Array Value) (hw : HW a0 Z) (ws : List Jvm.Cond) (o0 : Addr) (o1 : Addr) (cF : Nat → Int32) (h0 : Heap) (n0 : Nat) (Z0 : n0 ≤ h0.size) (ha0 : Exa Z h0 o0 "java/lang/String") (ha1 : Fld Z h0 o0 "java/lang/String" "value" "[B" .null) (ha2 : Fld Z h0 o0 "java/lang/String" "coder" "B" (.int 0)) (ha3 : n0 ≤ o0) (ha4 : AV Z h0 o1 .char 0 (fun k => .int (cF k))) (hne_o1_o0 : o1 ≠ o0) :
    MetFree l y3 (head1 (Jvm.Cond.code y3 jdk_42_method_3_code 2 none :: ws) RM_2_4_136_29) (fun a U => a = #[(.ref o0), (.ref o1)] ∧ Z.Warmed39 U.vm ∧ U.heap = h0 ∧ CHv Z own_EL U.vm h0) (fun _ _ _ _ _ => True) (fun _ U o U' => ∃ v L, o = .returned v ∧ Q3w Z o0 o1 cF h0 n0 v U'.heap L ∧ CHr Z own_EL U.vm U.heap U'.vm U'.heap ∧ ReturnedEndW U o U' L RM_2_4_136_29.cells RM_2_4_136_29.slots) := by
  refine MetFree.of_bodySF (plainFor_of_name pn_0) hisR ?_
  intro p e s m args below meth c s₁ Bd hml0 hP hK
  obtain ⟨rfl, hZ, hh, hCH⟩ := hP
  have hx := Bd.exec
  have hby := Bd.bytes
  have hml : c.maxLocals = 2 := hml0
  have hown : s.vm.findClass "java/lang/String" = some m.cls := findClass_of_methodNamed Bd.named
  have X0 : Stand p l e RM_2_4_136_29 s m _ below meth c s₁ [] 0 0 := Stand.of_body Bd
  have e0 : s₁.heap = h0 := by rw [← hh, Bd.state]; rfl
  have N0 := Fr.nil n0
  refine Go.into (P := fun oo uu => ∃ v L, oo = .returned v ∧ Q3w Z o0 o1 cF h0 n0 v uu.heap L ∧ CHr Z own_EL s.vm s.heap uu.vm uu.heap ∧ ReturnedEndW s oo uu L RM_2_4_136_29.cells RM_2_4_136_29.slots) (ef_3_aa m o0 o1) ?_
  show Go p e below _ (s₁.setTop (mkF m 0 #[sR o0, sR o1] []))
  have hS0 : s.Since s.vm 0 := (State.WarmedH.refl s).since 0
  have wS : ∀ a ∈ Bundle.stringAtoms, a.before a0 Z = true := by
    intro d hd
    simp only [Bundle.stringAtoms, List.mem_cons, List.not_mem_nil, or_false] at hd
    rcases hd with rfl | rfl | rfl | rfl | rfl | rfl | rfl
    · exact (wq hw 10 rfl)
    · exact (wq hw 9 rfl)
    · exact (wq hw 23 rfl)
    · exact (wq hw 24 rfl)
    · exact (wq hw 25 rfl)
    · exact (wq hw 26 rfl)
    · exact (wq hw 27 rfl)
  have Sf_o0 : Safe Z own_EL s.vm h0 o0 := own_safeNull hZ.alike ha0 ha1
  refine Vi (s₁.setTop (mkF m 6 #[sR o0, sR o1] [.null, (.int 0), (.int 0), (.ref o1), (.ref o0)])) (fun tZ kZ => ?_) ?_
  · refine XS.aloadN X0.here hx rfl (hb hby d3_0) rfl rfl ?_
    refine XS.aloadN X0.here hx rfl (hb hby d3_1) rfl rfl ?_
    refine XS.iconst X0.here hx rfl (hb hby d3_2) ?_
    refine XS.aloadN X0.here hx rfl (hb hby d3_3) rfl rfl ?_
    refine AV.len ha4 X0 hx hZ e0 (hb hby d3_4) ?_
    refine XS.aconstNull X0.here hx rfl (hb hby d3_5) ?_
    exact kZ
  obtain ⟨_, _, ⟨T1, L1, k1, n1⟩, -, X1, hS1, -, ⟨Lc1, hQ1, l1, y1, z1, A1⟩, st1⟩ := specialBackS (s := s.setVm s.vm) X0 hx (y := y4) rfl hown (wz hZ hw 15 rfl) (wz hZ hw 16 rfl) (wz hZ hw 18 rfl) (by decide) (backOfSH (s := s) (vm0 := s.vm) (W := 0) (rm4w l Z a0 hw [] o0 o1 h0 n0 Z0 ha0 ha1 ha2 ha3) hZ (wq hw 18 rfl) (wq hw 10 rfl) (by decide) (by decide) (own_EW hw) hCH) (g := (mkF m 6 #[sR o0, sR o1] [.null, (.int 0), (.int 0), (.ref o1), (.ref o0)])) rfl (by rw [hml]; rfl) (Steps.refl _) (a := o0) (argsL := [(.ref o1), (.int 0), (.int 0), .null]) (rest := []) (lenOf pd_3 rfl) rfl (leW rfl) (hb hby d3_6) (fun _ _ => ⟨rfl, e0, (by decide : 0 + 4 ≤ _), (by decide : 0 + 136 ≤ _)⟩)
  dsimp only [Pt.U, Pt.locs, Pt.cells, Pt.slots] at X1 hS1 l1 y1 z1 A1 st1 hQ1
  subst l1 y1 z1
  obtain ⟨b1_0, rfl, N1q, Kq1, f1_0, f1_1, f1_2, f1_3⟩ := hQ1
  have Sf2_0 := A1.safe ha0.lt Sf_o0
  have CR2c := CHr.trans (CHr.refl hCH) A1
  have c3_4 := ha4.keep Kq1 (ninS hne_o1_o0 nin0)
  have K1 : Keep h0 T1.heap [o0] := (Keep.refl h0 [o0]).trans Kq1 (allS (Or.inl (by simp)) all0)
  have Z1 := Nat.le_trans Z0 Kq1.1
  have ne_b1_0_o0 := AV.neExa f1_3 f1_0 (wq hw 9 rfl)
  have N1 := Fr.app N0 N1q
  have hS1c : s.Since T1.vm T1.heap.size := State.Since.trans hS0 hS1 (Nat.le_trans (Nat.zero_le _) Kq1.1)
  replace hZ : Z.Warmed39 (s.setVm T1.vm).vm := State.Warmed39.trans (t := s.setVm s.vm) hZ hS1.1
  replace hown : (s.setVm T1.vm).vm.findClass "java/lang/String" = some m.cls := by rw [show (s.setVm T1.vm).vm = T1.vm from rfl, hS1.1.alike.findClass]; exact hown
  refine Go.via (fun t k => st1.trans k) ?_
  refine Go.finW (h := T1.heap) (h0 := h0) (s := s) (vm₁ := T1.vm) X1 hS1c rfl (Nat.le_refl _) Bd.notSynchronized (v := none) (fun _ => rfl) (fun fs hr => X1.returnOut hx Bd.returns (hb hby d3_9) hr) (by decide) (by decide) hh hZ (own_EW hw) CR2c ?_
  exact ⟨b1_0, rfl, N1, K1, f1_0, f1_1, f1_2, c3_4, f1_3⟩
theorem d2_0 : decode B2 0 = .ok (.iload_n 0, 1) := by decide +kernel
theorem d2_1 : decode B2 1 = .ok (.ifCond .ne 14, 3) := by decide +kernel
theorem d2_4 : decode B2 4 = .ok (.new 32, 3) := by decide +kernel
theorem d2_7 : decode B2 7 = .ok (.dup, 1) := by decide +kernel
theorem d2_8 : decode B2 8 = .ok (.iconst 0, 1) := by decide +kernel
theorem d2_9 : decode B2 9 = .ok (.newarray .char, 2) := by decide +kernel
theorem pd_2 : parseMethodDescriptor "([C)V" = some ⟨[(.array .char)], none⟩ := by decide +kernel
theorem d2_11 : decode B2 11 = .ok (.invokespecial 41, 3) := by decide +kernel
theorem d2_14 : decode B2 14 = .ok (.areturn, 1) := by decide +kernel
def Q2n0 (Z : State) (p1 : Int32) (p2 : Int32) (p3 : Int32) (p4 : Int32) (h0 : Heap) (n0 : Nat) (v : Option Value) (h : Heap) (L : List Loc) : Prop := ∃ b1 : Addr, ∃ b7_0 : Addr, v = some (.ref b1) ∧ Fr n0 L ∧ Keep h0 h [] ∧ h0.size ≤ b1 ∧ Exa Z h b1 "java/lang/String" ∧ Fld Z h b1 "java/lang/String" "value" "[B" (.ref b7_0) ∧ Fld Z h b1 "java/lang/String" "coder" "B" (.int 0) ∧ AV Z h b7_0 .byte 0 (fun k => .int ((own_t []) k))
abbrev RM_3_6_140_43 : Room := { frames := 3, cells := 6, slots := 140, locals := 43 }
theorem ef_2_aaaaa (m : MethodId) (x0 : Int32) (x1 : Int32) (x2 : Int32) (x3 : Int32) (x4 : Int32) : entryFrame m #[(.int x0), (.int x1), (.int x2), (.int x3), (.int x4)] 5 = mkF m 0 #[.val (.int x0), .val (.int x1), .val (.int x2), .val (.int x3), .val (.int x4)] [] := by first | (simp [entryFrame, mkF, argsToLocals, Value.category]; done) | rfl
theorem rm2n0 (l : Launch) (Z : State) (a0 : Array Value) (hw : HW a0 Z) (ws : List Jvm.Cond) (p1 : Int32) (p2 : Int32) (p3 : Int32) (p4 : Int32) (h0 : Heap) (n0 : Nat) (Z0 : n0 ≤ h0.size) :
    MetFree l y2 (head1 (Jvm.Cond.code y2 method_4_code 5 (some (.object "java/lang/String")) :: ws) RM_3_6_140_43) (fun a U => a = #[(.int 0), (.int p1), (.int p2), (.int p3), (.int p4)] ∧ Z.Warmed39 U.vm ∧ U.heap = h0 ∧ CHv Z own_EL U.vm h0) (fun _ _ _ _ _ => True) (fun _ U o U' => ∃ v L, o = .returned v ∧ Q2n0 Z p1 p2 p3 p4 h0 n0 v U'.heap L ∧ CHr Z own_EL U.vm U.heap U'.vm U'.heap ∧ ReturnedEndW U o U' L RM_3_6_140_43.cells RM_3_6_140_43.slots) := by
  refine MetFree.of_bodySF (plainFor_of_name pn_6) hisR ?_
  intro p e s m args below meth c s₁ Bd hml0 hP hK
  obtain ⟨rfl, hZ, hh, hCH⟩ := hP
  have hx := Bd.exec
  have hby := Bd.bytes
  have hml : c.maxLocals = 5 := hml0
  have hown : s.vm.findClass "com/example/bindery/bindery/compiler/JavaTypeOuterNamePinLaw" = some m.cls := findClass_of_methodNamed Bd.named
  have X0 : Stand p l e RM_3_6_140_43 s m _ below meth c s₁ [] 0 0 := Stand.of_body Bd
  have e0 : s₁.heap = h0 := by rw [← hh, Bd.state]; rfl
  have N0 := Fr.nil n0
  refine Go.into (P := fun oo uu => ∃ v L, oo = .returned v ∧ Q2n0 Z p1 p2 p3 p4 h0 n0 v uu.heap L ∧ CHr Z own_EL s.vm s.heap uu.vm uu.heap ∧ ReturnedEndW s oo uu L RM_3_6_140_43.cells RM_3_6_140_43.slots) (ef_2_aaaaa m (0 : Int32) p1 p2 p3 p4) ?_
  show Go p e below _ (s₁.setTop (mkF m 0 #[sI 0, sI p1, sI p2, sI p3, sI p4] []))
  have hS0 : s.Since s.vm 0 := (State.WarmedH.refl s).since 0
  have wS : ∀ a ∈ Bundle.stringAtoms, a.before a0 Z = true := by
    intro d hd
    simp only [Bundle.stringAtoms, List.mem_cons, List.not_mem_nil, or_false] at hd
    rcases hd with rfl | rfl | rfl | rfl | rfl | rfl | rfl
    · exact (wq hw 10 rfl)
    · exact (wq hw 9 rfl)
    · exact (wq hw 23 rfl)
    · exact (wq hw 24 rfl)
    · exact (wq hw 25 rfl)
    · exact (wq hw 26 rfl)
    · exact (wq hw 27 rfl)
  refine Vi (s₁.setTop (mkF m 4 #[sI 0, sI p1, sI p2, sI p3, sI p4] [])) (fun tZ kZ => ?_) ?_
  · refine XS.iloadN X0.here hx rfl (hb hby d2_0) rfl ?_
    refine XS.ifNo X0.here hx rfl (hb hby d2_1) rfl ((if0 _ _).trans (teq (by decide)).2) ?_
    exact kZ
  obtain ⟨T1, h1, X1, e1, E1, A1, D1, -, st1⟩ := newO X0 hx hZ hown (wq hw 8 rfl) (wq hw 9 rfl) (wq hw 10 rfl) e0 (g := (mkF m 4 #[sI 0, sI p1, sI p2, sI p3, sI p4] [])) rfl (hb hby d2_4) (by decide) (by decide)
  obtain ⟨b1, g1⟩ : ∃ z, z = h0.size := ⟨_, rfl⟩
  rw [← g1] at A1 D1 st1
  have g_b1 : n0 ≤ b1 := Nat.le_trans Z0 (Nat.le_of_eq g1.symm)
  have sz_b1 : h0.size ≤ b1 := Nat.le_trans ((Keep.refl h0 [])).1 (Nat.le_of_eq g1.symm)
  have Ac2 := CHr.ext E1 hCH
  have CR2c := CHr.trans (CHr.refl hCH) Ac2
  have K1 : Keep h0 h1 [] := (Keep.refl h0 []).ext E1
  have Z1 := Nat.le_trans Z0 E1.1
  have Sf_b1 := Safe.ext E1 hCH (Safe.new (Nat.le_of_eq g1.symm))
  have F1_value : Fld Z h1 b1 "java/lang/String" "value" "[B" .null := D1 (Or.inr (wq hw 24 rfl)) (ty := (.array .byte)) (by decide)
  have F1_coder : Fld Z h1 b1 "java/lang/String" "coder" "B" (.int 0) := D1 (Or.inr (wq hw 25 rfl)) (ty := .byte) (by decide)
  refine Go.via st1 ?_
  refine Vi (T1.setTop (mkF m 9 #[sI 0, sI p1, sI p2, sI p3, sI p4] [(.int 0), (.ref b1), (.ref b1)])) (fun tZ kZ => ?_) ?_
  · refine XS.dup X1.here hx rfl (hb hby d2_7) rfl rfl ?_
    refine XS.iconst X1.here hx rfl (hb hby d2_8) ?_
    exact kZ
  obtain ⟨T4, h4, k4, X4, e4, E4, A4, B4, st4⟩ := newPE X1 hx hZ (wq hw 11 rfl) e1 (g := (mkF m 9 #[sI 0, sI p1, sI p2, sI p3, sI p4] [(.int 0), (.ref b1), (.ref b1)])) rfl (hb hby d2_9) rfl (by decide) (cap := 0) (by decide) (by decide) (by decide) (by decide) (ad := "[C") rfl
  obtain ⟨b4, g4⟩ : ∃ z, z = h1.size := ⟨_, rfl⟩
  rw [← g4] at A4 B4 st4
  have g_b4 : n0 ≤ b4 := Nat.le_trans Z1 (Nat.le_of_eq g4.symm)
  have sz_b4 : h0.size ≤ b4 := Nat.le_trans (K1).1 (Nat.le_of_eq g4.symm)
  have ne_b1_b4 : b1 ≠ b4 := Nat.ne_of_lt (Nat.lt_of_lt_of_le A1.lt (Nat.le_of_eq g4.symm))
  have Ac5 := CHr.ext E4 Ac2.1
  have Sf5_0 := Ac5.safe A1.lt Sf_b1
  have CR5c := CHr.trans CR2c Ac5
  have c6_1 := A1.ext E4
  have c6_2 := F1_value.ext E4
  have c6_3 := F1_coder.ext E4
  have K4 : Keep h0 h4 [] := K1.ext E4
  have Z4 := Nat.le_trans Z1 E4.1
  have Sf_b4 := Safe.ext E4 Ac2.1 (Safe.new (Nat.le_of_eq g4.symm))
  have V4 : AV Z h4 b4 .char 0 (fun k => .int ((fun _ => (0 : Int32)) k)) := by have q := AV.new A4; exact q
  refine Go.via st4 ?_
  obtain ⟨_, _, ⟨T7, L7, k7, n7⟩, -, X7, hS7, -, ⟨Lc7, hQ7, l7, y7, z7, A7⟩, st7⟩ := specialBackS (s := s.setVm s.vm) X4 hx (y := y3) rfl hown (wz hZ hw 12 rfl) (wz hZ hw 13 rfl) (wz hZ hw 14 rfl) (by decide) (backOfSH (s := s) (vm0 := s.vm) (W := 1) (rm3w l Z a0 hw [] b1 b4 (fun _ => (0 : Int32)) h4 n0 Z4 c6_1 c6_2 c6_3 g_b1 V4 (Ne.symm ne_b1_b4)) hZ (wq hw 14 rfl) (wq hw 10 rfl) (by decide) (by decide) (own_EW hw) Ac5.1) (g := (mkF m 11 #[sI 0, sI p1, sI p2, sI p3, sI p4] [(.ref b4), (.ref b1), (.ref b1)])) rfl (by rw [hml]; rfl) (Steps.refl _) (a := b1) (argsL := [(.ref b4)]) (rest := [(.ref b1)]) (lenOf pd_2 rfl) rfl (leW rfl) (hb hby d2_11) (fun _ _ => ⟨rfl, e4, (by decide : 0 + 1 + 1 + 4 ≤ _), (by decide : 0 + 4 + 0 + 136 ≤ _)⟩)
  dsimp only [Pt.U, Pt.locs, Pt.cells, Pt.slots] at X7 hS7 l7 y7 z7 A7 st7 hQ7
  subst l7 y7 z7
  obtain ⟨b7_0, rfl, N7q, Kq7, f7_0, f7_1, f7_2, f7_3, f7_4⟩ := hQ7
  have Sf8_0 := A7.safe c6_1.lt Sf5_0
  have Sf8_1 := A7.safe V4.lt Sf_b4
  have CR8c := CHr.trans CR5c A7
  have K7 : Keep h0 T7.heap [] := K4.trans Kq7 (allS (Or.inr sz_b1) all0)
  have Z7 := Nat.le_trans Z4 Kq7.1
  have ne_b7_0_b1 := AV.neExa f7_4 f7_0 (wq hw 9 rfl)
  have N7 := Fr.app N0 N7q
  have hS7c : s.Since T7.vm T7.heap.size := State.Since.trans hS0 hS7 (Nat.le_trans (Nat.zero_le _) Kq7.1)
  replace hZ : Z.Warmed39 (s.setVm T7.vm).vm := State.Warmed39.trans (t := s.setVm s.vm) hZ hS7.1
  replace hown : (s.setVm T7.vm).vm.findClass "com/example/bindery/bindery/compiler/JavaTypeOuterNamePinLaw" = some m.cls := by rw [show (s.setVm T7.vm).vm = T7.vm from rfl, hS7.1.alike.findClass]; exact hown
  refine Go.via (fun t k => st7.trans k) ?_
  refine Go.finW (h := T7.heap) (h0 := h0) (s := s) (vm₁ := T7.vm) X7 hS7c rfl (Nat.le_refl _) Bd.notSynchronized (v := some (.ref b1)) (fun h => by rw [Bd.returns] at h; cases h) (fun fs hr => retOut X7 hx Bd.returns rfl (Or.inr (Or.inr (Or.inr (Or.inr ⟨rfl, rfl, rfl⟩)))) (hb hby d2_14) hr) (by decide) (by decide) hh hZ (own_EW hw) CR8c ?_
  exact ⟨b1, b7_0, rfl, N7, K7, sz_b1, f7_0, f7_1, f7_2, f7_4⟩
theorem d16_0 : decode B16 0 = .ok (.iload_n 1, 1) := by decide +kernel
theorem pd_15 : parseMethodDescriptor "(I)Z" = some ⟨[.int], some .boolean⟩ := by decide +kernel
theorem d16_1 : decode B16 1 = .ok (.invokestatic 88, 3) := by decide +kernel
theorem d16_4 : decode B16 4 = .ok (.ifCond .ne 5, 3) := by decide +kernel
theorem d16_9 : decode B16 9 = .ok (.iload_n 2, 1) := by decide +kernel
theorem d16_10 : decode B16 10 = .ok (.iconst 0, 1) := by decide +kernel
theorem pd_10 : parseMethodDescriptor "(II)I" = some ⟨[.int, .int], some .int⟩ := by decide +kernel
theorem d16_11 : decode B16 11 = .ok (.invokestatic 92, 3) := by decide +kernel
theorem d16_14 : decode B16 14 = .ok (.istore_n 2, 1) := by decide +kernel
theorem d16_15 : decode B16 15 = .ok (.iload_n 3, 1) := by decide +kernel
theorem d16_16 : decode B16 16 = .ok (.aload_n 0, 1) := by decide +kernel
theorem d16_17 : decode B16 17 = .ok (.arraylength, 1) := by decide +kernel
theorem d16_18 : decode B16 18 = .ok (.invokestatic 38, 3) := by decide +kernel
theorem d16_21 : decode B16 21 = .ok (.istore_n 3, 1) := by decide +kernel
theorem d16_22 : decode B16 22 = .ok (.iload_n 2, 1) := by decide +kernel
theorem d16_23 : decode B16 23 = .ok (.iload_n 3, 1) := by decide +kernel
theorem d16_24 : decode B16 24 = .ok (.if_icmp .lt 5, 3) := by decide +kernel
theorem d16_27 : decode B16 27 = .ok (.iconst (-1), 1) := by decide +kernel
theorem d16_28 : decode B16 28 = .ok (.ireturn, 1) := by decide +kernel
def f16n0 (o0 : Addr) (fF : Nat → Int32) : Int32 := (-1 : Int32)
def Q16n0 (o0 : Addr) (fF : Nat → Int32) (h0 : Heap) (n0 : Nat) (v : Option Value) (h : Heap) (L : List Loc) : Prop := v = some (.int (f16n0 o0 fF)) ∧ Fr n0 L ∧ h = h0
theorem ef_16_aaaa (m : MethodId) (x0 : Addr) (x1 : Int32) (x2 : Int32) (x3 : Int32) : entryFrame m #[(.ref x0), (.int x1), (.int x2), (.int x3)] 4 = mkF m 0 #[.val (.ref x0), .val (.int x1), .val (.int x2), .val (.int x3)] [] := by first | (simp [entryFrame, mkF, argsToLocals, Value.category]; done) | rfl
theorem rm16n0 (l : Launch) (Z : State) (a0 : Array Value) (hw : HW a0 Z) (ws : List Jvm.Cond) (o0 : Addr) (fF : Nat → Int32) (h0 : Heap) (n0 : Nat) (Z0 : n0 ≤ h0.size) (ha0 : AV Z h0 o0 .byte 0 (fun k => .int (fF k))) :
    MetFree l y16 (head1 (Jvm.Cond.code y16 jdk_43_method_22_code 4 (some .int) :: ws) RM_1_0_0_13) (fun a U => a = #[(.ref o0), (.int 46), (.int 0), (.int 0)] ∧ Z.Warmed39 U.vm ∧ U.heap = h0) (fun _ _ _ _ _ => True) (fun _ U o U' => ∃ v L, o = .returned v ∧ Q16n0 o0 fF h0 n0 v U'.heap L ∧ FrameEnd U o U' L RM_1_0_0_13.cells RM_1_0_0_13.slots) := by
  refine MetFree.of_bodySF (plainFor_of_name pn_1) hisR ?_
  intro p e s m args below meth c s₁ Bd hml0 hP hK
  obtain ⟨rfl, hZ, hh⟩ := hP
  have hx := Bd.exec
  have hby := Bd.bytes
  have hml : c.maxLocals = 4 := hml0
  have hown : s.vm.findClass "java/lang/StringLatin1" = some m.cls := findClass_of_methodNamed Bd.named
  have X0 : Stand p l e RM_1_0_0_13 s m _ below meth c s₁ [] 0 0 := Stand.of_body Bd
  have e0 : s₁.heap = h0 := by rw [← hh, Bd.state]; rfl
  have N0 := Fr.nil n0
  refine Go.into (P := fun oo uu => ∃ v L, oo = .returned v ∧ Q16n0 o0 fF h0 n0 v uu.heap L ∧ FrameEnd s oo uu L RM_1_0_0_13.cells RM_1_0_0_13.slots) (ef_16_aaaa m o0 (46 : Int32) (0 : Int32) (0 : Int32)) ?_
  show Go p e below _ (s₁.setTop (mkF m 0 #[sR o0, sI 46, sI 0, sI 0] []))
  refine Vi (s₁.setTop (mkF m 1 #[sR o0, sI 46, sI 0, sI 0] [(.int 46)])) (fun tZ kZ => ?_) ?_
  · refine XS.iloadN X0.here hx rfl (hb hby d16_0) rfl ?_
    exact kZ
  obtain ⟨_, _, ⟨T1, L1, k1, n1⟩, -, X1, ⟨Lc1, hQ1, l1, y1, z1⟩, st1⟩ := Jvm.LawKit.callS X0 hx (y := y17) hown (wz hZ hw 92 rfl) (wz hZ hw 93 rfl) (wz hZ hw 90 rfl) (wz hZ hw 94 rfl) (by decide) (backOf (W := 0) (rm17 l Z a0 hw [] (46 : Int32) h0 n0 Z0 ) hZ (wq hw 94 rfl) (wq hw 90 rfl) (by decide) (by decide)) (g := (mkF m 1 #[sR o0, sI 46, sI 0, sI 0] [(.int 46)])) rfl (by rw [hml]; rfl) (argsL := [(.int 46)]) (rest := []) (lenOf pd_15 rfl) rfl (leW rfl) (hb hby d16_1) (fun _ _ => ⟨rfl, e0, (by decide : 0 + 0 ≤ _), (by decide : 0 + 0 ≤ _)⟩)
  dsimp only [Pt.U, Pt.locs, Pt.cells, Pt.slots] at X1 l1 y1 z1 st1 hQ1
  subst l1 y1 z1
  obtain ⟨rfl, N1q, e1⟩ := hQ1
  have hv1 : (f17 (46 : Int32)) = (1 : Int32) := by unfold f17; decide
  rw [hv1] at st1
  have N1 := Fr.app N0 N1q
  refine Go.via st1 ?_
  refine Vi (T1.setTop (mkF m 11 #[sR o0, sI 46, sI 0, sI 0] [(.int 0), (.int 0)])) (fun tZ kZ => ?_) ?_
  · refine XS.ifYes X1.here hx rfl (pc0 := 4) (pc' := 9) rfl (hb hby d16_4) rfl ((if0 _ _).trans (feq (by decide)).2) (by decide) (by decide) ?_
    refine XS.iloadN X1.here hx rfl (hb hby d16_9) rfl ?_
    refine XS.iconst X1.here hx rfl (hb hby d16_10) ?_
    exact kZ
  obtain ⟨_, _, ⟨T2, L2, k2, n2⟩, -, X2, ⟨Lc2, hQ2, l2, y2, z2⟩, st2⟩ := Jvm.LawKit.callS X1 hx (y := y18) hown (wz hZ hw 95 rfl) (wz hZ hw 96 rfl) (wz hZ hw 97 rfl) (wz hZ hw 98 rfl) (by decide) (backOf (W := 0) (rm18 l Z a0 hw [] (0 : Int32) (0 : Int32) h0 n0 Z0 ) hZ (wq hw 98 rfl) (wq hw 97 rfl) (by decide) (by decide)) (g := (mkF m 11 #[sR o0, sI 46, sI 0, sI 0] [(.int 0), (.int 0)])) rfl (by rw [hml]; rfl) (argsL := [(.int 0), (.int 0)]) (rest := []) (lenOf pd_10 rfl) rfl (leW rfl) (hb hby d16_11) (fun _ _ => ⟨rfl, e1, (by decide : 0 + 0 + 0 ≤ _), (by decide : 0 + 0 + 0 ≤ _)⟩)
  dsimp only [Pt.U, Pt.locs, Pt.cells, Pt.slots] at X2 l2 y2 z2 st2 hQ2
  subst l2 y2 z2
  obtain ⟨rfl, N2q, e2⟩ := hQ2
  have hv2 : (f18 (0 : Int32) (0 : Int32)) = (0 : Int32) := by unfold f18; decide
  rw [hv2] at st2
  have N2 := Fr.app N1 N2q
  refine Go.via st2 ?_
  refine Vi (T2.setTop (mkF m 18 #[sR o0, sI 46, sI 0, sI 0] [(.int 0), (.int 0)])) (fun tZ kZ => ?_) ?_
  · refine XS.istoreN X2.here hx rfl (hb hby d16_14) rfl (l' := #[sR o0, sI 46, sI 0, sI 0]) rfl ?_
    refine XS.iloadN X2.here hx rfl (hb hby d16_15) rfl ?_
    refine XS.aloadN X2.here hx rfl (hb hby d16_16) rfl rfl ?_
    refine AV.len ha0 X2 hx hZ e2 (hb hby d16_17) ?_
    exact kZ
  obtain ⟨_, _, ⟨T3, L3, k3, n3⟩, -, X3, ⟨Lc3, hQ3, l3, y3, z3⟩, st3⟩ := Jvm.LawKit.callS X2 hx (y := y19) hown (wz hZ hw 99 rfl) (wz hZ hw 100 rfl) (wz hZ hw 97 rfl) (wz hZ hw 101 rfl) (by decide) (backOf (W := 0) (rm19 l Z a0 hw [] (0 : Int32) (0 : Int32) h0 n0 Z0 ) hZ (wq hw 101 rfl) (wq hw 97 rfl) (by decide) (by decide)) (g := (mkF m 18 #[sR o0, sI 46, sI 0, sI 0] [(.int 0), (.int 0)])) rfl (by rw [hml]; rfl) (argsL := [(.int 0), (.int 0)]) (rest := []) (lenOf pd_10 rfl) rfl (leW rfl) (hb hby d16_18) (fun _ _ => ⟨rfl, e2, (by decide : 0 + 0 + 0 + 0 ≤ _), (by decide : 0 + 0 + 0 + 0 ≤ _)⟩)
  dsimp only [Pt.U, Pt.locs, Pt.cells, Pt.slots] at X3 l3 y3 z3 st3 hQ3
  subst l3 y3 z3
  obtain ⟨rfl, N3q, e3⟩ := hQ3
  have hv3 : (f19 (0 : Int32) (0 : Int32)) = (0 : Int32) := by unfold f19; decide
  rw [hv3] at st3
  have N3 := Fr.app N2 N3q
  refine Go.via st3 ?_
  refine Vi (T3.setTop (mkF m 28 #[sR o0, sI 46, sI 0, sI 0] [(.int (-1))])) (fun tZ kZ => ?_) ?_
  · refine XS.istoreN X3.here hx rfl (hb hby d16_21) rfl (l' := #[sR o0, sI 46, sI 0, sI 0]) rfl ?_
    refine XS.iloadN X3.here hx rfl (hb hby d16_22) rfl ?_
    refine XS.iloadN X3.here hx rfl (hb hby d16_23) rfl ?_
    refine XS.icmpNo X3.here hx rfl (hb hby d16_24) rfl (flt (by decide)).1 ?_
    refine XS.iconst X3.here hx rfl (hb hby d16_27) ?_
    exact kZ
  refine Go.retI X3 hx Bd.notSynchronized Bd.returns (hb hby d16_28) (by decide) (by decide) ?_
  refine ⟨?_, N3, e3⟩
  show some ((.int (-1)) : Value) = some (.int (f16n0 o0 fF))
  rfl
theorem d12_0 : decode B12 0 = .ok (.aload_n 0, 1) := by decide +kernel
theorem d12_1 : decode B12 1 = .ok (.invokevirtual 492, 3) := by decide +kernel
theorem d12_4 : decode B12 4 = .ok (.ifCond .eq 19, 3) := by decide +kernel
theorem d12_7 : decode B12 7 = .ok (.aload_n 0, 1) := by decide +kernel
theorem d12_8 : decode B12 8 = .ok (.getfield 9, 3) := by decide +kernel
theorem d12_11 : decode B12 11 = .ok (.iload_n 1, 1) := by decide +kernel
theorem d12_12 : decode B12 12 = .ok (.iload_n 2, 1) := by decide +kernel
theorem d12_13 : decode B12 13 = .ok (.aload_n 0, 1) := by decide +kernel
theorem pd_12 : parseMethodDescriptor "()I" = some ⟨[], some .int⟩ := by decide +kernel
theorem d12_14 : decode B12 14 = .ok (.invokevirtual 505, 3) := by decide +kernel
theorem pd_14 : parseMethodDescriptor "([BIII)I" = some ⟨[(.array .byte), .int, .int, .int], some .int⟩ := by decide +kernel
theorem d12_17 : decode B12 17 = .ok (.invokestatic 637, 3) := by decide +kernel
theorem d12_20 : decode B12 20 = .ok (.goto 16, 3) := by decide +kernel
theorem d12_36 : decode B12 36 = .ok (.ireturn, 1) := by decide +kernel
def f12n0 (o0 : Addr) (b0 : Addr) (fF : Nat → Int32) (cs : Int32) : Int32 := (f16n0 b0 fF)
def Q12n0 (o0 : Addr) (b0 : Addr) (fF : Nat → Int32) (cs : Int32) (h0 : Heap) (n0 : Nat) (v : Option Value) (h : Heap) (L : List Loc) : Prop := v = some (.int (f12n0 o0 b0 fF cs)) ∧ Fr n0 L ∧ h = h0
abbrev RM_2_0_0_28 : Room := { frames := 2, cells := 0, slots := 0, locals := 28 }
theorem ef_12_aaa (m : MethodId) (x0 : Addr) (x1 : Int32) (x2 : Int32) : entryFrame m #[(.ref x0), (.int x1), (.int x2)] 3 = mkF m 0 #[.val (.ref x0), .val (.int x1), .val (.int x2)] [] := by first | (simp [entryFrame, mkF, argsToLocals, Value.category]; done) | rfl
theorem rm12n0 (l : Launch) (Z : State) (a0 : Array Value) (hw : HW a0 Z) (ws : List Jvm.Cond) (o0 : Addr) (b0 : Addr) (fF : Nat → Int32) (cs : Int32) (h0 : Heap) (n0 : Nat) (Z0 : n0 ≤ h0.size) (ha0 : Exa Z h0 o0 "java/lang/String") (ha1 : Fld Z h0 o0 "java/lang/String" "coder" "B" (.int 0)) (ha2 : Fld Z h0 o0 "java/lang/String" "value" "[B" (.ref b0)) (ha3 : AV Z h0 b0 .byte 0 (fun k => .int (fF k))) (ha4 : Sta Z h0 "java/lang/String" "COMPACT_STRINGS" "Z" (.int cs)) (hcs : ¬ cs = 0) :
    MetFree l y12 (head1 (Jvm.Cond.code y12 jdk_42_method_80_code 3 (some .int) :: ws) RM_2_0_0_28) (fun a U => a = #[(.ref o0), (.int 46), (.int 0)] ∧ Z.Warmed39 U.vm ∧ U.heap = h0) (fun _ _ _ _ _ => True) (fun _ U o U' => ∃ v L, o = .returned v ∧ Q12n0 o0 b0 fF cs h0 n0 v U'.heap L ∧ FrameEnd U o U' L RM_2_0_0_28.cells RM_2_0_0_28.slots) := by
  refine MetFree.of_bodySF (plainFor_of_name pn_0) hisR ?_
  intro p e s m args below meth c s₁ Bd hml0 hP hK
  obtain ⟨rfl, hZ, hh⟩ := hP
  have hx := Bd.exec
  have hby := Bd.bytes
  have hml : c.maxLocals = 3 := hml0
  have hown : s.vm.findClass "java/lang/String" = some m.cls := findClass_of_methodNamed Bd.named
  have X0 : Stand p l e RM_2_0_0_28 s m _ below meth c s₁ [] 0 0 := Stand.of_body Bd
  have e0 : s₁.heap = h0 := by rw [← hh, Bd.state]; rfl
  have N0 := Fr.nil n0
  refine Go.into (P := fun oo uu => ∃ v L, oo = .returned v ∧ Q12n0 o0 b0 fF cs h0 n0 v uu.heap L ∧ FrameEnd s oo uu L RM_2_0_0_28.cells RM_2_0_0_28.slots) (ef_12_aaa m o0 (46 : Int32) (0 : Int32)) ?_
  show Go p e below _ (s₁.setTop (mkF m 0 #[sR o0, sI 46, sI 0] []))
  refine Vi (s₁.setTop (mkF m 1 #[sR o0, sI 46, sI 0] [(.ref o0)])) (fun tZ kZ => ?_) ?_
  · refine XS.aloadN X0.here hx rfl (hb hby d12_0) rfl rfl ?_
    exact kZ
  obtain ⟨cq1, kq1, q1a, q1b, q1c⟩ := isOf hZ e0 ha0
  obtain ⟨_, _, ⟨T1, L1, k1, n1⟩, -, X1, ⟨Lc1, hQ1, l1, y1, z1⟩, st1⟩ := X0.virtualBack hx (y := y13) (z := y13) hown (wz hZ hw 72 rfl) (wz hZ hw 73 rfl) (notFace_of_selects (args := #[]) (wz hZ hw 75 rfl)) (wz hZ hw 75 rfl) (wz hZ hw 74 rfl) (by decide) (backOf (W := 0) (rm13 l Z a0 hw [] o0 cs h0 n0 Z0 ha1 ha4 hcs) hZ (wq hw 76 rfl) (wq hw 10 rfl) (by decide) (by decide)) q1a q1c (g := (mkF m 1 #[sR o0, sI 46, sI 0] [(.ref o0)])) rfl (by rw [hml]; rfl) (Steps.refl _) (argsL := []) (rest := []) (lenOf pd_11 rfl) rfl (leW rfl) (hb hby d12_1) (fun _ _ => ⟨rfl, e0, (by decide : 0 + 0 ≤ _), (by decide : 0 + 0 ≤ _)⟩)
  dsimp only [Pt.U, Pt.locs, Pt.cells, Pt.slots] at X1 l1 y1 z1 st1 hQ1
  subst l1 y1 z1
  obtain ⟨rfl, N1q, e1⟩ := hQ1
  have hv1 : (f13 o0 cs) = (1 : Int32) := by unfold f13; decide
  rw [hv1] at st1
  have N1 := Fr.app N0 N1q
  refine Go.via (fun t k => st1.trans k) ?_
  refine Vi (T1.setTop (mkF m 8 #[sR o0, sI 46, sI 0] [(.ref o0)])) (fun tZ kZ => ?_) ?_
  · refine XS.ifNo X1.here hx rfl (hb hby d12_4) rfl ((if0 _ _).trans (feq (by decide)).1) ?_
    refine XS.aloadN X1.here hx rfl (hb hby d12_7) rfl rfl ?_
    exact kZ
  obtain ⟨T2, X2, e2, st2⟩ := getF X1 hx hZ hown (host := "") (Or.inl (wq hw 28 rfl)) Via.refl e1 ha2 (g := (mkF m 8 #[sR o0, sI 46, sI 0] [(.ref o0)])) rfl rfl (hb hby d12_8)
  refine Go.via st2 ?_
  refine Vi (T2.setTop (mkF m 14 #[sR o0, sI 46, sI 0] [(.ref o0), (.int 0), (.int 46), (.ref b0)])) (fun tZ kZ => ?_) ?_
  · refine XS.iloadN X2.here hx rfl (hb hby d12_11) rfl ?_
    refine XS.iloadN X2.here hx rfl (hb hby d12_12) rfl ?_
    refine XS.aloadN X2.here hx rfl (hb hby d12_13) rfl rfl ?_
    exact kZ
  obtain ⟨cq3, kq3, q3a, q3b, q3c⟩ := isOf hZ e2 ha0
  obtain ⟨_, _, ⟨T3, L3, k3, n3⟩, -, X3, ⟨Lc3, hQ3, l3, y3, z3⟩, st3⟩ := X2.virtualBack hx (y := y14) (z := y14) hown (wz hZ hw 78 rfl) (wz hZ hw 79 rfl) (notFace_of_selects (args := #[]) (wz hZ hw 81 rfl)) (wz hZ hw 81 rfl) (wz hZ hw 80 rfl) (by decide) (backOf (W := 3) (rm14 l Z a0 hw [] o0 b0 0 fF cs h0 n0 Z0 ha0 ha1 ha2 ha3 ha4 hcs) hZ (wq hw 82 rfl) (wq hw 10 rfl) (by decide) (by decide)) q3a q3c (g := (mkF m 14 #[sR o0, sI 46, sI 0] [(.ref o0), (.int 0), (.int 46), (.ref b0)])) rfl (by rw [hml]; rfl) (Steps.refl _) (argsL := []) (rest := [(.int 0), (.int 46), (.ref b0)]) (lenOf pd_12 rfl) rfl (leW rfl) (hb hby d12_14) (fun _ _ => ⟨rfl, e2, (by decide : 0 + 0 + 0 ≤ _), (by decide : 0 + 0 + 0 ≤ _)⟩)
  dsimp only [Pt.U, Pt.locs, Pt.cells, Pt.slots] at X3 l3 y3 z3 st3 hQ3
  subst l3 y3 z3
  obtain ⟨rfl, N3q, e3⟩ := hQ3
  have hv3 : (f14 o0 b0 0 fF cs) = (Int32.ofNat 0) := by unfold f14; exact own_sh0 _
  rw [hv3] at st3
  have N3 := Fr.app N1 N3q
  refine Go.via (fun t k => st3.trans k) ?_
  obtain ⟨_, _, ⟨T4, L4, k4, n4⟩, -, X4, ⟨Lc4, hQ4, l4, y4, z4⟩, st4⟩ := Jvm.LawKit.callS X3 hx (y := y16) hown (wz hZ hw 88 rfl) (wz hZ hw 89 rfl) (wz hZ hw 90 rfl) (wz hZ hw 91 rfl) (by decide) (backOf (W := 0) (rm16n0 l Z a0 hw [] b0 fF h0 n0 Z0 ha3) hZ (wq hw 91 rfl) (wq hw 90 rfl) (by decide) (by decide)) (g := (mkF m 17 #[sR o0, sI 46, sI 0] [(.int 0), (.int 0), (.int 46), (.ref b0)])) rfl (by rw [hml]; rfl) (argsL := [(.ref b0), (.int 46), (.int 0), (.int 0)]) (rest := []) (lenOf pd_14 rfl) rfl (leW rfl) (hb hby d12_17) (fun _ _ => ⟨rfl, e3, (by decide : 0 + 0 + 0 + 0 ≤ _), (by decide : 0 + 0 + 0 + 0 ≤ _)⟩)
  dsimp only [Pt.U, Pt.locs, Pt.cells, Pt.slots] at X4 l4 y4 z4 st4 hQ4
  subst l4 y4 z4
  obtain ⟨rfl, N4q, e4⟩ := hQ4
  have N4 := Fr.app N3 N4q
  refine Go.via st4 ?_
  refine Vi (T4.setTop (mkF m 36 #[sR o0, sI 46, sI 0] [(.int (f16n0 b0 fF))])) (fun tZ kZ => ?_) ?_
  · refine XS.goto X4.here hx rfl (pc0 := 20) (pc' := 36) rfl (hb hby d12_20) (by decide) (by decide) ?_
    exact kZ
  refine Go.retI X4 hx Bd.notSynchronized Bd.returns (hb hby d12_36) (by decide) (by decide) ?_
  refine ⟨?_, N4, e4⟩
  show some ((.int (f16n0 b0 fF)) : Value) = some (.int (f12n0 o0 b0 fF cs))
  rfl
theorem d11_0 : decode B11 0 = .ok (.aload_n 0, 1) := by decide +kernel
theorem d11_1 : decode B11 1 = .ok (.iload_n 1, 1) := by decide +kernel
theorem d11_2 : decode B11 2 = .ok (.iconst 0, 1) := by decide +kernel
theorem d11_3 : decode B11 3 = .ok (.invokevirtual 633, 3) := by decide +kernel
theorem d11_6 : decode B11 6 = .ok (.ireturn, 1) := by decide +kernel
def f11n0 (o0 : Addr) (b0 : Addr) (fF : Nat → Int32) (cs : Int32) : Int32 := (f12n0 o0 b0 fF cs)
def Q11n0 (o0 : Addr) (b0 : Addr) (fF : Nat → Int32) (cs : Int32) (h0 : Heap) (n0 : Nat) (v : Option Value) (h : Heap) (L : List Loc) : Prop := v = some (.int (f11n0 o0 b0 fF cs)) ∧ Fr n0 L ∧ h = h0
abbrev RM_3_0_0_42 : Room := { frames := 3, cells := 0, slots := 0, locals := 42 }
theorem ef_11_aa (m : MethodId) (x0 : Addr) (x1 : Int32) : entryFrame m #[(.ref x0), (.int x1)] 2 = mkF m 0 #[.val (.ref x0), .val (.int x1)] [] := by first | (simp [entryFrame, mkF, argsToLocals, Value.category]; done) | rfl
theorem rm11n0 (l : Launch) (Z : State) (a0 : Array Value) (hw : HW a0 Z) (ws : List Jvm.Cond) (o0 : Addr) (b0 : Addr) (fF : Nat → Int32) (cs : Int32) (h0 : Heap) (n0 : Nat) (Z0 : n0 ≤ h0.size) (ha0 : Exa Z h0 o0 "java/lang/String") (ha1 : Fld Z h0 o0 "java/lang/String" "coder" "B" (.int 0)) (ha2 : Fld Z h0 o0 "java/lang/String" "value" "[B" (.ref b0)) (ha3 : AV Z h0 b0 .byte 0 (fun k => .int (fF k))) (ha4 : Sta Z h0 "java/lang/String" "COMPACT_STRINGS" "Z" (.int cs)) (hcs : ¬ cs = 0) :
    MetFree l y11 (head1 (Jvm.Cond.code y11 jdk_42_method_79_code 2 (some .int) :: ws) RM_3_0_0_42) (fun a U => a = #[(.ref o0), (.int 46)] ∧ Z.Warmed39 U.vm ∧ U.heap = h0) (fun _ _ _ _ _ => True) (fun _ U o U' => ∃ v L, o = .returned v ∧ Q11n0 o0 b0 fF cs h0 n0 v U'.heap L ∧ FrameEnd U o U' L RM_3_0_0_42.cells RM_3_0_0_42.slots) := by
  refine MetFree.of_bodySF (plainFor_of_name pn_0) hisR ?_
  intro p e s m args below meth c s₁ Bd hml0 hP hK
  obtain ⟨rfl, hZ, hh⟩ := hP
  have hx := Bd.exec
  have hby := Bd.bytes
  have hml : c.maxLocals = 2 := hml0
  have hown : s.vm.findClass "java/lang/String" = some m.cls := findClass_of_methodNamed Bd.named
  have X0 : Stand p l e RM_3_0_0_42 s m _ below meth c s₁ [] 0 0 := Stand.of_body Bd
  have e0 : s₁.heap = h0 := by rw [← hh, Bd.state]; rfl
  have N0 := Fr.nil n0
  refine Go.into (P := fun oo uu => ∃ v L, oo = .returned v ∧ Q11n0 o0 b0 fF cs h0 n0 v uu.heap L ∧ FrameEnd s oo uu L RM_3_0_0_42.cells RM_3_0_0_42.slots) (ef_11_aa m o0 (46 : Int32)) ?_
  show Go p e below _ (s₁.setTop (mkF m 0 #[sR o0, sI 46] []))
  refine Vi (s₁.setTop (mkF m 3 #[sR o0, sI 46] [(.int 0), (.int 46), (.ref o0)])) (fun tZ kZ => ?_) ?_
  · refine XS.aloadN X0.here hx rfl (hb hby d11_0) rfl rfl ?_
    refine XS.iloadN X0.here hx rfl (hb hby d11_1) rfl ?_
    refine XS.iconst X0.here hx rfl (hb hby d11_2) ?_
    exact kZ
  obtain ⟨cq1, kq1, q1a, q1b, q1c⟩ := isOf hZ e0 ha0
  obtain ⟨_, _, ⟨T1, L1, k1, n1⟩, -, X1, ⟨Lc1, hQ1, l1, y1, z1⟩, st1⟩ := X0.virtualBack hx (y := y12) (z := y12) hown (wz hZ hw 67 rfl) (wz hZ hw 68 rfl) (notFace_of_selects (args := #[]) (wz hZ hw 70 rfl)) (wz hZ hw 70 rfl) (wz hZ hw 69 rfl) (by decide) (backOf (W := 0) (rm12n0 l Z a0 hw [] o0 b0 fF cs h0 n0 Z0 ha0 ha1 ha2 ha3 ha4 hcs) hZ (wq hw 71 rfl) (wq hw 10 rfl) (by decide) (by decide)) q1a q1c (g := (mkF m 3 #[sR o0, sI 46] [(.int 0), (.int 46), (.ref o0)])) rfl (by rw [hml]; rfl) (Steps.refl _) (argsL := [(.int 46), (.int 0)]) (rest := []) (lenOf pd_10 rfl) rfl (leW rfl) (hb hby d11_3) (fun _ _ => ⟨rfl, e0, (by decide : 0 + 0 ≤ _), (by decide : 0 + 0 ≤ _)⟩)
  dsimp only [Pt.U, Pt.locs, Pt.cells, Pt.slots] at X1 l1 y1 z1 st1 hQ1
  subst l1 y1 z1
  obtain ⟨rfl, N1q, e1⟩ := hQ1
  have N1 := Fr.app N0 N1q
  refine Go.via (fun t k => st1.trans k) ?_
  refine Go.retI X1 hx Bd.notSynchronized Bd.returns (hb hby d11_6) (by decide) (by decide) ?_
  refine ⟨?_, N1, e1⟩
  show some ((.int (f12n0 o0 b0 fF cs)) : Value) = some (.int (f11n0 o0 b0 fF cs))
  rfl
theorem own_l0_0 (sn b0 : Addr) (fF : Nat → Int32) (cs : Int32)  : (f11n0 sn b0 fF cs) = (-1 : Int32) := by unfold f11n0 f12n0 f16n0; try rfl
theorem d21_0 : decode B21 0 = .ok (.iconst 0, 1) := by decide +kernel
theorem d21_1 : decode B21 1 = .ok (.istore 5, 2) := by decide +kernel
theorem d21_3 : decode B21 3 = .ok (.iload 5, 2) := by decide +kernel
theorem d21_5 : decode B21 5 = .ok (.iload 4, 2) := by decide +kernel
theorem d21_7 : decode B21 7 = .ok (.if_icmp .ge 37, 3) := by decide +kernel
theorem d21_10 : decode B21 10 = .ok (.aload_n 0, 1) := by decide +kernel
theorem d21_11 : decode B21 11 = .ok (.iload_n 1, 1) := by decide +kernel
theorem d21_12 : decode B21 12 = .ok (.caload, 1) := by decide +kernel
theorem d21_13 : decode B21 13 = .ok (.istore 6, 2) := by decide +kernel
theorem d21_15 : decode B21 15 = .ok (.iload 6, 2) := by decide +kernel
theorem d21_17 : decode B21 17 = .ok (.sipush 255, 3) := by decide +kernel
theorem d21_20 : decode B21 20 = .ok (.if_icmp .le 6, 3) := by decide +kernel
theorem d21_26 : decode B21 26 = .ok (.aload_n 2, 1) := by decide +kernel
theorem d21_27 : decode B21 27 = .ok (.iload_n 3, 1) := by decide +kernel
theorem d21_28 : decode B21 28 = .ok (.iload 6, 2) := by decide +kernel
theorem d21_30 : decode B21 30 = .ok (.i2b, 1) := by decide +kernel
theorem d21_31 : decode B21 31 = .ok (.bastore, 1) := by decide +kernel
theorem d21_32 : decode B21 32 = .ok (.iinc 1 1, 3) := by decide +kernel
theorem d21_35 : decode B21 35 = .ok (.iinc 3 1, 3) := by decide +kernel
theorem d21_38 : decode B21 38 = .ok (.iinc 5 1, 3) := by decide +kernel
theorem d21_41 : decode B21 41 = .ok (.goto (-38), 3) := by decide +kernel
theorem d21_44 : decode B21 44 = .ok (.iload 4, 2) := by decide +kernel
theorem d21_46 : decode B21 46 = .ok (.ireturn, 1) := by decide +kernel
def Q21n1 (Z : State) (o0 : Addr) (o2 : Addr) (cF : Nat → Int32) (bF : Nat → Int32) (h0 : Heap) (n0 : Nat) (v : Option Value) (h : Heap) (L : List Loc) : Prop := v = some (.int 1) ∧ Fr n0 L ∧ Keep h0 h [o2] ∧ AV Z h o0 .char 1 (fun k => .int (cF k)) ∧ AV Z h o2 .byte 1 (fun k => .int ((up bF (0 : Int32).toNatClampNeg (nar .byte ((cF (0 : Int32).toNatClampNeg).toInt8.toInt32))) k))
theorem pn_7 : plainName "java/lang/StringUTF16" = true := by first | (simp [plainName, overriddenIn]; done) | decide +kernel
theorem ef_21_aaaaa (m : MethodId) (x0 : Addr) (x1 : Int32) (x2 : Addr) (x3 : Int32) (x4 : Int32) : entryFrame m #[(.ref x0), (.int x1), (.ref x2), (.int x3), (.int x4)] 7 = mkF m 0 #[.val (.ref x0), .val (.int x1), .val (.ref x2), .val (.int x3), .val (.int x4), .unset, .unset] [] := by first | (simp [entryFrame, mkF, argsToLocals, Value.category]; done) | rfl
theorem rm21n1 (l : Launch) (Z : State) (a0 : Array Value) (hw : HW a0 Z) (ws : List Jvm.Cond) (o0 : Addr) (o2 : Addr) (cF : Nat → Int32) (bF : Nat → Int32) (h0 : Heap) (n0 : Nat) (Z0 : n0 ≤ h0.size) (ha0 : AV Z h0 o0 .char 1 (fun k => .int (cF k))) (ha1 : AV Z h0 o2 .byte 1 (fun k => .int (bF k))) (ha2 : n0 ≤ o2) (hne_o0_o2 : o0 ≠ o2) (hch0 : ¬ (255 : Int32) < (cF (0 : Int32).toNatClampNeg)) :
    MetFree l y21 (head1 (Jvm.Cond.code y21 jdk_52_method_21_code 7 (some .int) :: ws) RM_0_0_0_0) (fun a U => a = #[(.ref o0), (.int 0), (.ref o2), (.int 0), (.int 1)] ∧ Z.Warmed39 U.vm ∧ U.heap = h0) (fun _ _ _ _ _ => True) (fun _ U o U' => ∃ v L, o = .returned v ∧ Q21n1 Z o0 o2 cF bF h0 n0 v U'.heap L ∧ FrameEnd U o U' L RM_0_0_0_0.cells RM_0_0_0_0.slots) := by
  refine MetFree.of_bodySF (plainFor_of_name pn_7) hisR ?_
  intro p e s m args below meth c s₁ Bd hml0 hP hK
  obtain ⟨rfl, hZ, hh⟩ := hP
  have hx := Bd.exec
  have hby := Bd.bytes
  have hml : c.maxLocals = 7 := hml0
  have hown : s.vm.findClass "java/lang/StringUTF16" = some m.cls := findClass_of_methodNamed Bd.named
  have X0 : Stand p l e RM_0_0_0_0 s m _ below meth c s₁ [] 0 0 := Stand.of_body Bd
  have e0 : s₁.heap = h0 := by rw [← hh, Bd.state]; rfl
  have N0 := Fr.nil n0
  refine Go.into (P := fun oo uu => ∃ v L, oo = .returned v ∧ Q21n1 Z o0 o2 cF bF h0 n0 v uu.heap L ∧ FrameEnd s oo uu L RM_0_0_0_0.cells RM_0_0_0_0.slots) (ef_21_aaaaa m o0 (0 : Int32) o2 (0 : Int32) (1 : Int32)) ?_
  show Go p e below _ (s₁.setTop (mkF m 0 #[sR o0, sI 0, sR o2, sI 0, sI 1, .unset, .unset] []))
  refine Vi (s₁.setTop (mkF m 31 #[sR o0, sI 0, sR o2, sI 0, sI 1, sI 0, sI (cF (0 : Int32).toNatClampNeg)] [(.int ((cF (0 : Int32).toNatClampNeg).toInt8.toInt32)), (.int 0), (.ref o2)])) (fun tZ kZ => ?_) ?_
  · refine XS.iconst X0.here hx rfl (hb hby d21_0) ?_
    refine XS.istore X0.here hx rfl (hb hby d21_1) rfl (l' := #[sR o0, sI 0, sR o2, sI 0, sI 1, sI 0, .unset]) rfl ?_
    refine XS.iload X0.here hx rfl (hb hby d21_3) rfl ?_
    refine XS.iload X0.here hx rfl (hb hby d21_5) rfl ?_
    refine XS.icmpNo X0.here hx rfl (hb hby d21_7) rfl (tlt (by decide)).2.1 ?_
    refine XS.aloadN X0.here hx rfl (hb hby d21_10) rfl rfl ?_
    refine XS.iloadN X0.here hx rfl (hb hby d21_11) rfl ?_
    refine AV.caload ha0 X0 hx hZ e0 (j := (0 : Int32)) (by decide) (hb hby d21_12) ?_
    refine XS.istore X0.here hx rfl (hb hby d21_13) rfl (l' := #[sR o0, sI 0, sR o2, sI 0, sI 1, sI 0, sI (cF (0 : Int32).toNatClampNeg)]) rfl ?_
    refine XS.iload X0.here hx rfl (hb hby d21_15) rfl ?_
    refine XS.sipush X0.here hx rfl (hb hby d21_17) ?_
    refine XS.icmpYes X0.here hx rfl (pc0 := 20) (pc' := 26) rfl (hb hby d21_20) rfl (flt hch0).2.2.2 (by decide) (by decide) ?_
    refine XS.aloadN X0.here hx rfl (hb hby d21_26) rfl rfl ?_
    refine XS.iloadN X0.here hx rfl (hb hby d21_27) rfl ?_
    refine XS.iload X0.here hx rfl (hb hby d21_28) rfl ?_
    refine XS.i2b X0.here hx rfl (hb hby d21_30) rfl ?_
    exact kZ
  obtain ⟨T1, h1, X1, e1, W1, V1, st1⟩ := AV.bastoreB ha1 X0 hx hZ e0 (j := (0 : Int32)) (by decide) (Ls := #[sR o0, sI 0, sR o2, sI 0, sI 1, sI 0, sI (cF (0 : Int32).toNatClampNeg)]) (rest := []) (hb hby d21_31) (x := ((cF (0 : Int32).toNatClampNeg).toInt8.toInt32))
  have N1 := Fr.snoc X1 N0 ha2
  have c2_0 := ha0.other W1 hne_o0_o2
  have K1 : Keep h0 h1 [o2] := (Keep.refl h0 [o2]).wr W1 (Or.inl (by simp))
  have Z1 := Nat.le_trans Z0 (Keep.of_wr W1).1
  refine Go.via st1 ?_
  refine Vi (T1.setTop (mkF m 46 #[sR o0, sI 1, sR o2, sI 1, sI 1, sI 1, sI (cF (0 : Int32).toNatClampNeg)] [(.int 1)])) (fun tZ kZ => ?_) ?_
  · refine XS.iinc X1.here hx rfl (hb hby d21_32) rfl (l' := #[sR o0, sI 1, sR o2, sI 0, sI 1, sI 0, sI (cF (0 : Int32).toNatClampNeg)]) rfl ?_
    refine XS.iinc X1.here hx rfl (hb hby d21_35) rfl (l' := #[sR o0, sI 1, sR o2, sI 1, sI 1, sI 0, sI (cF (0 : Int32).toNatClampNeg)]) rfl ?_
    refine XS.iinc X1.here hx rfl (hb hby d21_38) rfl (l' := #[sR o0, sI 1, sR o2, sI 1, sI 1, sI 1, sI (cF (0 : Int32).toNatClampNeg)]) rfl ?_
    refine XS.goto X1.here hx rfl (pc0 := 41) (pc' := 3) rfl (hb hby d21_41) (by decide) (by decide) ?_
    refine XS.iload X1.here hx rfl (hb hby d21_3) rfl ?_
    refine XS.iload X1.here hx rfl (hb hby d21_5) rfl ?_
    refine XS.icmpYes X1.here hx rfl (pc0 := 7) (pc' := 44) rfl (hb hby d21_7) rfl (flt (by decide)).2.1 (by decide) (by decide) ?_
    refine XS.iload X1.here hx rfl (hb hby d21_44) rfl ?_
    exact kZ
  refine Go.retI X1 hx Bd.notSynchronized Bd.returns (hb hby d21_46) (by decide) (by decide) ?_
  rw [e1]
  exact ⟨rfl, N1, K1, c2_0, V1⟩
theorem d20_0 : decode B20 0 = .ok (.iload_n 2, 1) := by decide +kernel
theorem d20_1 : decode B20 1 = .ok (.newarray .byte, 2) := by decide +kernel
theorem d20_3 : decode B20 3 = .ok (.astore_n 3, 1) := by decide +kernel
theorem d20_4 : decode B20 4 = .ok (.aload_n 0, 1) := by decide +kernel
theorem d20_5 : decode B20 5 = .ok (.iload_n 1, 1) := by decide +kernel
theorem d20_6 : decode B20 6 = .ok (.aload_n 3, 1) := by decide +kernel
theorem d20_7 : decode B20 7 = .ok (.iconst 0, 1) := by decide +kernel
theorem d20_8 : decode B20 8 = .ok (.iload_n 2, 1) := by decide +kernel
theorem pd_17 : parseMethodDescriptor "([CI[BII)I" = some ⟨[(.array .char), .int, (.array .byte), .int, .int], some .int⟩ := by decide +kernel
theorem d20_9 : decode B20 9 = .ok (.invokestatic 115, 3) := by decide +kernel
theorem d20_12 : decode B20 12 = .ok (.istore 4, 2) := by decide +kernel
theorem d20_14 : decode B20 14 = .ok (.iload 4, 2) := by decide +kernel
theorem d20_16 : decode B20 16 = .ok (.iload_n 2, 1) := by decide +kernel
theorem d20_17 : decode B20 17 = .ok (.if_icmp .eq 40, 3) := by decide +kernel
theorem d20_57 : decode B20 57 = .ok (.aload_n 3, 1) := by decide +kernel
theorem d20_58 : decode B20 58 = .ok (.areturn, 1) := by decide +kernel
def Q20n1 (Z : State) (o0 : Addr) (cF : Nat → Int32) (h0 : Heap) (n0 : Nat) (v : Option Value) (h : Heap) (L : List Loc) : Prop := ∃ b1 : Addr, v = some (.ref b1) ∧ Fr n0 L ∧ Keep h0 h [] ∧ h0.size ≤ b1 ∧ AV Z h o0 .char 1 (fun k => .int (cF k)) ∧ AV Z h b1 .byte 1 (fun k => .int ((up (fun _ => (0 : Int32)) (0 : Int32).toNatClampNeg (nar .byte ((cF (0 : Int32).toNatClampNeg).toInt8.toInt32))) k))
abbrev RM_1_1_1_18 : Room := { frames := 1, cells := 1, slots := 1, locals := 18 }
theorem ef_20_aaa (m : MethodId) (x0 : Addr) (x1 : Int32) (x2 : Int32) : entryFrame m #[(.ref x0), (.int x1), (.int x2)] 6 = mkF m 0 #[.val (.ref x0), .val (.int x1), .val (.int x2), .unset, .unset, .unset] [] := by first | (simp [entryFrame, mkF, argsToLocals, Value.category]; done) | rfl
theorem rm20n1 (l : Launch) (Z : State) (a0 : Array Value) (hw : HW a0 Z) (ws : List Jvm.Cond) (o0 : Addr) (cF : Nat → Int32) (h0 : Heap) (n0 : Nat) (Z0 : n0 ≤ h0.size) (ha0 : AV Z h0 o0 .char 1 (fun k => .int (cF k))) (hch0 : ¬ (255 : Int32) < (cF (0 : Int32).toNatClampNeg)) :
    MetFree l y20 (head1 (Jvm.Cond.code y20 jdk_52_method_16_code 6 (some (.array .byte)) :: ws) RM_1_1_1_18) (fun a U => a = #[(.ref o0), (.int 0), (.int 1)] ∧ Z.Warmed39 U.vm ∧ U.heap = h0) (fun _ _ _ _ _ => True) (fun _ U o U' => ∃ v L, o = .returned v ∧ Q20n1 Z o0 cF h0 n0 v U'.heap L ∧ FrameEnd U o U' L RM_1_1_1_18.cells RM_1_1_1_18.slots) := by
  refine MetFree.of_bodySF (plainFor_of_name pn_7) hisR ?_
  intro p e s m args below meth c s₁ Bd hml0 hP hK
  obtain ⟨rfl, hZ, hh⟩ := hP
  have hx := Bd.exec
  have hby := Bd.bytes
  have hml : c.maxLocals = 6 := hml0
  have hown : s.vm.findClass "java/lang/StringUTF16" = some m.cls := findClass_of_methodNamed Bd.named
  have X0 : Stand p l e RM_1_1_1_18 s m _ below meth c s₁ [] 0 0 := Stand.of_body Bd
  have e0 : s₁.heap = h0 := by rw [← hh, Bd.state]; rfl
  have N0 := Fr.nil n0
  refine Go.into (P := fun oo uu => ∃ v L, oo = .returned v ∧ Q20n1 Z o0 cF h0 n0 v uu.heap L ∧ FrameEnd s oo uu L RM_1_1_1_18.cells RM_1_1_1_18.slots) (ef_20_aaa m o0 (0 : Int32) (1 : Int32)) ?_
  show Go p e below _ (s₁.setTop (mkF m 0 #[sR o0, sI 0, sI 1, .unset, .unset, .unset] []))
  refine Vi (s₁.setTop (mkF m 1 #[sR o0, sI 0, sI 1, .unset, .unset, .unset] [(.int 1)])) (fun tZ kZ => ?_) ?_
  · refine XS.iloadN X0.here hx rfl (hb hby d20_0) rfl ?_
    exact kZ
  obtain ⟨T1, h1, k1, X1, e1, E1, A1, B1, st1⟩ := newPE X0 hx hZ (wq hw 23 rfl) e0 (g := (mkF m 1 #[sR o0, sI 0, sI 1, .unset, .unset, .unset] [(.int 1)])) rfl (hb hby d20_1) rfl (by decide) (cap := 1) (by decide) (by decide) (by decide) (by decide) (ad := "[B") rfl
  obtain ⟨b1, g1⟩ : ∃ z, z = h0.size := ⟨_, rfl⟩
  rw [← g1] at A1 B1 st1
  have g_b1 : n0 ≤ b1 := Nat.le_trans Z0 (Nat.le_of_eq g1.symm)
  have sz_b1 : h0.size ≤ b1 := Nat.le_trans ((Keep.refl h0 [])).1 (Nat.le_of_eq g1.symm)
  have ne_o0_b1 : o0 ≠ b1 := Nat.ne_of_lt (Nat.lt_of_lt_of_le ha0.lt (Nat.le_of_eq g1.symm))
  have c2_0 := ha0.ext E1
  have K1 : Keep h0 h1 [] := (Keep.refl h0 []).ext E1
  have Z1 := Nat.le_trans Z0 E1.1
  have V1 : AV Z h1 b1 .byte 1 (fun k => .int ((fun _ => (0 : Int32)) k)) := by have q := AV.new A1; exact q
  refine Go.via st1 ?_
  refine Vi (T1.setTop (mkF m 9 #[sR o0, sI 0, sI 1, sR b1, .unset, .unset] [(.int 1), (.int 0), (.ref b1), (.int 0), (.ref o0)])) (fun tZ kZ => ?_) ?_
  · refine XS.astoreN X1.here hx rfl (hb hby d20_3) rfl rfl (l' := #[sR o0, sI 0, sI 1, sR b1, .unset, .unset]) rfl ?_
    refine XS.aloadN X1.here hx rfl (hb hby d20_4) rfl rfl ?_
    refine XS.iloadN X1.here hx rfl (hb hby d20_5) rfl ?_
    refine XS.aloadN X1.here hx rfl (hb hby d20_6) rfl rfl ?_
    refine XS.iconst X1.here hx rfl (hb hby d20_7) ?_
    refine XS.iloadN X1.here hx rfl (hb hby d20_8) rfl ?_
    exact kZ
  obtain ⟨_, _, ⟨T3, L3, k3, n3⟩, -, X3, ⟨Lc3, hQ3, l3, y3, z3⟩, st3⟩ := Jvm.LawKit.callS X1 hx (y := y21) hown (wz hZ hw 107 rfl) (wz hZ hw 108 rfl) (wz hZ hw 105 rfl) (wz hZ hw 109 rfl) (by decide) (backOf (W := 0) (rm21n1 l Z a0 hw [] o0 b1 cF (fun _ => (0 : Int32)) h1 n0 Z1 c2_0 V1 g_b1 ne_o0_b1 hch0) hZ (wq hw 109 rfl) (wq hw 105 rfl) (by decide) (by decide)) (g := (mkF m 9 #[sR o0, sI 0, sI 1, sR b1, .unset, .unset] [(.int 1), (.int 0), (.ref b1), (.int 0), (.ref o0)])) rfl (by rw [hml]; rfl) (argsL := [(.ref o0), (.int 0), (.ref b1), (.int 0), (.int 1)]) (rest := []) (lenOf pd_17 rfl) rfl (leW rfl) (hb hby d20_9) (fun _ _ => ⟨rfl, e1, (by decide : 0 + 1 + 0 ≤ _), (by decide : 0 + 1 + 0 ≤ _)⟩)
  dsimp only [Pt.U, Pt.locs, Pt.cells, Pt.slots] at X3 l3 y3 z3 st3 hQ3
  subst l3 y3 z3
  obtain ⟨rfl, N3q, Kq3, f3_0, f3_1⟩ := hQ3
  have K3 : Keep h0 T3.heap [] := K1.trans Kq3 (allS (Or.inr sz_b1) all0)
  have Z3 := Nat.le_trans Z1 Kq3.1
  have N3 := Fr.app N0 N3q
  refine Go.via st3 ?_
  refine Vi (T3.setTop (mkF m 58 #[sR o0, sI 0, sI 1, sR b1, sI 1, .unset] [(.ref b1)])) (fun tZ kZ => ?_) ?_
  · refine XS.istore X3.here hx rfl (hb hby d20_12) rfl (l' := #[sR o0, sI 0, sI 1, sR b1, sI 1, .unset]) rfl ?_
    refine XS.iload X3.here hx rfl (hb hby d20_14) rfl ?_
    refine XS.iloadN X3.here hx rfl (hb hby d20_16) rfl ?_
    refine XS.icmpYes X3.here hx rfl (pc0 := 17) (pc' := 57) rfl (hb hby d20_17) rfl (teq (by decide)).1 (by decide) (by decide) ?_
    refine XS.aloadN X3.here hx rfl (hb hby d20_57) rfl rfl ?_
    exact kZ
  refine Go.retR X3 hx Bd.notSynchronized Bd.returns rfl rfl (hb hby d20_58) (by decide) (by decide) ?_
  exact ⟨b1, rfl, N3, K3, sz_b1, f3_0, f3_1⟩
theorem d22_0 : decode B22 0 = .ok (.iload_n 1, 1) := by decide +kernel
theorem d22_1 : decode B22 1 = .ok (.aload_n 0, 1) := by decide +kernel
theorem d22_2 : decode B22 2 = .ok (.arraylength, 1) := by decide +kernel
theorem d22_3 : decode B22 3 = .ok (.isub, 1) := by decide +kernel
theorem d22_4 : decode B22 4 = .ok (.bipush 31, 2) := by decide +kernel
theorem d22_6 : decode B22 6 = .ok (.iushr, 1) := by decide +kernel
theorem d22_7 : decode B22 7 = .ok (.i2b, 1) := by decide +kernel
theorem d22_8 : decode B22 8 = .ok (.ireturn, 1) := by decide +kernel
def f22n1 (o0 : Addr) (bF : Nat → Int32) : Int32 := (nar .byte ((((0 : Int32).toUInt32 >>> ((31 : Int32) &&& 31).toUInt32).toInt32).toInt8.toInt32))
def Q22n1 (o0 : Addr) (bF : Nat → Int32) (h0 : Heap) (n0 : Nat) (v : Option Value) (h : Heap) (L : List Loc) : Prop := v = some (.int (f22n1 o0 bF)) ∧ Fr n0 L ∧ h = h0
theorem ef_22_aa (m : MethodId) (x0 : Addr) (x1 : Int32) : entryFrame m #[(.ref x0), (.int x1)] 2 = mkF m 0 #[.val (.ref x0), .val (.int x1)] [] := by first | (simp [entryFrame, mkF, argsToLocals, Value.category]; done) | rfl
theorem rm22n1 (l : Launch) (Z : State) (a0 : Array Value) (hw : HW a0 Z) (ws : List Jvm.Cond) (o0 : Addr) (bF : Nat → Int32) (h0 : Heap) (n0 : Nat) (Z0 : n0 ≤ h0.size) (ha0 : AV Z h0 o0 .byte 1 (fun k => .int (bF k))) :
    MetFree l y22 (head1 (Jvm.Cond.code y22 jdk_52_method_15_code 2 (some .byte) :: ws) RM_0_0_0_0) (fun a U => a = #[(.ref o0), (.int 1)] ∧ Z.Warmed39 U.vm ∧ U.heap = h0) (fun _ _ _ _ _ => True) (fun _ U o U' => ∃ v L, o = .returned v ∧ Q22n1 o0 bF h0 n0 v U'.heap L ∧ FrameEnd U o U' L RM_0_0_0_0.cells RM_0_0_0_0.slots) := by
  refine MetFree.of_bodySF (plainFor_of_name pn_7) hisR ?_
  intro p e s m args below meth c s₁ Bd hml0 hP hK
  obtain ⟨rfl, hZ, hh⟩ := hP
  have hx := Bd.exec
  have hby := Bd.bytes
  have hml : c.maxLocals = 2 := hml0
  have hown : s.vm.findClass "java/lang/StringUTF16" = some m.cls := findClass_of_methodNamed Bd.named
  have X0 : Stand p l e RM_0_0_0_0 s m _ below meth c s₁ [] 0 0 := Stand.of_body Bd
  have e0 : s₁.heap = h0 := by rw [← hh, Bd.state]; rfl
  have N0 := Fr.nil n0
  refine Go.into (P := fun oo uu => ∃ v L, oo = .returned v ∧ Q22n1 o0 bF h0 n0 v uu.heap L ∧ FrameEnd s oo uu L RM_0_0_0_0.cells RM_0_0_0_0.slots) (ef_22_aa m o0 (1 : Int32)) ?_
  show Go p e below _ (s₁.setTop (mkF m 0 #[sR o0, sI 1] []))
  refine Vi (s₁.setTop (mkF m 8 #[sR o0, sI 1] [(.int ((((0 : Int32).toUInt32 >>> ((31 : Int32) &&& 31).toUInt32).toInt32).toInt8.toInt32))])) (fun tZ kZ => ?_) ?_
  · refine XS.iloadN X0.here hx rfl (hb hby d22_0) rfl ?_
    refine XS.aloadN X0.here hx rfl (hb hby d22_1) rfl rfl ?_
    refine AV.len ha0 X0 hx hZ e0 (hb hby d22_2) ?_
    refine XS.isub X0.here hx rfl (hb hby d22_3) rfl ?_
    refine XS.bipush X0.here hx rfl (hb hby d22_4) ?_
    refine XS.iushr X0.here hx rfl (hb hby d22_6) rfl ?_
    refine XS.i2b X0.here hx rfl (hb hby d22_7) rfl ?_
    exact kZ
  refine Go.retN X0 hx Bd.notSynchronized (t := .byte) Bd.returns (by simp) (hb hby d22_8) (by decide) (by decide) ?_
  refine ⟨?_, N0, e0⟩
  show some ((Value.int (nar .byte ((((0 : Int32).toUInt32 >>> ((31 : Int32) &&& 31).toUInt32).toInt32).toInt8.toInt32))) : Value) = some (.int (f22n1 o0 bF))
  rfl
theorem d4_27 : decode B4 27 = .ok (.getstatic 38, 3) := by decide +kernel
theorem d4_30 : decode B4 30 = .ok (.ifCond .eq 28, 3) := by decide +kernel
theorem d4_33 : decode B4 33 = .ok (.aload_n 1, 1) := by decide +kernel
theorem d4_34 : decode B4 34 = .ok (.iload_n 2, 1) := by decide +kernel
theorem d4_35 : decode B4 35 = .ok (.iload_n 3, 1) := by decide +kernel
theorem pd_16 : parseMethodDescriptor "([CII)[B" = some ⟨[(.array .char), .int, .int], some (.array .byte)⟩ := by decide +kernel
theorem d4_36 : decode B4 36 = .ok (.invokestatic 177, 3) := by decide +kernel
theorem d4_39 : decode B4 39 = .ok (.astore 5, 2) := by decide +kernel
theorem d4_41 : decode B4 41 = .ok (.aload_n 0, 1) := by decide +kernel
theorem d4_42 : decode B4 42 = .ok (.aload 5, 2) := by decide +kernel
theorem d4_44 : decode B4 44 = .ok (.iload_n 3, 1) := by decide +kernel
theorem pd_18 : parseMethodDescriptor "([BI)B" = some ⟨[(.array .byte), .int], some .byte⟩ := by decide +kernel
theorem d4_45 : decode B4 45 = .ok (.invokestatic 47, 3) := by decide +kernel
theorem d4_48 : decode B4 48 = .ok (.putfield 15, 3) := by decide +kernel
theorem d4_51 : decode B4 51 = .ok (.aload_n 0, 1) := by decide +kernel
theorem d4_52 : decode B4 52 = .ok (.aload 5, 2) := by decide +kernel
theorem d4_54 : decode B4 54 = .ok (.putfield 9, 3) := by decide +kernel
theorem d4_57 : decode B4 57 = .ok (.return_, 1) := by decide +kernel
def Q4n1 (Z : State) (o0 : Addr) (o1 : Addr) (cF : Nat → Int32) (cs : Int32) (h0 : Heap) (n0 : Nat) (v : Option Value) (h : Heap) (L : List Loc) : Prop := ∃ b3_0 : Addr, v = none ∧ Fr n0 L ∧ Keep h0 h [o0] ∧ h0.size ≤ b3_0 ∧ Exa Z h o0 "java/lang/String" ∧ Fld Z h o0 "java/lang/String" "value" "[B" (.ref b3_0) ∧ Fld Z h o0 "java/lang/String" "coder" "B" (.int 0) ∧ AV Z h o1 .char 1 (fun k => .int (cF k)) ∧ Sta Z h "java/lang/String" "COMPACT_STRINGS" "Z" (.int cs) ∧ AV Z h b3_0 .byte 1 (fun k => .int ((up (fun _ => (0 : Int32)) (0 : Int32).toNatClampNeg (nar .byte ((cF (0 : Int32).toNatClampNeg).toInt8.toInt32))) k))
abbrev RM_2_1_1_35 : Room := { frames := 2, cells := 1, slots := 1, locals := 35 }
theorem rm4n1 (l : Launch) (Z : State) (a0 : Array Value) (hw : HW a0 Z) (ws : List Jvm.Cond) (o0 : Addr) (o1 : Addr) (cF : Nat → Int32) (cs : Int32) (h0 : Heap) (n0 : Nat) (Z0 : n0 ≤ h0.size) (ha0 : Exa Z h0 o0 "java/lang/String") (ha1 : Fld Z h0 o0 "java/lang/String" "value" "[B" .null) (ha2 : Fld Z h0 o0 "java/lang/String" "coder" "B" (.int 0)) (ha3 : n0 ≤ o0) (ha4 : AV Z h0 o1 .char 1 (fun k => .int (cF k))) (ha5 : Sta Z h0 "java/lang/String" "COMPACT_STRINGS" "Z" (.int cs)) (hne_o1_o0 : o1 ≠ o0) (hch0 : ¬ (255 : Int32) < (cF (0 : Int32).toNatClampNeg)) (hcs : ¬ cs = 0) :
    MetFree l y4 (head1 (Jvm.Cond.code y4 jdk_42_method_149_code 6 none :: ws) RM_2_1_1_35) (fun a U => a = #[(.ref o0), (.ref o1), (.int 0), (.int 1), .null] ∧ Z.Warmed39 U.vm ∧ U.heap = h0) (fun _ _ _ _ _ => True) (fun _ U o U' => ∃ v L, o = .returned v ∧ Q4n1 Z o0 o1 cF cs h0 n0 v U'.heap L ∧ FrameEnd U o U' L RM_2_1_1_35.cells RM_2_1_1_35.slots) := by
  refine MetFree.of_bodySF (plainFor_of_name pn_0) hisR ?_
  intro p e s m args below meth c s₁ Bd hml0 hP hK
  obtain ⟨rfl, hZ, hh⟩ := hP
  have hx := Bd.exec
  have hby := Bd.bytes
  have hml : c.maxLocals = 6 := hml0
  have hown : s.vm.findClass "java/lang/String" = some m.cls := findClass_of_methodNamed Bd.named
  have hnm := (name_of_methodNamed Bd.named Bd.method).1
  have X0 : Stand p l e RM_2_1_1_35 s m _ below meth c s₁ [] 0 0 := Stand.of_body Bd
  have e0 : s₁.heap = h0 := by rw [← hh, Bd.state]; rfl
  have N0 := Fr.nil n0
  refine Go.into (P := fun oo uu => ∃ v L, oo = .returned v ∧ Q4n1 Z o0 o1 cF cs h0 n0 v uu.heap L ∧ FrameEnd s oo uu L RM_2_1_1_35.cells RM_2_1_1_35.slots) (ef_4_aaaan m o0 o1 (0 : Int32) (1 : Int32)) ?_
  show Go p e below _ (s₁.setTop (mkF m 0 #[sR o0, sR o1, sI 0, sI 1, .val .null, .unset] []))
  refine Vi (s₁.setTop (mkF m 1 #[sR o0, sR o1, sI 0, sI 1, .val .null, .unset] [(.ref o0)])) (fun tZ kZ => ?_) ?_
  · refine XS.aloadN X0.here hx rfl (hb hby d4_0) rfl rfl ?_
    exact kZ
  obtain ⟨T1, X1, e1, st1⟩ := initO X0 hx hZ hown (wq hw 19 rfl) (wq hw 20 rfl) (wq hw 21 rfl) e0 (g := (mkF m 1 #[sR o0, sR o1, sI 0, sI 1, .val .null, .unset] [(.ref o0)])) rfl (by rw [hml]; rfl) rfl (hb hby d4_1) (by decide) (W := 0) (by show 2 * 0 + _ ≤ _; exact Nat.le_of_eq rfl) (by decide)
  refine Go.via st1 ?_
  refine Vi (T1.setTop (mkF m 27 #[sR o0, sR o1, sI 0, sI 1, .val .null, .unset] [])) (fun tZ kZ => ?_) ?_
  · refine XS.iloadN X1.here hx rfl (hb hby d4_4) rfl ?_
    refine XS.ifYes X1.here hx rfl (pc0 := 5) (pc' := 27) rfl (hb hby d4_5) rfl ((if0 _ _).trans (feq (by decide)).2) (by decide) (by decide) ?_
    exact kZ
  obtain ⟨T2, X2, e2, st2⟩ := getS2 X1 hx hZ hown (host := "") (Or.inl (wq hw 77 rfl)) Via.refl e1 ha5 (g := (mkF m 27 #[sR o0, sR o1, sI 0, sI 1, .val .null, .unset] [])) rfl (hb hby d4_27)
  refine Go.via st2 ?_
  refine Vi (T2.setTop (mkF m 36 #[sR o0, sR o1, sI 0, sI 1, .val .null, .unset] [(.int 1), (.int 0), (.ref o1)])) (fun tZ kZ => ?_) ?_
  · refine XS.ifNo X2.here hx rfl (hb hby d4_30) rfl ((if0 _ _).trans (feq hcs).1) ?_
    refine XS.aloadN X2.here hx rfl (hb hby d4_33) rfl rfl ?_
    refine XS.iloadN X2.here hx rfl (hb hby d4_34) rfl ?_
    refine XS.iloadN X2.here hx rfl (hb hby d4_35) rfl ?_
    exact kZ
  obtain ⟨_, _, ⟨T3, L3, k3, n3⟩, -, X3, ⟨Lc3, hQ3, l3, y3, z3⟩, st3⟩ := Jvm.LawKit.callS X2 hx (y := y20) hown (wz hZ hw 103 rfl) (wz hZ hw 104 rfl) (wz hZ hw 105 rfl) (wz hZ hw 106 rfl) (by decide) (backOf (W := 0) (rm20n1 l Z a0 hw [] o1 cF h0 n0 Z0 ha4 hch0) hZ (wq hw 106 rfl) (wq hw 105 rfl) (by decide) (by decide)) (g := (mkF m 36 #[sR o0, sR o1, sI 0, sI 1, .val .null, .unset] [(.int 1), (.int 0), (.ref o1)])) rfl (by rw [hml]; rfl) (argsL := [(.ref o1), (.int 0), (.int 1)]) (rest := []) (lenOf pd_16 rfl) rfl (leW rfl) (hb hby d4_36) (fun _ _ => ⟨rfl, e2, (by decide : 0 + 1 ≤ _), (by decide : 0 + 1 ≤ _)⟩)
  dsimp only [Pt.U, Pt.locs, Pt.cells, Pt.slots] at X3 l3 y3 z3 st3 hQ3
  subst l3 y3 z3
  obtain ⟨b3_0, rfl, N3q, Kq3, hz_b3_0, f3_0, f3_1⟩ := hQ3
  have g_b3_0 : n0 ≤ b3_0 := Nat.le_trans Z0 hz_b3_0
  have sz_b3_0 : h0.size ≤ b3_0 := Nat.le_trans ((Keep.refl h0 [o0])).1 hz_b3_0
  have ne_o0_b3_0 : o0 ≠ b3_0 := Nat.ne_of_lt (Nat.lt_of_lt_of_le ha0.lt hz_b3_0)
  have ne_o1_b3_0 : o1 ≠ b3_0 := Nat.ne_of_lt (Nat.lt_of_lt_of_le ha4.lt hz_b3_0)
  have c4_0 := ha0.keep Kq3
  have c4_1 := ha1.keep Kq3 nin0
  have c4_2 := ha2.keep Kq3 nin0
  have c4_5 := own_sk ha5 Kq3 (fun _ _ _ _ => nin0)
  have K3 : Keep h0 T3.heap [o0] := (Keep.refl h0 [o0]).trans Kq3 all0
  have Z3 := Nat.le_trans Z0 Kq3.1
  have N3 := Fr.app N0 N3q
  refine Go.via st3 ?_
  refine Vi (T3.setTop (mkF m 45 #[sR o0, sR o1, sI 0, sI 1, .val .null, sR b3_0] [(.int 1), (.ref b3_0), (.ref o0)])) (fun tZ kZ => ?_) ?_
  · refine XS.astore X3.here hx rfl (hb hby d4_39) rfl rfl (l' := #[sR o0, sR o1, sI 0, sI 1, .val .null, sR b3_0]) rfl ?_
    refine XS.aloadN X3.here hx rfl (hb hby d4_41) rfl rfl ?_
    refine XS.aload X3.here hx rfl (hb hby d4_42) rfl rfl ?_
    refine XS.iloadN X3.here hx rfl (hb hby d4_44) rfl ?_
    exact kZ
  obtain ⟨_, _, ⟨T5, L5, k5, n5⟩, -, X5, ⟨Lc5, hQ5, l5, y5, z5⟩, st5⟩ := Jvm.LawKit.callS X3 hx (y := y22) hown (wz hZ hw 110 rfl) (wz hZ hw 111 rfl) (wz hZ hw 105 rfl) (wz hZ hw 112 rfl) (by decide) (backOf (W := 1) (rm22n1 l Z a0 hw [] b3_0 (up (fun _ => (0 : Int32)) (0 : Int32).toNatClampNeg (nar .byte ((cF (0 : Int32).toNatClampNeg).toInt8.toInt32))) T3.heap n0 Z3 f3_1) hZ (wq hw 112 rfl) (wq hw 105 rfl) (by decide) (by decide)) (g := (mkF m 45 #[sR o0, sR o1, sI 0, sI 1, .val .null, sR b3_0] [(.int 1), (.ref b3_0), (.ref o0)])) rfl (by rw [hml]; rfl) (argsL := [(.ref b3_0), (.int 1)]) (rest := [(.ref o0)]) (lenOf pd_18 rfl) rfl (leW rfl) (hb hby d4_45) (fun _ _ => ⟨rfl, rfl, (by decide : 0 + 1 + 0 ≤ _), (by decide : 0 + 1 + 0 ≤ _)⟩)
  dsimp only [Pt.U, Pt.locs, Pt.cells, Pt.slots] at X5 l5 y5 z5 st5 hQ5
  subst l5 y5 z5
  obtain ⟨rfl, N5q, e5⟩ := hQ5
  have hv5 : (f22n1 b3_0 (up (fun _ => (0 : Int32)) (0 : Int32).toNatClampNeg (nar .byte ((cF (0 : Int32).toNatClampNeg).toInt8.toInt32)))) = (0 : Int32) := by unfold f22n1; decide
  rw [hv5] at st5
  have N5 := Fr.app N3 N5q
  refine Go.via st5 ?_
  obtain ⟨T6, h6, X6, e6, W6, st6⟩ := putFN X5 hx hZ hown (wq hw 29 rfl) Via.refl e5 c4_2 c4_0 (Or.inr ⟨(wq hw 25 rfl), rfl, hnm⟩) (wq hw 9 rfl) (ty := .byte) (v' := (.int (nar .byte (0 : Int32)))) (by decide) rfl (fits_nar_byte _) (g := (mkF m 48 #[sR o0, sR o1, sI 0, sI 1, .val .null, sR b3_0] [(.int 0), (.ref o0)])) rfl rfl (hb hby d4_48)
  have N6 := Fr.snoc X6 N5 ha3
  have c7_0 := c4_0.wr W6
  have c7_1 := c4_1.other W6 (Or.inr (slot_ne (Or.inr (wq hw 24 rfl)) (Or.inr (wq hw 25 rfl)) (by decide) (t := (.array .byte)) (t' := .byte) (by decide) (by decide)))
  have c7_4 := f3_0.other W6 hne_o1_o0
  have c7_5 := c4_5.wr W6
  have c7_6 := f3_1.other W6 (Ne.symm ne_o0_b3_0)
  have K6 : Keep h0 h6 [o0] := K3.wr W6 (Or.inl (by simp))
  have Z6 := Nat.le_trans Z3 (Keep.of_wr W6).1
  have Fw6 : Fld Z h6 o0 "java/lang/String" "coder" "B" (.int 0) := c4_2.same W6
  refine Go.via st6 ?_
  refine Vi (T6.setTop (mkF m 54 #[sR o0, sR o1, sI 0, sI 1, .val .null, sR b3_0] [(.ref b3_0), (.ref o0)])) (fun tZ kZ => ?_) ?_
  · refine XS.aloadN X6.here hx rfl (hb hby d4_51) rfl rfl ?_
    refine XS.aload X6.here hx rfl (hb hby d4_52) rfl rfl ?_
    exact kZ
  obtain ⟨T8, h8, X8, e8, W8, st8⟩ := putF X6 hx hZ hown (host := "") (Or.inl (wq hw 28 rfl)) Via.refl e6 c7_1 c7_0 (Or.inr ⟨(wq hw 24 rfl), rfl, hnm⟩) (wq hw 9 rfl) (ty := (.array .byte)) (by decide) rfl rfl (g := (mkF m 54 #[sR o0, sR o1, sI 0, sI 1, .val .null, sR b3_0] [(.ref b3_0), (.ref o0)])) rfl rfl (hb hby d4_54)
  have N8 := Fr.snoc X8 N6 ha3
  have c9_0 := c7_0.wr W8
  have c9_2 := Fw6.other W8 (Or.inr (slot_ne (Or.inr (wq hw 25 rfl)) (Or.inr (wq hw 24 rfl)) (by decide) (t := .byte) (t' := (.array .byte)) (by decide) (by decide)))
  have c9_4 := c7_4.other W8 hne_o1_o0
  have c9_5 := c7_5.wr W8
  have c9_6 := c7_6.other W8 (Ne.symm ne_o0_b3_0)
  have K8 : Keep h0 h8 [o0] := K6.wr W8 (Or.inl (by simp))
  have Z8 := Nat.le_trans Z6 (Keep.of_wr W8).1
  have Fw8 := c7_1.same W8
  refine Go.via st8 ?_
  refine Go.retV X8 hx Bd.notSynchronized Bd.returns (hb hby d4_57) (by decide) (by decide) ?_
  rw [e8]
  exact ⟨b3_0, rfl, N8, K8, sz_b3_0, c9_0, Fw8, c9_2, c9_4, c9_5, c9_6⟩
def Q3n1 (Z : State) (o0 : Addr) (o1 : Addr) (cF : Nat → Int32) (cs : Int32) (h0 : Heap) (n0 : Nat) (v : Option Value) (h : Heap) (L : List Loc) : Prop := ∃ b1_0 : Addr, v = none ∧ Fr n0 L ∧ Keep h0 h [o0] ∧ h0.size ≤ b1_0 ∧ Exa Z h o0 "java/lang/String" ∧ Fld Z h o0 "java/lang/String" "value" "[B" (.ref b1_0) ∧ Fld Z h o0 "java/lang/String" "coder" "B" (.int 0) ∧ AV Z h o1 .char 1 (fun k => .int (cF k)) ∧ Sta Z h "java/lang/String" "COMPACT_STRINGS" "Z" (.int cs) ∧ AV Z h b1_0 .byte 1 (fun k => .int ((up (fun _ => (0 : Int32)) (0 : Int32).toNatClampNeg (nar .byte ((cF (0 : Int32).toNatClampNeg).toInt8.toInt32))) k))
abbrev RM_3_1_1_52 : Room := { frames := 3, cells := 1, slots := 1, locals := 52 }
theorem rm3n1 (l : Launch) (Z : State) (a0 : Array Value) (hw : HW a0 Z) (ws : List Jvm.Cond) (o0 : Addr) (o1 : Addr) (cF : Nat → Int32) (cs : Int32) (h0 : Heap) (n0 : Nat) (Z0 : n0 ≤ h0.size) (ha0 : Exa Z h0 o0 "java/lang/String") (ha1 : Fld Z h0 o0 "java/lang/String" "value" "[B" .null) (ha2 : Fld Z h0 o0 "java/lang/String" "coder" "B" (.int 0)) (ha3 : n0 ≤ o0) (ha4 : AV Z h0 o1 .char 1 (fun k => .int (cF k))) (ha5 : Sta Z h0 "java/lang/String" "COMPACT_STRINGS" "Z" (.int cs)) (hne_o1_o0 : o1 ≠ o0) (hch0 : ¬ (255 : Int32) < (cF (0 : Int32).toNatClampNeg)) (hcs : ¬ cs = 0) :
    MetFree l y3 (head1 (Jvm.Cond.code y3 jdk_42_method_3_code 2 none :: ws) RM_3_1_1_52) (fun a U => a = #[(.ref o0), (.ref o1)] ∧ Z.Warmed39 U.vm ∧ U.heap = h0) (fun _ _ _ _ _ => True) (fun _ U o U' => ∃ v L, o = .returned v ∧ Q3n1 Z o0 o1 cF cs h0 n0 v U'.heap L ∧ FrameEnd U o U' L RM_3_1_1_52.cells RM_3_1_1_52.slots) := by
  refine MetFree.of_bodySF (plainFor_of_name pn_0) hisR ?_
  intro p e s m args below meth c s₁ Bd hml0 hP hK
  obtain ⟨rfl, hZ, hh⟩ := hP
  have hx := Bd.exec
  have hby := Bd.bytes
  have hml : c.maxLocals = 2 := hml0
  have hown : s.vm.findClass "java/lang/String" = some m.cls := findClass_of_methodNamed Bd.named
  have X0 : Stand p l e RM_3_1_1_52 s m _ below meth c s₁ [] 0 0 := Stand.of_body Bd
  have e0 : s₁.heap = h0 := by rw [← hh, Bd.state]; rfl
  have N0 := Fr.nil n0
  refine Go.into (P := fun oo uu => ∃ v L, oo = .returned v ∧ Q3n1 Z o0 o1 cF cs h0 n0 v uu.heap L ∧ FrameEnd s oo uu L RM_3_1_1_52.cells RM_3_1_1_52.slots) (ef_3_aa m o0 o1) ?_
  show Go p e below _ (s₁.setTop (mkF m 0 #[sR o0, sR o1] []))
  refine Vi (s₁.setTop (mkF m 6 #[sR o0, sR o1] [.null, (.int 1), (.int 0), (.ref o1), (.ref o0)])) (fun tZ kZ => ?_) ?_
  · refine XS.aloadN X0.here hx rfl (hb hby d3_0) rfl rfl ?_
    refine XS.aloadN X0.here hx rfl (hb hby d3_1) rfl rfl ?_
    refine XS.iconst X0.here hx rfl (hb hby d3_2) ?_
    refine XS.aloadN X0.here hx rfl (hb hby d3_3) rfl rfl ?_
    refine AV.len ha4 X0 hx hZ e0 (hb hby d3_4) ?_
    refine XS.aconstNull X0.here hx rfl (hb hby d3_5) ?_
    exact kZ
  obtain ⟨_, _, ⟨T1, L1, k1, n1⟩, -, X1, ⟨Lc1, hQ1, l1, y1, z1⟩, st1⟩ := X0.specialBack hx (y := y4) rfl hown (wz hZ hw 15 rfl) (wz hZ hw 16 rfl) (wz hZ hw 18 rfl) (by decide) (backOf (W := 0) (rm4n1 l Z a0 hw [] o0 o1 cF cs h0 n0 Z0 ha0 ha1 ha2 ha3 ha4 ha5 hne_o1_o0 hch0 hcs) hZ (wq hw 18 rfl) (wq hw 10 rfl) (by decide) (by decide)) (g := (mkF m 6 #[sR o0, sR o1] [.null, (.int 1), (.int 0), (.ref o1), (.ref o0)])) rfl (by rw [hml]; rfl) (Steps.refl _) (a := o0) (argsL := [(.ref o1), (.int 0), (.int 1), .null]) (rest := []) (lenOf pd_3 rfl) rfl (leW rfl) (hb hby d3_6) (fun _ _ => ⟨rfl, e0, (by decide : 0 + 1 ≤ _), (by decide : 0 + 1 ≤ _)⟩)
  dsimp only [Pt.U, Pt.locs, Pt.cells, Pt.slots] at X1 l1 y1 z1 st1 hQ1
  subst l1 y1 z1
  obtain ⟨b1_0, rfl, N1q, Kq1, hz_b1_0, f1_0, f1_1, f1_2, f1_3, f1_4, f1_5⟩ := hQ1
  have g_b1_0 : n0 ≤ b1_0 := Nat.le_trans Z0 hz_b1_0
  have sz_b1_0 : h0.size ≤ b1_0 := Nat.le_trans ((Keep.refl h0 [o0])).1 hz_b1_0
  have ne_o0_b1_0 : o0 ≠ b1_0 := Nat.ne_of_lt (Nat.lt_of_lt_of_le ha0.lt hz_b1_0)
  have ne_o1_b1_0 : o1 ≠ b1_0 := Nat.ne_of_lt (Nat.lt_of_lt_of_le ha4.lt hz_b1_0)
  have K1 : Keep h0 T1.heap [o0] := (Keep.refl h0 [o0]).trans Kq1 (allS (Or.inl (by simp)) all0)
  have Z1 := Nat.le_trans Z0 Kq1.1
  have N1 := Fr.app N0 N1q
  refine Go.via (fun t k => st1.trans k) ?_
  refine Go.retV X1 hx Bd.notSynchronized Bd.returns (hb hby d3_9) (by decide) (by decide) ?_
  exact ⟨b1_0, rfl, N1, K1, sz_b1_0, f1_0, f1_1, f1_2, f1_3, f1_4, f1_5⟩
theorem d2_15 : decode B2 15 = .ok (.iload_n 0, 1) := by decide +kernel
theorem d2_16 : decode B2 16 = .ok (.iconst 1, 1) := by decide +kernel
theorem d2_17 : decode B2 17 = .ok (.if_icmp .ne 18, 3) := by decide +kernel
theorem d2_20 : decode B2 20 = .ok (.new 32, 3) := by decide +kernel
theorem d2_23 : decode B2 23 = .ok (.dup, 1) := by decide +kernel
theorem d2_24 : decode B2 24 = .ok (.iconst 1, 1) := by decide +kernel
theorem d2_25 : decode B2 25 = .ok (.newarray .char, 2) := by decide +kernel
theorem d2_27 : decode B2 27 = .ok (.dup, 1) := by decide +kernel
theorem d2_28 : decode B2 28 = .ok (.iconst 0, 1) := by decide +kernel
theorem d2_29 : decode B2 29 = .ok (.iload_n 1, 1) := by decide +kernel
theorem d2_30 : decode B2 30 = .ok (.castore, 1) := by decide +kernel
theorem d2_31 : decode B2 31 = .ok (.invokespecial 41, 3) := by decide +kernel
theorem d2_34 : decode B2 34 = .ok (.areturn, 1) := by decide +kernel
def Q2n1 (Z : State) (p1 : Int32) (p2 : Int32) (p3 : Int32) (p4 : Int32) (cs : Int32) (h0 : Heap) (n0 : Nat) (v : Option Value) (h : Heap) (L : List Loc) : Prop := ∃ b1 : Addr, ∃ b7_0 : Addr, v = some (.ref b1) ∧ Fr n0 L ∧ Keep h0 h [] ∧ h0.size ≤ b1 ∧ h0.size ≤ b7_0 ∧ Sta Z h "java/lang/String" "COMPACT_STRINGS" "Z" (.int cs) ∧ Exa Z h b1 "java/lang/String" ∧ Fld Z h b1 "java/lang/String" "value" "[B" (.ref b7_0) ∧ Fld Z h b1 "java/lang/String" "coder" "B" (.int 0) ∧ AV Z h b7_0 .byte 1 (fun k => .int ((up (fun _ => (0 : Int32)) (0 : Int32).toNatClampNeg (nar .byte (((up (fun _ => (0 : Int32)) (0 : Int32).toNatClampNeg (nar .char p1)) (0 : Int32).toNatClampNeg).toInt8.toInt32))) k))
abbrev RM_4_3_6_66 : Room := { frames := 4, cells := 3, slots := 6, locals := 66 }
theorem rm2n1 (l : Launch) (Z : State) (a0 : Array Value) (hw : HW a0 Z) (ws : List Jvm.Cond) (p1 : Int32) (p2 : Int32) (p3 : Int32) (p4 : Int32) (cs : Int32) (h0 : Heap) (n0 : Nat) (Z0 : n0 ≤ h0.size) (ha0 : Sta Z h0 "java/lang/String" "COMPACT_STRINGS" "Z" (.int cs)) (hx0 : own_ch p1) (hcs : ¬ cs = 0) :
    MetFree l y2 (head1 (Jvm.Cond.code y2 method_4_code 5 (some (.object "java/lang/String")) :: ws) RM_4_3_6_66) (fun a U => a = #[(.int 1), (.int p1), (.int p2), (.int p3), (.int p4)] ∧ Z.Warmed39 U.vm ∧ U.heap = h0) (fun _ _ _ _ _ => True) (fun _ U o U' => ∃ v L, o = .returned v ∧ Q2n1 Z p1 p2 p3 p4 cs h0 n0 v U'.heap L ∧ FrameEnd U o U' L RM_4_3_6_66.cells RM_4_3_6_66.slots) := by
  refine MetFree.of_bodySF (plainFor_of_name pn_6) hisR ?_
  intro p e s m args below meth c s₁ Bd hml0 hP hK
  obtain ⟨rfl, hZ, hh⟩ := hP
  have hx := Bd.exec
  have hby := Bd.bytes
  have hml : c.maxLocals = 5 := hml0
  have hown : s.vm.findClass "com/example/bindery/bindery/compiler/JavaTypeOuterNamePinLaw" = some m.cls := findClass_of_methodNamed Bd.named
  have X0 : Stand p l e RM_4_3_6_66 s m _ below meth c s₁ [] 0 0 := Stand.of_body Bd
  have e0 : s₁.heap = h0 := by rw [← hh, Bd.state]; rfl
  have N0 := Fr.nil n0
  refine Go.into (P := fun oo uu => ∃ v L, oo = .returned v ∧ Q2n1 Z p1 p2 p3 p4 cs h0 n0 v uu.heap L ∧ FrameEnd s oo uu L RM_4_3_6_66.cells RM_4_3_6_66.slots) (ef_2_aaaaa m (1 : Int32) p1 p2 p3 p4) ?_
  show Go p e below _ (s₁.setTop (mkF m 0 #[sI 1, sI p1, sI p2, sI p3, sI p4] []))
  refine Vi (s₁.setTop (mkF m 20 #[sI 1, sI p1, sI p2, sI p3, sI p4] [])) (fun tZ kZ => ?_) ?_
  · refine XS.iloadN X0.here hx rfl (hb hby d2_0) rfl ?_
    refine XS.ifYes X0.here hx rfl (pc0 := 1) (pc' := 15) rfl (hb hby d2_1) rfl ((if0 _ _).trans (feq (by decide)).2) (by decide) (by decide) ?_
    refine XS.iloadN X0.here hx rfl (hb hby d2_15) rfl ?_
    refine XS.iconst X0.here hx rfl (hb hby d2_16) ?_
    refine XS.icmpNo X0.here hx rfl (hb hby d2_17) rfl (teq (by decide)).2 ?_
    exact kZ
  obtain ⟨T1, h1, X1, e1, E1, A1, D1, -, st1⟩ := newO X0 hx hZ hown (wq hw 8 rfl) (wq hw 9 rfl) (wq hw 10 rfl) e0 (g := (mkF m 20 #[sI 1, sI p1, sI p2, sI p3, sI p4] [])) rfl (hb hby d2_20) (by decide) (by decide)
  obtain ⟨b1, g1⟩ : ∃ z, z = h0.size := ⟨_, rfl⟩
  rw [← g1] at A1 D1 st1
  have g_b1 : n0 ≤ b1 := Nat.le_trans Z0 (Nat.le_of_eq g1.symm)
  have sz_b1 : h0.size ≤ b1 := Nat.le_trans ((Keep.refl h0 [])).1 (Nat.le_of_eq g1.symm)
  have c2_0 := ha0.ext E1
  have K1 : Keep h0 h1 [] := (Keep.refl h0 []).ext E1
  have Z1 := Nat.le_trans Z0 E1.1
  have F1_value : Fld Z h1 b1 "java/lang/String" "value" "[B" .null := D1 (Or.inr (wq hw 24 rfl)) (ty := (.array .byte)) (by decide)
  have F1_coder : Fld Z h1 b1 "java/lang/String" "coder" "B" (.int 0) := D1 (Or.inr (wq hw 25 rfl)) (ty := .byte) (by decide)
  refine Go.via st1 ?_
  refine Vi (T1.setTop (mkF m 25 #[sI 1, sI p1, sI p2, sI p3, sI p4] [(.int 1), (.ref b1), (.ref b1)])) (fun tZ kZ => ?_) ?_
  · refine XS.dup X1.here hx rfl (hb hby d2_23) rfl rfl ?_
    refine XS.iconst X1.here hx rfl (hb hby d2_24) ?_
    exact kZ
  obtain ⟨T3, h3, k3, X3, e3, E3, A3, B3, st3⟩ := newPE X1 hx hZ (wq hw 11 rfl) e1 (g := (mkF m 25 #[sI 1, sI p1, sI p2, sI p3, sI p4] [(.int 1), (.ref b1), (.ref b1)])) rfl (hb hby d2_25) rfl (by decide) (cap := 1) (by decide) (by decide) (by decide) (by decide) (ad := "[C") rfl
  obtain ⟨b3, g3⟩ : ∃ z, z = h1.size := ⟨_, rfl⟩
  rw [← g3] at A3 B3 st3
  have g_b3 : n0 ≤ b3 := Nat.le_trans Z1 (Nat.le_of_eq g3.symm)
  have sz_b3 : h0.size ≤ b3 := Nat.le_trans (K1).1 (Nat.le_of_eq g3.symm)
  have ne_b1_b3 : b1 ≠ b3 := Nat.ne_of_lt (Nat.lt_of_lt_of_le A1.lt (Nat.le_of_eq g3.symm))
  have c4_0 := c2_0.ext E3
  have c4_2 := A1.ext E3
  have c4_3 := F1_value.ext E3
  have c4_4 := F1_coder.ext E3
  have K3 : Keep h0 h3 [] := K1.ext E3
  have Z3 := Nat.le_trans Z1 E3.1
  have V3 : AV Z h3 b3 .char 1 (fun k => .int ((fun _ => (0 : Int32)) k)) := by have q := AV.new A3; exact q
  refine Go.via st3 ?_
  refine Vi (T3.setTop (mkF m 30 #[sI 1, sI p1, sI p2, sI p3, sI p4] [(.int p1), (.int 0), (.ref b3), (.ref b3), (.ref b1), (.ref b1)])) (fun tZ kZ => ?_) ?_
  · refine XS.dup X3.here hx rfl (hb hby d2_27) rfl rfl ?_
    refine XS.iconst X3.here hx rfl (hb hby d2_28) ?_
    refine XS.iloadN X3.here hx rfl (hb hby d2_29) rfl ?_
    exact kZ
  obtain ⟨T5, h5, X5, e5, W5, V5, st5⟩ := AV.castore V3 X3 hx hZ e3 (j := (0 : Int32)) (by decide) (Ls := #[sI 1, sI p1, sI p2, sI p3, sI p4]) (rest := [(.ref b3), (.ref b1), (.ref b1)]) (hb hby d2_30) (x := p1)
  have N5 := Fr.snoc X5 N0 g_b3
  have c6_0 := c4_0.wr W5
  have c6_2 := c4_2.wr W5
  have c6_3 := c4_3.other W5 (Or.inl ne_b1_b3)
  have c6_4 := c4_4.other W5 (Or.inl ne_b1_b3)
  have K5 : Keep h0 h5 [] := K3.wr W5 (Or.inr sz_b3)
  have Z5 := Nat.le_trans Z3 (Keep.of_wr W5).1
  refine Go.via st5 ?_
  obtain ⟨_, _, ⟨T7, L7, k7, n7⟩, -, X7, ⟨Lc7, hQ7, l7, y7, z7⟩, st7⟩ := X5.specialBack hx (y := y3) rfl hown (wz hZ hw 12 rfl) (wz hZ hw 13 rfl) (wz hZ hw 14 rfl) (by decide) (backOf (W := 1) (rm3n1 l Z a0 hw [] b1 b3 (up (fun _ => (0 : Int32)) (0 : Int32).toNatClampNeg (nar .char p1)) cs h5 n0 Z5 c6_2 c6_3 c6_4 g_b1 V5 c6_0 (Ne.symm ne_b1_b3) (own_hch hx0) hcs) hZ (wq hw 14 rfl) (wq hw 10 rfl) (by decide) (by decide)) (g := (mkF m 31 #[sI 1, sI p1, sI p2, sI p3, sI p4] [(.ref b3), (.ref b1), (.ref b1)])) rfl (by rw [hml]; rfl) (Steps.refl _) (a := b1) (argsL := [(.ref b3)]) (rest := [(.ref b1)]) (lenOf pd_2 rfl) rfl (leW rfl) (hb hby d2_31) (fun _ _ => ⟨rfl, e5, (by decide : 0 + 1 + 1 + 1 ≤ _), (by decide : 0 + 4 + 1 + 1 ≤ _)⟩)
  dsimp only [Pt.U, Pt.locs, Pt.cells, Pt.slots] at X7 l7 y7 z7 st7 hQ7
  subst l7 y7 z7
  obtain ⟨b7_0, rfl, N7q, Kq7, hz_b7_0, f7_0, f7_1, f7_2, f7_3, f7_4, f7_5⟩ := hQ7
  have g_b7_0 : n0 ≤ b7_0 := Nat.le_trans Z5 hz_b7_0
  have sz_b7_0 : h0.size ≤ b7_0 := Nat.le_trans (K5).1 hz_b7_0
  have ne_b1_b7_0 : b1 ≠ b7_0 := Nat.ne_of_lt (Nat.lt_of_lt_of_le c6_2.lt hz_b7_0)
  have ne_b3_b7_0 : b3 ≠ b7_0 := Nat.ne_of_lt (Nat.lt_of_lt_of_le V5.lt hz_b7_0)
  have K7 : Keep h0 T7.heap [] := K5.trans Kq7 (allS (Or.inr sz_b1) all0)
  have Z7 := Nat.le_trans Z5 Kq7.1
  have N7 := Fr.app N5 N7q
  refine Go.via (fun t k => st7.trans k) ?_
  refine Go.retR X7 hx Bd.notSynchronized Bd.returns rfl rfl (hb hby d2_34) (by decide) (by decide) ?_
  exact ⟨b1, b7_0, rfl, N7, K7, sz_b1, sz_b7_0, f7_4, f7_0, f7_1, f7_2, f7_5⟩
theorem d23_0 : decode B23 0 = .ok (.iload_n 1, 1) := by decide +kernel
theorem d23_1 : decode B23 1 = .ok (.i2b, 1) := by decide +kernel
theorem d23_2 : decode B23 2 = .ok (.istore 4, 2) := by decide +kernel
theorem d23_4 : decode B23 4 = .ok (.iload_n 2, 1) := by decide +kernel
theorem d23_5 : decode B23 5 = .ok (.istore 5, 2) := by decide +kernel
theorem d23_7 : decode B23 7 = .ok (.iload 5, 2) := by decide +kernel
theorem d23_9 : decode B23 9 = .ok (.iload_n 3, 1) := by decide +kernel
theorem d23_10 : decode B23 10 = .ok (.if_icmp .ge 21, 3) := by decide +kernel
theorem d23_13 : decode B23 13 = .ok (.aload_n 0, 1) := by decide +kernel
theorem d23_14 : decode B23 14 = .ok (.iload 5, 2) := by decide +kernel
theorem d23_16 : decode B23 16 = .ok (.baload, 1) := by decide +kernel
theorem d23_17 : decode B23 17 = .ok (.iload 4, 2) := by decide +kernel
theorem d23_19 : decode B23 19 = .ok (.if_icmp .ne 6, 3) := by decide +kernel
theorem d23_22 : decode B23 22 = .ok (.iload 5, 2) := by decide +kernel
theorem d23_24 : decode B23 24 = .ok (.ireturn, 1) := by decide +kernel
theorem d23_25 : decode B23 25 = .ok (.iinc 5 1, 3) := by decide +kernel
theorem d23_28 : decode B23 28 = .ok (.goto (-21), 3) := by decide +kernel
theorem d23_31 : decode B23 31 = .ok (.iconst (-1), 1) := by decide +kernel
theorem d23_32 : decode B23 32 = .ok (.ireturn, 1) := by decide +kernel
def f23n1 (o0 : Addr) (fF : Nat → Int32) : Int32 := (if (fF (0 : Int32).toNatClampNeg) = ((46 : Int32).toInt8.toInt32) then (0 : Int32) else (-1 : Int32))
def Q23n1 (o0 : Addr) (fF : Nat → Int32) (h0 : Heap) (n0 : Nat) (v : Option Value) (h : Heap) (L : List Loc) : Prop := v = some (.int (f23n1 o0 fF)) ∧ Fr n0 L ∧ h = h0
theorem ef_23_aaaa (m : MethodId) (x0 : Addr) (x1 : Int32) (x2 : Int32) (x3 : Int32) : entryFrame m #[(.ref x0), (.int x1), (.int x2), (.int x3)] 6 = mkF m 0 #[.val (.ref x0), .val (.int x1), .val (.int x2), .val (.int x3), .unset, .unset] [] := by first | (simp [entryFrame, mkF, argsToLocals, Value.category]; done) | rfl
theorem rm23n1 (l : Launch) (Z : State) (a0 : Array Value) (hw : HW a0 Z) (ws : List Jvm.Cond) (o0 : Addr) (fF : Nat → Int32) (h0 : Heap) (n0 : Nat) (Z0 : n0 ≤ h0.size) (ha0 : AV Z h0 o0 .byte 1 (fun k => .int (fF k))) :
    MetFree l y23 (head1 (Jvm.Cond.code y23 jdk_43_method_23_code 6 (some .int) :: ws) RM_0_0_0_0) (fun a U => a = #[(.ref o0), (.int 46), (.int 0), (.int 1)] ∧ Z.Warmed39 U.vm ∧ U.heap = h0) (fun _ _ _ _ _ => True) (fun _ U o U' => ∃ v L, o = .returned v ∧ Q23n1 o0 fF h0 n0 v U'.heap L ∧ FrameEnd U o U' L RM_0_0_0_0.cells RM_0_0_0_0.slots) := by
  refine MetFree.of_bodySF (plainFor_of_name pn_1) hisR ?_
  intro p e s m args below meth c s₁ Bd hml0 hP hK
  obtain ⟨rfl, hZ, hh⟩ := hP
  have hx := Bd.exec
  have hby := Bd.bytes
  have hml : c.maxLocals = 6 := hml0
  have hown : s.vm.findClass "java/lang/StringLatin1" = some m.cls := findClass_of_methodNamed Bd.named
  have X0 : Stand p l e RM_0_0_0_0 s m _ below meth c s₁ [] 0 0 := Stand.of_body Bd
  have e0 : s₁.heap = h0 := by rw [← hh, Bd.state]; rfl
  have N0 := Fr.nil n0
  refine Go.into (P := fun oo uu => ∃ v L, oo = .returned v ∧ Q23n1 o0 fF h0 n0 v uu.heap L ∧ FrameEnd s oo uu L RM_0_0_0_0.cells RM_0_0_0_0.slots) (ef_23_aaaa m o0 (46 : Int32) (0 : Int32) (1 : Int32)) ?_
  show Go p e below _ (s₁.setTop (mkF m 0 #[sR o0, sI 46, sI 0, sI 1, .unset, .unset] []))
  refine Vi (s₁.setTop (mkF m 19 #[sR o0, sI 46, sI 0, sI 1, sI ((46 : Int32).toInt8.toInt32), sI 0] [(.int ((46 : Int32).toInt8.toInt32)), (.int (fF (0 : Int32).toNatClampNeg))])) (fun tZ kZ => ?_) ?_
  · refine XS.iloadN X0.here hx rfl (hb hby d23_0) rfl ?_
    refine XS.i2b X0.here hx rfl (hb hby d23_1) rfl ?_
    refine XS.istore X0.here hx rfl (hb hby d23_2) rfl (l' := #[sR o0, sI 46, sI 0, sI 1, sI ((46 : Int32).toInt8.toInt32), .unset]) rfl ?_
    refine XS.iloadN X0.here hx rfl (hb hby d23_4) rfl ?_
    refine XS.istore X0.here hx rfl (hb hby d23_5) rfl (l' := #[sR o0, sI 46, sI 0, sI 1, sI ((46 : Int32).toInt8.toInt32), sI 0]) rfl ?_
    refine XS.iload X0.here hx rfl (hb hby d23_7) rfl ?_
    refine XS.iloadN X0.here hx rfl (hb hby d23_9) rfl ?_
    refine XS.icmpNo X0.here hx rfl (hb hby d23_10) rfl (tlt (by decide)).2.1 ?_
    refine XS.aloadN X0.here hx rfl (hb hby d23_13) rfl rfl ?_
    refine XS.iload X0.here hx rfl (hb hby d23_14) rfl ?_
    refine AV.baload ha0 X0 hx hZ e0 (j := (0 : Int32)) (by decide) (hb hby d23_16) ?_
    refine XS.iload X0.here hx rfl (hb hby d23_17) rfl ?_
    exact kZ
  by_cases hc19 : (fF (0 : Int32).toNatClampNeg) = ((46 : Int32).toInt8.toInt32)
  · refine Vi (s₁.setTop (mkF m 22 #[sR o0, sI 46, sI 0, sI 1, sI ((46 : Int32).toInt8.toInt32), sI 0] [])) (fun tZ kZ => ?_) ?_
    · show Steps p.tables e below (s₁.setTop (mkF m 19 #[sR o0, sI 46, sI 0, sI 1, sI ((46 : Int32).toInt8.toInt32), sI 0] [(.int ((46 : Int32).toInt8.toInt32)), (.int (fF (0 : Int32).toNatClampNeg))])) _
      refine XS.icmpNo X0.here hx rfl (hb hby d23_19) rfl (teq hc19).2 ?_
      exact kZ
    refine Vi (s₁.setTop (mkF m 24 #[sR o0, sI 46, sI 0, sI 1, sI ((46 : Int32).toInt8.toInt32), sI 0] [(.int 0)])) (fun tZ kZ => ?_) ?_
    · refine XS.iload X0.here hx rfl (hb hby d23_22) rfl ?_
      exact kZ
    refine Go.retI X0 hx Bd.notSynchronized Bd.returns (hb hby d23_24) (by decide) (by decide) ?_
    refine ⟨?_, N0, e0⟩
    show some ((.int 0) : Value) = some (.int (f23n1 o0 fF))
    unfold f23n1; rw [if_pos hc19] <;> rfl
  · refine Vi (s₁.setTop (mkF m 25 #[sR o0, sI 46, sI 0, sI 1, sI ((46 : Int32).toInt8.toInt32), sI 0] [])) (fun tZ kZ => ?_) ?_
    · show Steps p.tables e below (s₁.setTop (mkF m 19 #[sR o0, sI 46, sI 0, sI 1, sI ((46 : Int32).toInt8.toInt32), sI 0] [(.int ((46 : Int32).toInt8.toInt32)), (.int (fF (0 : Int32).toNatClampNeg))])) _
      refine XS.icmpYes X0.here hx rfl (pc0 := 19) (pc' := 25) rfl (hb hby d23_19) rfl (feq hc19).2 (by decide) (by decide) ?_
      exact kZ
    refine Vi (s₁.setTop (mkF m 32 #[sR o0, sI 46, sI 0, sI 1, sI ((46 : Int32).toInt8.toInt32), sI 1] [(.int (-1))])) (fun tZ kZ => ?_) ?_
    · refine XS.iinc X0.here hx rfl (hb hby d23_25) rfl (l' := #[sR o0, sI 46, sI 0, sI 1, sI ((46 : Int32).toInt8.toInt32), sI 1]) rfl ?_
      refine XS.goto X0.here hx rfl (pc0 := 28) (pc' := 7) rfl (hb hby d23_28) (by decide) (by decide) ?_
      refine XS.iload X0.here hx rfl (hb hby d23_7) rfl ?_
      refine XS.iloadN X0.here hx rfl (hb hby d23_9) rfl ?_
      refine XS.icmpYes X0.here hx rfl (pc0 := 10) (pc' := 31) rfl (hb hby d23_10) rfl (flt (by decide)).2.1 (by decide) (by decide) ?_
      refine XS.iconst X0.here hx rfl (hb hby d23_31) ?_
      exact kZ
    refine Go.retI X0 hx Bd.notSynchronized Bd.returns (hb hby d23_32) (by decide) (by decide) ?_
    refine ⟨?_, N0, e0⟩
    show some ((.int (-1)) : Value) = some (.int (f23n1 o0 fF))
    unfold f23n1; rw [if_neg hc19] <;> rfl
theorem d16_29 : decode B16 29 = .ok (.aload_n 0, 1) := by decide +kernel
theorem d16_30 : decode B16 30 = .ok (.iload_n 1, 1) := by decide +kernel
theorem d16_31 : decode B16 31 = .ok (.iload_n 2, 1) := by decide +kernel
theorem d16_32 : decode B16 32 = .ok (.iload_n 3, 1) := by decide +kernel
theorem d16_33 : decode B16 33 = .ok (.invokestatic 95, 3) := by decide +kernel
theorem d16_36 : decode B16 36 = .ok (.ireturn, 1) := by decide +kernel
def f16n1 (o0 : Addr) (fF : Nat → Int32) : Int32 := (f23n1 o0 fF)
def Q16n1 (o0 : Addr) (fF : Nat → Int32) (h0 : Heap) (n0 : Nat) (v : Option Value) (h : Heap) (L : List Loc) : Prop := v = some (.int (f16n1 o0 fF)) ∧ Fr n0 L ∧ h = h0
abbrev RM_1_0_0_17 : Room := { frames := 1, cells := 0, slots := 0, locals := 17 }
theorem rm16n1 (l : Launch) (Z : State) (a0 : Array Value) (hw : HW a0 Z) (ws : List Jvm.Cond) (o0 : Addr) (fF : Nat → Int32) (h0 : Heap) (n0 : Nat) (Z0 : n0 ≤ h0.size) (ha0 : AV Z h0 o0 .byte 1 (fun k => .int (fF k))) :
    MetFree l y16 (head1 (Jvm.Cond.code y16 jdk_43_method_22_code 4 (some .int) :: ws) RM_1_0_0_17) (fun a U => a = #[(.ref o0), (.int 46), (.int 0), (.int 1)] ∧ Z.Warmed39 U.vm ∧ U.heap = h0) (fun _ _ _ _ _ => True) (fun _ U o U' => ∃ v L, o = .returned v ∧ Q16n1 o0 fF h0 n0 v U'.heap L ∧ FrameEnd U o U' L RM_1_0_0_17.cells RM_1_0_0_17.slots) := by
  refine MetFree.of_bodySF (plainFor_of_name pn_1) hisR ?_
  intro p e s m args below meth c s₁ Bd hml0 hP hK
  obtain ⟨rfl, hZ, hh⟩ := hP
  have hx := Bd.exec
  have hby := Bd.bytes
  have hml : c.maxLocals = 4 := hml0
  have hown : s.vm.findClass "java/lang/StringLatin1" = some m.cls := findClass_of_methodNamed Bd.named
  have X0 : Stand p l e RM_1_0_0_17 s m _ below meth c s₁ [] 0 0 := Stand.of_body Bd
  have e0 : s₁.heap = h0 := by rw [← hh, Bd.state]; rfl
  have N0 := Fr.nil n0
  refine Go.into (P := fun oo uu => ∃ v L, oo = .returned v ∧ Q16n1 o0 fF h0 n0 v uu.heap L ∧ FrameEnd s oo uu L RM_1_0_0_17.cells RM_1_0_0_17.slots) (ef_16_aaaa m o0 (46 : Int32) (0 : Int32) (1 : Int32)) ?_
  show Go p e below _ (s₁.setTop (mkF m 0 #[sR o0, sI 46, sI 0, sI 1] []))
  refine Vi (s₁.setTop (mkF m 1 #[sR o0, sI 46, sI 0, sI 1] [(.int 46)])) (fun tZ kZ => ?_) ?_
  · refine XS.iloadN X0.here hx rfl (hb hby d16_0) rfl ?_
    exact kZ
  obtain ⟨_, _, ⟨T1, L1, k1, n1⟩, -, X1, ⟨Lc1, hQ1, l1, y1, z1⟩, st1⟩ := Jvm.LawKit.callS X0 hx (y := y17) hown (wz hZ hw 92 rfl) (wz hZ hw 93 rfl) (wz hZ hw 90 rfl) (wz hZ hw 94 rfl) (by decide) (backOf (W := 0) (rm17 l Z a0 hw [] (46 : Int32) h0 n0 Z0 ) hZ (wq hw 94 rfl) (wq hw 90 rfl) (by decide) (by decide)) (g := (mkF m 1 #[sR o0, sI 46, sI 0, sI 1] [(.int 46)])) rfl (by rw [hml]; rfl) (argsL := [(.int 46)]) (rest := []) (lenOf pd_15 rfl) rfl (leW rfl) (hb hby d16_1) (fun _ _ => ⟨rfl, e0, (by decide : 0 + 0 ≤ _), (by decide : 0 + 0 ≤ _)⟩)
  dsimp only [Pt.U, Pt.locs, Pt.cells, Pt.slots] at X1 l1 y1 z1 st1 hQ1
  subst l1 y1 z1
  obtain ⟨rfl, N1q, e1⟩ := hQ1
  have hv1 : (f17 (46 : Int32)) = (1 : Int32) := by unfold f17; decide
  rw [hv1] at st1
  have N1 := Fr.app N0 N1q
  refine Go.via st1 ?_
  refine Vi (T1.setTop (mkF m 11 #[sR o0, sI 46, sI 0, sI 1] [(.int 0), (.int 0)])) (fun tZ kZ => ?_) ?_
  · refine XS.ifYes X1.here hx rfl (pc0 := 4) (pc' := 9) rfl (hb hby d16_4) rfl ((if0 _ _).trans (feq (by decide)).2) (by decide) (by decide) ?_
    refine XS.iloadN X1.here hx rfl (hb hby d16_9) rfl ?_
    refine XS.iconst X1.here hx rfl (hb hby d16_10) ?_
    exact kZ
  obtain ⟨_, _, ⟨T2, L2, k2, n2⟩, -, X2, ⟨Lc2, hQ2, l2, y2, z2⟩, st2⟩ := Jvm.LawKit.callS X1 hx (y := y18) hown (wz hZ hw 95 rfl) (wz hZ hw 96 rfl) (wz hZ hw 97 rfl) (wz hZ hw 98 rfl) (by decide) (backOf (W := 0) (rm18 l Z a0 hw [] (0 : Int32) (0 : Int32) h0 n0 Z0 ) hZ (wq hw 98 rfl) (wq hw 97 rfl) (by decide) (by decide)) (g := (mkF m 11 #[sR o0, sI 46, sI 0, sI 1] [(.int 0), (.int 0)])) rfl (by rw [hml]; rfl) (argsL := [(.int 0), (.int 0)]) (rest := []) (lenOf pd_10 rfl) rfl (leW rfl) (hb hby d16_11) (fun _ _ => ⟨rfl, e1, (by decide : 0 + 0 + 0 ≤ _), (by decide : 0 + 0 + 0 ≤ _)⟩)
  dsimp only [Pt.U, Pt.locs, Pt.cells, Pt.slots] at X2 l2 y2 z2 st2 hQ2
  subst l2 y2 z2
  obtain ⟨rfl, N2q, e2⟩ := hQ2
  have hv2 : (f18 (0 : Int32) (0 : Int32)) = (0 : Int32) := by unfold f18; decide
  rw [hv2] at st2
  have N2 := Fr.app N1 N2q
  refine Go.via st2 ?_
  refine Vi (T2.setTop (mkF m 18 #[sR o0, sI 46, sI 0, sI 1] [(.int 1), (.int 1)])) (fun tZ kZ => ?_) ?_
  · refine XS.istoreN X2.here hx rfl (hb hby d16_14) rfl (l' := #[sR o0, sI 46, sI 0, sI 1]) rfl ?_
    refine XS.iloadN X2.here hx rfl (hb hby d16_15) rfl ?_
    refine XS.aloadN X2.here hx rfl (hb hby d16_16) rfl rfl ?_
    refine AV.len ha0 X2 hx hZ e2 (hb hby d16_17) ?_
    exact kZ
  obtain ⟨_, _, ⟨T3, L3, k3, n3⟩, -, X3, ⟨Lc3, hQ3, l3, y3, z3⟩, st3⟩ := Jvm.LawKit.callS X2 hx (y := y19) hown (wz hZ hw 99 rfl) (wz hZ hw 100 rfl) (wz hZ hw 97 rfl) (wz hZ hw 101 rfl) (by decide) (backOf (W := 0) (rm19 l Z a0 hw [] (1 : Int32) (1 : Int32) h0 n0 Z0 ) hZ (wq hw 101 rfl) (wq hw 97 rfl) (by decide) (by decide)) (g := (mkF m 18 #[sR o0, sI 46, sI 0, sI 1] [(.int 1), (.int 1)])) rfl (by rw [hml]; rfl) (argsL := [(.int 1), (.int 1)]) (rest := []) (lenOf pd_10 rfl) rfl (leW rfl) (hb hby d16_18) (fun _ _ => ⟨rfl, e2, (by decide : 0 + 0 + 0 + 0 ≤ _), (by decide : 0 + 0 + 0 + 0 ≤ _)⟩)
  dsimp only [Pt.U, Pt.locs, Pt.cells, Pt.slots] at X3 l3 y3 z3 st3 hQ3
  subst l3 y3 z3
  obtain ⟨rfl, N3q, e3⟩ := hQ3
  have hv3 : (f19 (1 : Int32) (1 : Int32)) = (1 : Int32) := by unfold f19; decide
  rw [hv3] at st3
  have N3 := Fr.app N2 N3q
  refine Go.via st3 ?_
  refine Vi (T3.setTop (mkF m 33 #[sR o0, sI 46, sI 0, sI 1] [(.int 1), (.int 0), (.int 46), (.ref o0)])) (fun tZ kZ => ?_) ?_
  · refine XS.istoreN X3.here hx rfl (hb hby d16_21) rfl (l' := #[sR o0, sI 46, sI 0, sI 1]) rfl ?_
    refine XS.iloadN X3.here hx rfl (hb hby d16_22) rfl ?_
    refine XS.iloadN X3.here hx rfl (hb hby d16_23) rfl ?_
    refine XS.icmpYes X3.here hx rfl (pc0 := 24) (pc' := 29) rfl (hb hby d16_24) rfl (tlt (by decide)).1 (by decide) (by decide) ?_
    refine XS.aloadN X3.here hx rfl (hb hby d16_29) rfl rfl ?_
    refine XS.iloadN X3.here hx rfl (hb hby d16_30) rfl ?_
    refine XS.iloadN X3.here hx rfl (hb hby d16_31) rfl ?_
    refine XS.iloadN X3.here hx rfl (hb hby d16_32) rfl ?_
    exact kZ
  obtain ⟨_, _, ⟨T4, L4, k4, n4⟩, -, X4, ⟨Lc4, hQ4, l4, y4, z4⟩, st4⟩ := Jvm.LawKit.callS X3 hx (y := y23) hown (wz hZ hw 113 rfl) (wz hZ hw 114 rfl) (wz hZ hw 90 rfl) (wz hZ hw 115 rfl) (by decide) (backOf (W := 0) (rm23n1 l Z a0 hw [] o0 fF h0 n0 Z0 ha0) hZ (wq hw 115 rfl) (wq hw 90 rfl) (by decide) (by decide)) (g := (mkF m 33 #[sR o0, sI 46, sI 0, sI 1] [(.int 1), (.int 0), (.int 46), (.ref o0)])) rfl (by rw [hml]; rfl) (argsL := [(.ref o0), (.int 46), (.int 0), (.int 1)]) (rest := []) (lenOf pd_14 rfl) rfl (leW rfl) (hb hby d16_33) (fun _ _ => ⟨rfl, e3, (by decide : 0 + 0 + 0 + 0 + 0 ≤ _), (by decide : 0 + 0 + 0 + 0 + 0 ≤ _)⟩)
  dsimp only [Pt.U, Pt.locs, Pt.cells, Pt.slots] at X4 l4 y4 z4 st4 hQ4
  subst l4 y4 z4
  obtain ⟨rfl, N4q, e4⟩ := hQ4
  have N4 := Fr.app N3 N4q
  refine Go.via st4 ?_
  refine Go.retI X4 hx Bd.notSynchronized Bd.returns (hb hby d16_36) (by decide) (by decide) ?_
  refine ⟨?_, N4, e4⟩
  show some ((.int (f23n1 o0 fF)) : Value) = some (.int (f16n1 o0 fF))
  rfl
def f12n1 (o0 : Addr) (b0 : Addr) (fF : Nat → Int32) (cs : Int32) : Int32 := (f16n1 b0 fF)
def Q12n1 (o0 : Addr) (b0 : Addr) (fF : Nat → Int32) (cs : Int32) (h0 : Heap) (n0 : Nat) (v : Option Value) (h : Heap) (L : List Loc) : Prop := v = some (.int (f12n1 o0 b0 fF cs)) ∧ Fr n0 L ∧ h = h0
abbrev RM_2_0_0_32 : Room := { frames := 2, cells := 0, slots := 0, locals := 32 }
theorem rm12n1 (l : Launch) (Z : State) (a0 : Array Value) (hw : HW a0 Z) (ws : List Jvm.Cond) (o0 : Addr) (b0 : Addr) (fF : Nat → Int32) (cs : Int32) (h0 : Heap) (n0 : Nat) (Z0 : n0 ≤ h0.size) (ha0 : Exa Z h0 o0 "java/lang/String") (ha1 : Fld Z h0 o0 "java/lang/String" "coder" "B" (.int 0)) (ha2 : Fld Z h0 o0 "java/lang/String" "value" "[B" (.ref b0)) (ha3 : AV Z h0 b0 .byte 1 (fun k => .int (fF k))) (ha4 : Sta Z h0 "java/lang/String" "COMPACT_STRINGS" "Z" (.int cs)) (hcs : ¬ cs = 0) :
    MetFree l y12 (head1 (Jvm.Cond.code y12 jdk_42_method_80_code 3 (some .int) :: ws) RM_2_0_0_32) (fun a U => a = #[(.ref o0), (.int 46), (.int 0)] ∧ Z.Warmed39 U.vm ∧ U.heap = h0) (fun _ _ _ _ _ => True) (fun _ U o U' => ∃ v L, o = .returned v ∧ Q12n1 o0 b0 fF cs h0 n0 v U'.heap L ∧ FrameEnd U o U' L RM_2_0_0_32.cells RM_2_0_0_32.slots) := by
  refine MetFree.of_bodySF (plainFor_of_name pn_0) hisR ?_
  intro p e s m args below meth c s₁ Bd hml0 hP hK
  obtain ⟨rfl, hZ, hh⟩ := hP
  have hx := Bd.exec
  have hby := Bd.bytes
  have hml : c.maxLocals = 3 := hml0
  have hown : s.vm.findClass "java/lang/String" = some m.cls := findClass_of_methodNamed Bd.named
  have X0 : Stand p l e RM_2_0_0_32 s m _ below meth c s₁ [] 0 0 := Stand.of_body Bd
  have e0 : s₁.heap = h0 := by rw [← hh, Bd.state]; rfl
  have N0 := Fr.nil n0
  refine Go.into (P := fun oo uu => ∃ v L, oo = .returned v ∧ Q12n1 o0 b0 fF cs h0 n0 v uu.heap L ∧ FrameEnd s oo uu L RM_2_0_0_32.cells RM_2_0_0_32.slots) (ef_12_aaa m o0 (46 : Int32) (0 : Int32)) ?_
  show Go p e below _ (s₁.setTop (mkF m 0 #[sR o0, sI 46, sI 0] []))
  refine Vi (s₁.setTop (mkF m 1 #[sR o0, sI 46, sI 0] [(.ref o0)])) (fun tZ kZ => ?_) ?_
  · refine XS.aloadN X0.here hx rfl (hb hby d12_0) rfl rfl ?_
    exact kZ
  obtain ⟨cq1, kq1, q1a, q1b, q1c⟩ := isOf hZ e0 ha0
  obtain ⟨_, _, ⟨T1, L1, k1, n1⟩, -, X1, ⟨Lc1, hQ1, l1, y1, z1⟩, st1⟩ := X0.virtualBack hx (y := y13) (z := y13) hown (wz hZ hw 72 rfl) (wz hZ hw 73 rfl) (notFace_of_selects (args := #[]) (wz hZ hw 75 rfl)) (wz hZ hw 75 rfl) (wz hZ hw 74 rfl) (by decide) (backOf (W := 0) (rm13 l Z a0 hw [] o0 cs h0 n0 Z0 ha1 ha4 hcs) hZ (wq hw 76 rfl) (wq hw 10 rfl) (by decide) (by decide)) q1a q1c (g := (mkF m 1 #[sR o0, sI 46, sI 0] [(.ref o0)])) rfl (by rw [hml]; rfl) (Steps.refl _) (argsL := []) (rest := []) (lenOf pd_11 rfl) rfl (leW rfl) (hb hby d12_1) (fun _ _ => ⟨rfl, e0, (by decide : 0 + 0 ≤ _), (by decide : 0 + 0 ≤ _)⟩)
  dsimp only [Pt.U, Pt.locs, Pt.cells, Pt.slots] at X1 l1 y1 z1 st1 hQ1
  subst l1 y1 z1
  obtain ⟨rfl, N1q, e1⟩ := hQ1
  have hv1 : (f13 o0 cs) = (1 : Int32) := by unfold f13; decide
  rw [hv1] at st1
  have N1 := Fr.app N0 N1q
  refine Go.via (fun t k => st1.trans k) ?_
  refine Vi (T1.setTop (mkF m 8 #[sR o0, sI 46, sI 0] [(.ref o0)])) (fun tZ kZ => ?_) ?_
  · refine XS.ifNo X1.here hx rfl (hb hby d12_4) rfl ((if0 _ _).trans (feq (by decide)).1) ?_
    refine XS.aloadN X1.here hx rfl (hb hby d12_7) rfl rfl ?_
    exact kZ
  obtain ⟨T2, X2, e2, st2⟩ := getF X1 hx hZ hown (host := "") (Or.inl (wq hw 28 rfl)) Via.refl e1 ha2 (g := (mkF m 8 #[sR o0, sI 46, sI 0] [(.ref o0)])) rfl rfl (hb hby d12_8)
  refine Go.via st2 ?_
  refine Vi (T2.setTop (mkF m 14 #[sR o0, sI 46, sI 0] [(.ref o0), (.int 0), (.int 46), (.ref b0)])) (fun tZ kZ => ?_) ?_
  · refine XS.iloadN X2.here hx rfl (hb hby d12_11) rfl ?_
    refine XS.iloadN X2.here hx rfl (hb hby d12_12) rfl ?_
    refine XS.aloadN X2.here hx rfl (hb hby d12_13) rfl rfl ?_
    exact kZ
  obtain ⟨cq3, kq3, q3a, q3b, q3c⟩ := isOf hZ e2 ha0
  obtain ⟨_, _, ⟨T3, L3, k3, n3⟩, -, X3, ⟨Lc3, hQ3, l3, y3, z3⟩, st3⟩ := X2.virtualBack hx (y := y14) (z := y14) hown (wz hZ hw 78 rfl) (wz hZ hw 79 rfl) (notFace_of_selects (args := #[]) (wz hZ hw 81 rfl)) (wz hZ hw 81 rfl) (wz hZ hw 80 rfl) (by decide) (backOf (W := 3) (rm14 l Z a0 hw [] o0 b0 1 fF cs h0 n0 Z0 ha0 ha1 ha2 ha3 ha4 hcs) hZ (wq hw 82 rfl) (wq hw 10 rfl) (by decide) (by decide)) q3a q3c (g := (mkF m 14 #[sR o0, sI 46, sI 0] [(.ref o0), (.int 0), (.int 46), (.ref b0)])) rfl (by rw [hml]; rfl) (Steps.refl _) (argsL := []) (rest := [(.int 0), (.int 46), (.ref b0)]) (lenOf pd_12 rfl) rfl (leW rfl) (hb hby d12_14) (fun _ _ => ⟨rfl, e2, (by decide : 0 + 0 + 0 ≤ _), (by decide : 0 + 0 + 0 ≤ _)⟩)
  dsimp only [Pt.U, Pt.locs, Pt.cells, Pt.slots] at X3 l3 y3 z3 st3 hQ3
  subst l3 y3 z3
  obtain ⟨rfl, N3q, e3⟩ := hQ3
  have hv3 : (f14 o0 b0 1 fF cs) = (Int32.ofNat 1) := by unfold f14; exact own_sh0 _
  rw [hv3] at st3
  have N3 := Fr.app N1 N3q
  refine Go.via (fun t k => st3.trans k) ?_
  obtain ⟨_, _, ⟨T4, L4, k4, n4⟩, -, X4, ⟨Lc4, hQ4, l4, y4, z4⟩, st4⟩ := Jvm.LawKit.callS X3 hx (y := y16) hown (wz hZ hw 88 rfl) (wz hZ hw 89 rfl) (wz hZ hw 90 rfl) (wz hZ hw 91 rfl) (by decide) (backOf (W := 0) (rm16n1 l Z a0 hw [] b0 fF h0 n0 Z0 ha3) hZ (wq hw 91 rfl) (wq hw 90 rfl) (by decide) (by decide)) (g := (mkF m 17 #[sR o0, sI 46, sI 0] [(.int 1), (.int 0), (.int 46), (.ref b0)])) rfl (by rw [hml]; rfl) (argsL := [(.ref b0), (.int 46), (.int 0), (.int 1)]) (rest := []) (lenOf pd_14 rfl) rfl (leW rfl) (hb hby d12_17) (fun _ _ => ⟨rfl, e3, (by decide : 0 + 0 + 0 + 0 ≤ _), (by decide : 0 + 0 + 0 + 0 ≤ _)⟩)
  dsimp only [Pt.U, Pt.locs, Pt.cells, Pt.slots] at X4 l4 y4 z4 st4 hQ4
  subst l4 y4 z4
  obtain ⟨rfl, N4q, e4⟩ := hQ4
  have N4 := Fr.app N3 N4q
  refine Go.via st4 ?_
  refine Vi (T4.setTop (mkF m 36 #[sR o0, sI 46, sI 0] [(.int (f16n1 b0 fF))])) (fun tZ kZ => ?_) ?_
  · refine XS.goto X4.here hx rfl (pc0 := 20) (pc' := 36) rfl (hb hby d12_20) (by decide) (by decide) ?_
    exact kZ
  refine Go.retI X4 hx Bd.notSynchronized Bd.returns (hb hby d12_36) (by decide) (by decide) ?_
  refine ⟨?_, N4, e4⟩
  show some ((.int (f16n1 b0 fF)) : Value) = some (.int (f12n1 o0 b0 fF cs))
  rfl
def f11n1 (o0 : Addr) (b0 : Addr) (fF : Nat → Int32) (cs : Int32) : Int32 := (f12n1 o0 b0 fF cs)
def Q11n1 (o0 : Addr) (b0 : Addr) (fF : Nat → Int32) (cs : Int32) (h0 : Heap) (n0 : Nat) (v : Option Value) (h : Heap) (L : List Loc) : Prop := v = some (.int (f11n1 o0 b0 fF cs)) ∧ Fr n0 L ∧ h = h0
abbrev RM_3_0_0_46 : Room := { frames := 3, cells := 0, slots := 0, locals := 46 }
theorem rm11n1 (l : Launch) (Z : State) (a0 : Array Value) (hw : HW a0 Z) (ws : List Jvm.Cond) (o0 : Addr) (b0 : Addr) (fF : Nat → Int32) (cs : Int32) (h0 : Heap) (n0 : Nat) (Z0 : n0 ≤ h0.size) (ha0 : Exa Z h0 o0 "java/lang/String") (ha1 : Fld Z h0 o0 "java/lang/String" "coder" "B" (.int 0)) (ha2 : Fld Z h0 o0 "java/lang/String" "value" "[B" (.ref b0)) (ha3 : AV Z h0 b0 .byte 1 (fun k => .int (fF k))) (ha4 : Sta Z h0 "java/lang/String" "COMPACT_STRINGS" "Z" (.int cs)) (hcs : ¬ cs = 0) :
    MetFree l y11 (head1 (Jvm.Cond.code y11 jdk_42_method_79_code 2 (some .int) :: ws) RM_3_0_0_46) (fun a U => a = #[(.ref o0), (.int 46)] ∧ Z.Warmed39 U.vm ∧ U.heap = h0) (fun _ _ _ _ _ => True) (fun _ U o U' => ∃ v L, o = .returned v ∧ Q11n1 o0 b0 fF cs h0 n0 v U'.heap L ∧ FrameEnd U o U' L RM_3_0_0_46.cells RM_3_0_0_46.slots) := by
  refine MetFree.of_bodySF (plainFor_of_name pn_0) hisR ?_
  intro p e s m args below meth c s₁ Bd hml0 hP hK
  obtain ⟨rfl, hZ, hh⟩ := hP
  have hx := Bd.exec
  have hby := Bd.bytes
  have hml : c.maxLocals = 2 := hml0
  have hown : s.vm.findClass "java/lang/String" = some m.cls := findClass_of_methodNamed Bd.named
  have X0 : Stand p l e RM_3_0_0_46 s m _ below meth c s₁ [] 0 0 := Stand.of_body Bd
  have e0 : s₁.heap = h0 := by rw [← hh, Bd.state]; rfl
  have N0 := Fr.nil n0
  refine Go.into (P := fun oo uu => ∃ v L, oo = .returned v ∧ Q11n1 o0 b0 fF cs h0 n0 v uu.heap L ∧ FrameEnd s oo uu L RM_3_0_0_46.cells RM_3_0_0_46.slots) (ef_11_aa m o0 (46 : Int32)) ?_
  show Go p e below _ (s₁.setTop (mkF m 0 #[sR o0, sI 46] []))
  refine Vi (s₁.setTop (mkF m 3 #[sR o0, sI 46] [(.int 0), (.int 46), (.ref o0)])) (fun tZ kZ => ?_) ?_
  · refine XS.aloadN X0.here hx rfl (hb hby d11_0) rfl rfl ?_
    refine XS.iloadN X0.here hx rfl (hb hby d11_1) rfl ?_
    refine XS.iconst X0.here hx rfl (hb hby d11_2) ?_
    exact kZ
  obtain ⟨cq1, kq1, q1a, q1b, q1c⟩ := isOf hZ e0 ha0
  obtain ⟨_, _, ⟨T1, L1, k1, n1⟩, -, X1, ⟨Lc1, hQ1, l1, y1, z1⟩, st1⟩ := X0.virtualBack hx (y := y12) (z := y12) hown (wz hZ hw 67 rfl) (wz hZ hw 68 rfl) (notFace_of_selects (args := #[]) (wz hZ hw 70 rfl)) (wz hZ hw 70 rfl) (wz hZ hw 69 rfl) (by decide) (backOf (W := 0) (rm12n1 l Z a0 hw [] o0 b0 fF cs h0 n0 Z0 ha0 ha1 ha2 ha3 ha4 hcs) hZ (wq hw 71 rfl) (wq hw 10 rfl) (by decide) (by decide)) q1a q1c (g := (mkF m 3 #[sR o0, sI 46] [(.int 0), (.int 46), (.ref o0)])) rfl (by rw [hml]; rfl) (Steps.refl _) (argsL := [(.int 46), (.int 0)]) (rest := []) (lenOf pd_10 rfl) rfl (leW rfl) (hb hby d11_3) (fun _ _ => ⟨rfl, e0, (by decide : 0 + 0 ≤ _), (by decide : 0 + 0 ≤ _)⟩)
  dsimp only [Pt.U, Pt.locs, Pt.cells, Pt.slots] at X1 l1 y1 z1 st1 hQ1
  subst l1 y1 z1
  obtain ⟨rfl, N1q, e1⟩ := hQ1
  have N1 := Fr.app N0 N1q
  refine Go.via (fun t k => st1.trans k) ?_
  refine Go.retI X1 hx Bd.notSynchronized Bd.returns (hb hby d11_6) (by decide) (by decide) ?_
  refine ⟨?_, N1, e1⟩
  show some ((.int (f12n1 o0 b0 fF cs)) : Value) = some (.int (f11n1 o0 b0 fF cs))
  rfl
theorem own_l1_0 (sn b0 : Addr) (fF : Nat → Int32) (cs : Int32) (h0 : ¬ fF (0 : Int32).toNatClampNeg = ((46 : Int32).toInt8.toInt32)) : (f11n1 sn b0 fF cs) = (-1 : Int32) := by unfold f11n1 f12n1 f16n1; unfold f23n1; rw [if_neg h0]; try rfl
theorem own_l1_1 (sn b0 : Addr) (fF : Nat → Int32) (cs : Int32) (h0 : fF (0 : Int32).toNatClampNeg = ((46 : Int32).toInt8.toInt32)) : (f11n1 sn b0 fF cs) = (Int32.ofNat 0) := by unfold f11n1 f12n1 f16n1; unfold f23n1; rw [if_pos h0]; try rfl
def Q21n2 (Z : State) (o0 : Addr) (o2 : Addr) (cF : Nat → Int32) (bF : Nat → Int32) (h0 : Heap) (n0 : Nat) (v : Option Value) (h : Heap) (L : List Loc) : Prop := v = some (.int 2) ∧ Fr n0 L ∧ Keep h0 h [o2] ∧ AV Z h o0 .char 2 (fun k => .int (cF k)) ∧ AV Z h o2 .byte 2 (fun k => .int ((up (up bF (0 : Int32).toNatClampNeg (nar .byte ((cF (0 : Int32).toNatClampNeg).toInt8.toInt32))) (1 : Int32).toNatClampNeg (nar .byte ((cF (1 : Int32).toNatClampNeg).toInt8.toInt32))) k))
theorem rm21n2 (l : Launch) (Z : State) (a0 : Array Value) (hw : HW a0 Z) (ws : List Jvm.Cond) (o0 : Addr) (o2 : Addr) (cF : Nat → Int32) (bF : Nat → Int32) (h0 : Heap) (n0 : Nat) (Z0 : n0 ≤ h0.size) (ha0 : AV Z h0 o0 .char 2 (fun k => .int (cF k))) (ha1 : AV Z h0 o2 .byte 2 (fun k => .int (bF k))) (ha2 : n0 ≤ o2) (hne_o0_o2 : o0 ≠ o2) (hch0 : ¬ (255 : Int32) < (cF (0 : Int32).toNatClampNeg)) (hch1 : ¬ (255 : Int32) < (cF (1 : Int32).toNatClampNeg)) :
    MetFree l y21 (head1 (Jvm.Cond.code y21 jdk_52_method_21_code 7 (some .int) :: ws) RM_0_0_0_0) (fun a U => a = #[(.ref o0), (.int 0), (.ref o2), (.int 0), (.int 2)] ∧ Z.Warmed39 U.vm ∧ U.heap = h0) (fun _ _ _ _ _ => True) (fun _ U o U' => ∃ v L, o = .returned v ∧ Q21n2 Z o0 o2 cF bF h0 n0 v U'.heap L ∧ FrameEnd U o U' L RM_0_0_0_0.cells RM_0_0_0_0.slots) := by
  refine MetFree.of_bodySF (plainFor_of_name pn_7) hisR ?_
  intro p e s m args below meth c s₁ Bd hml0 hP hK
  obtain ⟨rfl, hZ, hh⟩ := hP
  have hx := Bd.exec
  have hby := Bd.bytes
  have hml : c.maxLocals = 7 := hml0
  have hown : s.vm.findClass "java/lang/StringUTF16" = some m.cls := findClass_of_methodNamed Bd.named
  have X0 : Stand p l e RM_0_0_0_0 s m _ below meth c s₁ [] 0 0 := Stand.of_body Bd
  have e0 : s₁.heap = h0 := by rw [← hh, Bd.state]; rfl
  have N0 := Fr.nil n0
  refine Go.into (P := fun oo uu => ∃ v L, oo = .returned v ∧ Q21n2 Z o0 o2 cF bF h0 n0 v uu.heap L ∧ FrameEnd s oo uu L RM_0_0_0_0.cells RM_0_0_0_0.slots) (ef_21_aaaaa m o0 (0 : Int32) o2 (0 : Int32) (2 : Int32)) ?_
  show Go p e below _ (s₁.setTop (mkF m 0 #[sR o0, sI 0, sR o2, sI 0, sI 2, .unset, .unset] []))
  refine Vi (s₁.setTop (mkF m 31 #[sR o0, sI 0, sR o2, sI 0, sI 2, sI 0, sI (cF (0 : Int32).toNatClampNeg)] [(.int ((cF (0 : Int32).toNatClampNeg).toInt8.toInt32)), (.int 0), (.ref o2)])) (fun tZ kZ => ?_) ?_
  · refine XS.iconst X0.here hx rfl (hb hby d21_0) ?_
    refine XS.istore X0.here hx rfl (hb hby d21_1) rfl (l' := #[sR o0, sI 0, sR o2, sI 0, sI 2, sI 0, .unset]) rfl ?_
    refine XS.iload X0.here hx rfl (hb hby d21_3) rfl ?_
    refine XS.iload X0.here hx rfl (hb hby d21_5) rfl ?_
    refine XS.icmpNo X0.here hx rfl (hb hby d21_7) rfl (tlt (by decide)).2.1 ?_
    refine XS.aloadN X0.here hx rfl (hb hby d21_10) rfl rfl ?_
    refine XS.iloadN X0.here hx rfl (hb hby d21_11) rfl ?_
    refine AV.caload ha0 X0 hx hZ e0 (j := (0 : Int32)) (by decide) (hb hby d21_12) ?_
    refine XS.istore X0.here hx rfl (hb hby d21_13) rfl (l' := #[sR o0, sI 0, sR o2, sI 0, sI 2, sI 0, sI (cF (0 : Int32).toNatClampNeg)]) rfl ?_
    refine XS.iload X0.here hx rfl (hb hby d21_15) rfl ?_
    refine XS.sipush X0.here hx rfl (hb hby d21_17) ?_
    refine XS.icmpYes X0.here hx rfl (pc0 := 20) (pc' := 26) rfl (hb hby d21_20) rfl (flt hch0).2.2.2 (by decide) (by decide) ?_
    refine XS.aloadN X0.here hx rfl (hb hby d21_26) rfl rfl ?_
    refine XS.iloadN X0.here hx rfl (hb hby d21_27) rfl ?_
    refine XS.iload X0.here hx rfl (hb hby d21_28) rfl ?_
    refine XS.i2b X0.here hx rfl (hb hby d21_30) rfl ?_
    exact kZ
  obtain ⟨T1, h1, X1, e1, W1, V1, st1⟩ := AV.bastoreB ha1 X0 hx hZ e0 (j := (0 : Int32)) (by decide) (Ls := #[sR o0, sI 0, sR o2, sI 0, sI 2, sI 0, sI (cF (0 : Int32).toNatClampNeg)]) (rest := []) (hb hby d21_31) (x := ((cF (0 : Int32).toNatClampNeg).toInt8.toInt32))
  have N1 := Fr.snoc X1 N0 ha2
  have c2_0 := ha0.other W1 hne_o0_o2
  have K1 : Keep h0 h1 [o2] := (Keep.refl h0 [o2]).wr W1 (Or.inl (by simp))
  have Z1 := Nat.le_trans Z0 (Keep.of_wr W1).1
  refine Go.via st1 ?_
  refine Vi (T1.setTop (mkF m 31 #[sR o0, sI 1, sR o2, sI 1, sI 2, sI 1, sI (cF (1 : Int32).toNatClampNeg)] [(.int ((cF (1 : Int32).toNatClampNeg).toInt8.toInt32)), (.int 1), (.ref o2)])) (fun tZ kZ => ?_) ?_
  · refine XS.iinc X1.here hx rfl (hb hby d21_32) rfl (l' := #[sR o0, sI 1, sR o2, sI 0, sI 2, sI 0, sI (cF (0 : Int32).toNatClampNeg)]) rfl ?_
    refine XS.iinc X1.here hx rfl (hb hby d21_35) rfl (l' := #[sR o0, sI 1, sR o2, sI 1, sI 2, sI 0, sI (cF (0 : Int32).toNatClampNeg)]) rfl ?_
    refine XS.iinc X1.here hx rfl (hb hby d21_38) rfl (l' := #[sR o0, sI 1, sR o2, sI 1, sI 2, sI 1, sI (cF (0 : Int32).toNatClampNeg)]) rfl ?_
    refine XS.goto X1.here hx rfl (pc0 := 41) (pc' := 3) rfl (hb hby d21_41) (by decide) (by decide) ?_
    refine XS.iload X1.here hx rfl (hb hby d21_3) rfl ?_
    refine XS.iload X1.here hx rfl (hb hby d21_5) rfl ?_
    refine XS.icmpNo X1.here hx rfl (hb hby d21_7) rfl (tlt (by decide)).2.1 ?_
    refine XS.aloadN X1.here hx rfl (hb hby d21_10) rfl rfl ?_
    refine XS.iloadN X1.here hx rfl (hb hby d21_11) rfl ?_
    refine AV.caload c2_0 X1 hx hZ e1 (j := (1 : Int32)) (by decide) (hb hby d21_12) ?_
    refine XS.istore X1.here hx rfl (hb hby d21_13) rfl (l' := #[sR o0, sI 1, sR o2, sI 1, sI 2, sI 1, sI (cF (1 : Int32).toNatClampNeg)]) rfl ?_
    refine XS.iload X1.here hx rfl (hb hby d21_15) rfl ?_
    refine XS.sipush X1.here hx rfl (hb hby d21_17) ?_
    refine XS.icmpYes X1.here hx rfl (pc0 := 20) (pc' := 26) rfl (hb hby d21_20) rfl (flt hch1).2.2.2 (by decide) (by decide) ?_
    refine XS.aloadN X1.here hx rfl (hb hby d21_26) rfl rfl ?_
    refine XS.iloadN X1.here hx rfl (hb hby d21_27) rfl ?_
    refine XS.iload X1.here hx rfl (hb hby d21_28) rfl ?_
    refine XS.i2b X1.here hx rfl (hb hby d21_30) rfl ?_
    exact kZ
  obtain ⟨T3, h3, X3, e3, W3, V3, st3⟩ := AV.bastoreB V1 X1 hx hZ e1 (j := (1 : Int32)) (by decide) (Ls := #[sR o0, sI 1, sR o2, sI 1, sI 2, sI 1, sI (cF (1 : Int32).toNatClampNeg)]) (rest := []) (hb hby d21_31) (x := ((cF (1 : Int32).toNatClampNeg).toInt8.toInt32))
  have N3 := Fr.snoc X3 N1 ha2
  have c4_0 := c2_0.other W3 hne_o0_o2
  have K3 : Keep h0 h3 [o2] := K1.wr W3 (Or.inl (by simp))
  have Z3 := Nat.le_trans Z1 (Keep.of_wr W3).1
  refine Go.via st3 ?_
  refine Vi (T3.setTop (mkF m 46 #[sR o0, sI 2, sR o2, sI 2, sI 2, sI 2, sI (cF (1 : Int32).toNatClampNeg)] [(.int 2)])) (fun tZ kZ => ?_) ?_
  · refine XS.iinc X3.here hx rfl (hb hby d21_32) rfl (l' := #[sR o0, sI 2, sR o2, sI 1, sI 2, sI 1, sI (cF (1 : Int32).toNatClampNeg)]) rfl ?_
    refine XS.iinc X3.here hx rfl (hb hby d21_35) rfl (l' := #[sR o0, sI 2, sR o2, sI 2, sI 2, sI 1, sI (cF (1 : Int32).toNatClampNeg)]) rfl ?_
    refine XS.iinc X3.here hx rfl (hb hby d21_38) rfl (l' := #[sR o0, sI 2, sR o2, sI 2, sI 2, sI 2, sI (cF (1 : Int32).toNatClampNeg)]) rfl ?_
    refine XS.goto X3.here hx rfl (pc0 := 41) (pc' := 3) rfl (hb hby d21_41) (by decide) (by decide) ?_
    refine XS.iload X3.here hx rfl (hb hby d21_3) rfl ?_
    refine XS.iload X3.here hx rfl (hb hby d21_5) rfl ?_
    refine XS.icmpYes X3.here hx rfl (pc0 := 7) (pc' := 44) rfl (hb hby d21_7) rfl (flt (by decide)).2.1 (by decide) (by decide) ?_
    refine XS.iload X3.here hx rfl (hb hby d21_44) rfl ?_
    exact kZ
  refine Go.retI X3 hx Bd.notSynchronized Bd.returns (hb hby d21_46) (by decide) (by decide) ?_
  rw [e3]
  exact ⟨rfl, N3, K3, c4_0, V3⟩
def Q20n2 (Z : State) (o0 : Addr) (cF : Nat → Int32) (h0 : Heap) (n0 : Nat) (v : Option Value) (h : Heap) (L : List Loc) : Prop := ∃ b1 : Addr, v = some (.ref b1) ∧ Fr n0 L ∧ Keep h0 h [] ∧ h0.size ≤ b1 ∧ AV Z h o0 .char 2 (fun k => .int (cF k)) ∧ AV Z h b1 .byte 2 (fun k => .int ((up (up (fun _ => (0 : Int32)) (0 : Int32).toNatClampNeg (nar .byte ((cF (0 : Int32).toNatClampNeg).toInt8.toInt32))) (1 : Int32).toNatClampNeg (nar .byte ((cF (1 : Int32).toNatClampNeg).toInt8.toInt32))) k))
abbrev RM_1_1_2_18 : Room := { frames := 1, cells := 1, slots := 2, locals := 18 }
theorem rm20n2 (l : Launch) (Z : State) (a0 : Array Value) (hw : HW a0 Z) (ws : List Jvm.Cond) (o0 : Addr) (cF : Nat → Int32) (h0 : Heap) (n0 : Nat) (Z0 : n0 ≤ h0.size) (ha0 : AV Z h0 o0 .char 2 (fun k => .int (cF k))) (hch0 : ¬ (255 : Int32) < (cF (0 : Int32).toNatClampNeg)) (hch1 : ¬ (255 : Int32) < (cF (1 : Int32).toNatClampNeg)) :
    MetFree l y20 (head1 (Jvm.Cond.code y20 jdk_52_method_16_code 6 (some (.array .byte)) :: ws) RM_1_1_2_18) (fun a U => a = #[(.ref o0), (.int 0), (.int 2)] ∧ Z.Warmed39 U.vm ∧ U.heap = h0) (fun _ _ _ _ _ => True) (fun _ U o U' => ∃ v L, o = .returned v ∧ Q20n2 Z o0 cF h0 n0 v U'.heap L ∧ FrameEnd U o U' L RM_1_1_2_18.cells RM_1_1_2_18.slots) := by
  refine MetFree.of_bodySF (plainFor_of_name pn_7) hisR ?_
  intro p e s m args below meth c s₁ Bd hml0 hP hK
  obtain ⟨rfl, hZ, hh⟩ := hP
  have hx := Bd.exec
  have hby := Bd.bytes
  have hml : c.maxLocals = 6 := hml0
  have hown : s.vm.findClass "java/lang/StringUTF16" = some m.cls := findClass_of_methodNamed Bd.named
  have X0 : Stand p l e RM_1_1_2_18 s m _ below meth c s₁ [] 0 0 := Stand.of_body Bd
  have e0 : s₁.heap = h0 := by rw [← hh, Bd.state]; rfl
  have N0 := Fr.nil n0
  refine Go.into (P := fun oo uu => ∃ v L, oo = .returned v ∧ Q20n2 Z o0 cF h0 n0 v uu.heap L ∧ FrameEnd s oo uu L RM_1_1_2_18.cells RM_1_1_2_18.slots) (ef_20_aaa m o0 (0 : Int32) (2 : Int32)) ?_
  show Go p e below _ (s₁.setTop (mkF m 0 #[sR o0, sI 0, sI 2, .unset, .unset, .unset] []))
  refine Vi (s₁.setTop (mkF m 1 #[sR o0, sI 0, sI 2, .unset, .unset, .unset] [(.int 2)])) (fun tZ kZ => ?_) ?_
  · refine XS.iloadN X0.here hx rfl (hb hby d20_0) rfl ?_
    exact kZ
  obtain ⟨T1, h1, k1, X1, e1, E1, A1, B1, st1⟩ := newPE X0 hx hZ (wq hw 23 rfl) e0 (g := (mkF m 1 #[sR o0, sI 0, sI 2, .unset, .unset, .unset] [(.int 2)])) rfl (hb hby d20_1) rfl (by decide) (cap := 2) (by decide) (by decide) (by decide) (by decide) (ad := "[B") rfl
  obtain ⟨b1, g1⟩ : ∃ z, z = h0.size := ⟨_, rfl⟩
  rw [← g1] at A1 B1 st1
  have g_b1 : n0 ≤ b1 := Nat.le_trans Z0 (Nat.le_of_eq g1.symm)
  have sz_b1 : h0.size ≤ b1 := Nat.le_trans ((Keep.refl h0 [])).1 (Nat.le_of_eq g1.symm)
  have ne_o0_b1 : o0 ≠ b1 := Nat.ne_of_lt (Nat.lt_of_lt_of_le ha0.lt (Nat.le_of_eq g1.symm))
  have c2_0 := ha0.ext E1
  have K1 : Keep h0 h1 [] := (Keep.refl h0 []).ext E1
  have Z1 := Nat.le_trans Z0 E1.1
  have V1 : AV Z h1 b1 .byte 2 (fun k => .int ((fun _ => (0 : Int32)) k)) := by have q := AV.new A1; exact q
  refine Go.via st1 ?_
  refine Vi (T1.setTop (mkF m 9 #[sR o0, sI 0, sI 2, sR b1, .unset, .unset] [(.int 2), (.int 0), (.ref b1), (.int 0), (.ref o0)])) (fun tZ kZ => ?_) ?_
  · refine XS.astoreN X1.here hx rfl (hb hby d20_3) rfl rfl (l' := #[sR o0, sI 0, sI 2, sR b1, .unset, .unset]) rfl ?_
    refine XS.aloadN X1.here hx rfl (hb hby d20_4) rfl rfl ?_
    refine XS.iloadN X1.here hx rfl (hb hby d20_5) rfl ?_
    refine XS.aloadN X1.here hx rfl (hb hby d20_6) rfl rfl ?_
    refine XS.iconst X1.here hx rfl (hb hby d20_7) ?_
    refine XS.iloadN X1.here hx rfl (hb hby d20_8) rfl ?_
    exact kZ
  obtain ⟨_, _, ⟨T3, L3, k3, n3⟩, -, X3, ⟨Lc3, hQ3, l3, y3, z3⟩, st3⟩ := Jvm.LawKit.callS X1 hx (y := y21) hown (wz hZ hw 107 rfl) (wz hZ hw 108 rfl) (wz hZ hw 105 rfl) (wz hZ hw 109 rfl) (by decide) (backOf (W := 0) (rm21n2 l Z a0 hw [] o0 b1 cF (fun _ => (0 : Int32)) h1 n0 Z1 c2_0 V1 g_b1 ne_o0_b1 hch0 hch1) hZ (wq hw 109 rfl) (wq hw 105 rfl) (by decide) (by decide)) (g := (mkF m 9 #[sR o0, sI 0, sI 2, sR b1, .unset, .unset] [(.int 2), (.int 0), (.ref b1), (.int 0), (.ref o0)])) rfl (by rw [hml]; rfl) (argsL := [(.ref o0), (.int 0), (.ref b1), (.int 0), (.int 2)]) (rest := []) (lenOf pd_17 rfl) rfl (leW rfl) (hb hby d20_9) (fun _ _ => ⟨rfl, e1, (by decide : 0 + 1 + 0 ≤ _), (by decide : 0 + 2 + 0 ≤ _)⟩)
  dsimp only [Pt.U, Pt.locs, Pt.cells, Pt.slots] at X3 l3 y3 z3 st3 hQ3
  subst l3 y3 z3
  obtain ⟨rfl, N3q, Kq3, f3_0, f3_1⟩ := hQ3
  have K3 : Keep h0 T3.heap [] := K1.trans Kq3 (allS (Or.inr sz_b1) all0)
  have Z3 := Nat.le_trans Z1 Kq3.1
  have N3 := Fr.app N0 N3q
  refine Go.via st3 ?_
  refine Vi (T3.setTop (mkF m 58 #[sR o0, sI 0, sI 2, sR b1, sI 2, .unset] [(.ref b1)])) (fun tZ kZ => ?_) ?_
  · refine XS.istore X3.here hx rfl (hb hby d20_12) rfl (l' := #[sR o0, sI 0, sI 2, sR b1, sI 2, .unset]) rfl ?_
    refine XS.iload X3.here hx rfl (hb hby d20_14) rfl ?_
    refine XS.iloadN X3.here hx rfl (hb hby d20_16) rfl ?_
    refine XS.icmpYes X3.here hx rfl (pc0 := 17) (pc' := 57) rfl (hb hby d20_17) rfl (teq (by decide)).1 (by decide) (by decide) ?_
    refine XS.aloadN X3.here hx rfl (hb hby d20_57) rfl rfl ?_
    exact kZ
  refine Go.retR X3 hx Bd.notSynchronized Bd.returns rfl rfl (hb hby d20_58) (by decide) (by decide) ?_
  exact ⟨b1, rfl, N3, K3, sz_b1, f3_0, f3_1⟩
def f22n2 (o0 : Addr) (bF : Nat → Int32) : Int32 := (nar .byte ((((0 : Int32).toUInt32 >>> ((31 : Int32) &&& 31).toUInt32).toInt32).toInt8.toInt32))
def Q22n2 (o0 : Addr) (bF : Nat → Int32) (h0 : Heap) (n0 : Nat) (v : Option Value) (h : Heap) (L : List Loc) : Prop := v = some (.int (f22n2 o0 bF)) ∧ Fr n0 L ∧ h = h0
theorem rm22n2 (l : Launch) (Z : State) (a0 : Array Value) (hw : HW a0 Z) (ws : List Jvm.Cond) (o0 : Addr) (bF : Nat → Int32) (h0 : Heap) (n0 : Nat) (Z0 : n0 ≤ h0.size) (ha0 : AV Z h0 o0 .byte 2 (fun k => .int (bF k))) :
    MetFree l y22 (head1 (Jvm.Cond.code y22 jdk_52_method_15_code 2 (some .byte) :: ws) RM_0_0_0_0) (fun a U => a = #[(.ref o0), (.int 2)] ∧ Z.Warmed39 U.vm ∧ U.heap = h0) (fun _ _ _ _ _ => True) (fun _ U o U' => ∃ v L, o = .returned v ∧ Q22n2 o0 bF h0 n0 v U'.heap L ∧ FrameEnd U o U' L RM_0_0_0_0.cells RM_0_0_0_0.slots) := by
  refine MetFree.of_bodySF (plainFor_of_name pn_7) hisR ?_
  intro p e s m args below meth c s₁ Bd hml0 hP hK
  obtain ⟨rfl, hZ, hh⟩ := hP
  have hx := Bd.exec
  have hby := Bd.bytes
  have hml : c.maxLocals = 2 := hml0
  have hown : s.vm.findClass "java/lang/StringUTF16" = some m.cls := findClass_of_methodNamed Bd.named
  have X0 : Stand p l e RM_0_0_0_0 s m _ below meth c s₁ [] 0 0 := Stand.of_body Bd
  have e0 : s₁.heap = h0 := by rw [← hh, Bd.state]; rfl
  have N0 := Fr.nil n0
  refine Go.into (P := fun oo uu => ∃ v L, oo = .returned v ∧ Q22n2 o0 bF h0 n0 v uu.heap L ∧ FrameEnd s oo uu L RM_0_0_0_0.cells RM_0_0_0_0.slots) (ef_22_aa m o0 (2 : Int32)) ?_
  show Go p e below _ (s₁.setTop (mkF m 0 #[sR o0, sI 2] []))
  refine Vi (s₁.setTop (mkF m 8 #[sR o0, sI 2] [(.int ((((0 : Int32).toUInt32 >>> ((31 : Int32) &&& 31).toUInt32).toInt32).toInt8.toInt32))])) (fun tZ kZ => ?_) ?_
  · refine XS.iloadN X0.here hx rfl (hb hby d22_0) rfl ?_
    refine XS.aloadN X0.here hx rfl (hb hby d22_1) rfl rfl ?_
    refine AV.len ha0 X0 hx hZ e0 (hb hby d22_2) ?_
    refine XS.isub X0.here hx rfl (hb hby d22_3) rfl ?_
    refine XS.bipush X0.here hx rfl (hb hby d22_4) ?_
    refine XS.iushr X0.here hx rfl (hb hby d22_6) rfl ?_
    refine XS.i2b X0.here hx rfl (hb hby d22_7) rfl ?_
    exact kZ
  refine Go.retN X0 hx Bd.notSynchronized (t := .byte) Bd.returns (by simp) (hb hby d22_8) (by decide) (by decide) ?_
  refine ⟨?_, N0, e0⟩
  show some ((Value.int (nar .byte ((((0 : Int32).toUInt32 >>> ((31 : Int32) &&& 31).toUInt32).toInt32).toInt8.toInt32))) : Value) = some (.int (f22n2 o0 bF))
  rfl
def Q4n2 (Z : State) (o0 : Addr) (o1 : Addr) (cF : Nat → Int32) (cs : Int32) (h0 : Heap) (n0 : Nat) (v : Option Value) (h : Heap) (L : List Loc) : Prop := ∃ b3_0 : Addr, v = none ∧ Fr n0 L ∧ Keep h0 h [o0] ∧ h0.size ≤ b3_0 ∧ Exa Z h o0 "java/lang/String" ∧ Fld Z h o0 "java/lang/String" "value" "[B" (.ref b3_0) ∧ Fld Z h o0 "java/lang/String" "coder" "B" (.int 0) ∧ AV Z h o1 .char 2 (fun k => .int (cF k)) ∧ Sta Z h "java/lang/String" "COMPACT_STRINGS" "Z" (.int cs) ∧ AV Z h b3_0 .byte 2 (fun k => .int ((up (up (fun _ => (0 : Int32)) (0 : Int32).toNatClampNeg (nar .byte ((cF (0 : Int32).toNatClampNeg).toInt8.toInt32))) (1 : Int32).toNatClampNeg (nar .byte ((cF (1 : Int32).toNatClampNeg).toInt8.toInt32))) k))
abbrev RM_2_1_2_35 : Room := { frames := 2, cells := 1, slots := 2, locals := 35 }
theorem rm4n2 (l : Launch) (Z : State) (a0 : Array Value) (hw : HW a0 Z) (ws : List Jvm.Cond) (o0 : Addr) (o1 : Addr) (cF : Nat → Int32) (cs : Int32) (h0 : Heap) (n0 : Nat) (Z0 : n0 ≤ h0.size) (ha0 : Exa Z h0 o0 "java/lang/String") (ha1 : Fld Z h0 o0 "java/lang/String" "value" "[B" .null) (ha2 : Fld Z h0 o0 "java/lang/String" "coder" "B" (.int 0)) (ha3 : n0 ≤ o0) (ha4 : AV Z h0 o1 .char 2 (fun k => .int (cF k))) (ha5 : Sta Z h0 "java/lang/String" "COMPACT_STRINGS" "Z" (.int cs)) (hne_o1_o0 : o1 ≠ o0) (hch0 : ¬ (255 : Int32) < (cF (0 : Int32).toNatClampNeg)) (hch1 : ¬ (255 : Int32) < (cF (1 : Int32).toNatClampNeg)) (hcs : ¬ cs = 0) :
    MetFree l y4 (head1 (Jvm.Cond.code y4 jdk_42_method_149_code 6 none :: ws) RM_2_1_2_35) (fun a U => a = #[(.ref o0), (.ref o1), (.int 0), (.int 2), .null] ∧ Z.Warmed39 U.vm ∧ U.heap = h0) (fun _ _ _ _ _ => True) (fun _ U o U' => ∃ v L, o = .returned v ∧ Q4n2 Z o0 o1 cF cs h0 n0 v U'.heap L ∧ FrameEnd U o U' L RM_2_1_2_35.cells RM_2_1_2_35.slots) := by
  refine MetFree.of_bodySF (plainFor_of_name pn_0) hisR ?_
  intro p e s m args below meth c s₁ Bd hml0 hP hK
  obtain ⟨rfl, hZ, hh⟩ := hP
  have hx := Bd.exec
  have hby := Bd.bytes
  have hml : c.maxLocals = 6 := hml0
  have hown : s.vm.findClass "java/lang/String" = some m.cls := findClass_of_methodNamed Bd.named
  have hnm := (name_of_methodNamed Bd.named Bd.method).1
  have X0 : Stand p l e RM_2_1_2_35 s m _ below meth c s₁ [] 0 0 := Stand.of_body Bd
  have e0 : s₁.heap = h0 := by rw [← hh, Bd.state]; rfl
  have N0 := Fr.nil n0
  refine Go.into (P := fun oo uu => ∃ v L, oo = .returned v ∧ Q4n2 Z o0 o1 cF cs h0 n0 v uu.heap L ∧ FrameEnd s oo uu L RM_2_1_2_35.cells RM_2_1_2_35.slots) (ef_4_aaaan m o0 o1 (0 : Int32) (2 : Int32)) ?_
  show Go p e below _ (s₁.setTop (mkF m 0 #[sR o0, sR o1, sI 0, sI 2, .val .null, .unset] []))
  refine Vi (s₁.setTop (mkF m 1 #[sR o0, sR o1, sI 0, sI 2, .val .null, .unset] [(.ref o0)])) (fun tZ kZ => ?_) ?_
  · refine XS.aloadN X0.here hx rfl (hb hby d4_0) rfl rfl ?_
    exact kZ
  obtain ⟨T1, X1, e1, st1⟩ := initO X0 hx hZ hown (wq hw 19 rfl) (wq hw 20 rfl) (wq hw 21 rfl) e0 (g := (mkF m 1 #[sR o0, sR o1, sI 0, sI 2, .val .null, .unset] [(.ref o0)])) rfl (by rw [hml]; rfl) rfl (hb hby d4_1) (by decide) (W := 0) (by show 2 * 0 + _ ≤ _; exact Nat.le_of_eq rfl) (by decide)
  refine Go.via st1 ?_
  refine Vi (T1.setTop (mkF m 27 #[sR o0, sR o1, sI 0, sI 2, .val .null, .unset] [])) (fun tZ kZ => ?_) ?_
  · refine XS.iloadN X1.here hx rfl (hb hby d4_4) rfl ?_
    refine XS.ifYes X1.here hx rfl (pc0 := 5) (pc' := 27) rfl (hb hby d4_5) rfl ((if0 _ _).trans (feq (by decide)).2) (by decide) (by decide) ?_
    exact kZ
  obtain ⟨T2, X2, e2, st2⟩ := getS2 X1 hx hZ hown (host := "") (Or.inl (wq hw 77 rfl)) Via.refl e1 ha5 (g := (mkF m 27 #[sR o0, sR o1, sI 0, sI 2, .val .null, .unset] [])) rfl (hb hby d4_27)
  refine Go.via st2 ?_
  refine Vi (T2.setTop (mkF m 36 #[sR o0, sR o1, sI 0, sI 2, .val .null, .unset] [(.int 2), (.int 0), (.ref o1)])) (fun tZ kZ => ?_) ?_
  · refine XS.ifNo X2.here hx rfl (hb hby d4_30) rfl ((if0 _ _).trans (feq hcs).1) ?_
    refine XS.aloadN X2.here hx rfl (hb hby d4_33) rfl rfl ?_
    refine XS.iloadN X2.here hx rfl (hb hby d4_34) rfl ?_
    refine XS.iloadN X2.here hx rfl (hb hby d4_35) rfl ?_
    exact kZ
  obtain ⟨_, _, ⟨T3, L3, k3, n3⟩, -, X3, ⟨Lc3, hQ3, l3, y3, z3⟩, st3⟩ := Jvm.LawKit.callS X2 hx (y := y20) hown (wz hZ hw 103 rfl) (wz hZ hw 104 rfl) (wz hZ hw 105 rfl) (wz hZ hw 106 rfl) (by decide) (backOf (W := 0) (rm20n2 l Z a0 hw [] o1 cF h0 n0 Z0 ha4 hch0 hch1) hZ (wq hw 106 rfl) (wq hw 105 rfl) (by decide) (by decide)) (g := (mkF m 36 #[sR o0, sR o1, sI 0, sI 2, .val .null, .unset] [(.int 2), (.int 0), (.ref o1)])) rfl (by rw [hml]; rfl) (argsL := [(.ref o1), (.int 0), (.int 2)]) (rest := []) (lenOf pd_16 rfl) rfl (leW rfl) (hb hby d4_36) (fun _ _ => ⟨rfl, e2, (by decide : 0 + 1 ≤ _), (by decide : 0 + 2 ≤ _)⟩)
  dsimp only [Pt.U, Pt.locs, Pt.cells, Pt.slots] at X3 l3 y3 z3 st3 hQ3
  subst l3 y3 z3
  obtain ⟨b3_0, rfl, N3q, Kq3, hz_b3_0, f3_0, f3_1⟩ := hQ3
  have g_b3_0 : n0 ≤ b3_0 := Nat.le_trans Z0 hz_b3_0
  have sz_b3_0 : h0.size ≤ b3_0 := Nat.le_trans ((Keep.refl h0 [o0])).1 hz_b3_0
  have ne_o0_b3_0 : o0 ≠ b3_0 := Nat.ne_of_lt (Nat.lt_of_lt_of_le ha0.lt hz_b3_0)
  have ne_o1_b3_0 : o1 ≠ b3_0 := Nat.ne_of_lt (Nat.lt_of_lt_of_le ha4.lt hz_b3_0)
  have c4_0 := ha0.keep Kq3
  have c4_1 := ha1.keep Kq3 nin0
  have c4_2 := ha2.keep Kq3 nin0
  have c4_5 := own_sk ha5 Kq3 (fun _ _ _ _ => nin0)
  have K3 : Keep h0 T3.heap [o0] := (Keep.refl h0 [o0]).trans Kq3 all0
  have Z3 := Nat.le_trans Z0 Kq3.1
  have N3 := Fr.app N0 N3q
  refine Go.via st3 ?_
  refine Vi (T3.setTop (mkF m 45 #[sR o0, sR o1, sI 0, sI 2, .val .null, sR b3_0] [(.int 2), (.ref b3_0), (.ref o0)])) (fun tZ kZ => ?_) ?_
  · refine XS.astore X3.here hx rfl (hb hby d4_39) rfl rfl (l' := #[sR o0, sR o1, sI 0, sI 2, .val .null, sR b3_0]) rfl ?_
    refine XS.aloadN X3.here hx rfl (hb hby d4_41) rfl rfl ?_
    refine XS.aload X3.here hx rfl (hb hby d4_42) rfl rfl ?_
    refine XS.iloadN X3.here hx rfl (hb hby d4_44) rfl ?_
    exact kZ
  obtain ⟨_, _, ⟨T5, L5, k5, n5⟩, -, X5, ⟨Lc5, hQ5, l5, y5, z5⟩, st5⟩ := Jvm.LawKit.callS X3 hx (y := y22) hown (wz hZ hw 110 rfl) (wz hZ hw 111 rfl) (wz hZ hw 105 rfl) (wz hZ hw 112 rfl) (by decide) (backOf (W := 1) (rm22n2 l Z a0 hw [] b3_0 (up (up (fun _ => (0 : Int32)) (0 : Int32).toNatClampNeg (nar .byte ((cF (0 : Int32).toNatClampNeg).toInt8.toInt32))) (1 : Int32).toNatClampNeg (nar .byte ((cF (1 : Int32).toNatClampNeg).toInt8.toInt32))) T3.heap n0 Z3 f3_1) hZ (wq hw 112 rfl) (wq hw 105 rfl) (by decide) (by decide)) (g := (mkF m 45 #[sR o0, sR o1, sI 0, sI 2, .val .null, sR b3_0] [(.int 2), (.ref b3_0), (.ref o0)])) rfl (by rw [hml]; rfl) (argsL := [(.ref b3_0), (.int 2)]) (rest := [(.ref o0)]) (lenOf pd_18 rfl) rfl (leW rfl) (hb hby d4_45) (fun _ _ => ⟨rfl, rfl, (by decide : 0 + 1 + 0 ≤ _), (by decide : 0 + 2 + 0 ≤ _)⟩)
  dsimp only [Pt.U, Pt.locs, Pt.cells, Pt.slots] at X5 l5 y5 z5 st5 hQ5
  subst l5 y5 z5
  obtain ⟨rfl, N5q, e5⟩ := hQ5
  have hv5 : (f22n2 b3_0 (up (up (fun _ => (0 : Int32)) (0 : Int32).toNatClampNeg (nar .byte ((cF (0 : Int32).toNatClampNeg).toInt8.toInt32))) (1 : Int32).toNatClampNeg (nar .byte ((cF (1 : Int32).toNatClampNeg).toInt8.toInt32)))) = (0 : Int32) := by unfold f22n2; decide
  rw [hv5] at st5
  have N5 := Fr.app N3 N5q
  refine Go.via st5 ?_
  obtain ⟨T6, h6, X6, e6, W6, st6⟩ := putFN X5 hx hZ hown (wq hw 29 rfl) Via.refl e5 c4_2 c4_0 (Or.inr ⟨(wq hw 25 rfl), rfl, hnm⟩) (wq hw 9 rfl) (ty := .byte) (v' := (.int (nar .byte (0 : Int32)))) (by decide) rfl (fits_nar_byte _) (g := (mkF m 48 #[sR o0, sR o1, sI 0, sI 2, .val .null, sR b3_0] [(.int 0), (.ref o0)])) rfl rfl (hb hby d4_48)
  have N6 := Fr.snoc X6 N5 ha3
  have c7_0 := c4_0.wr W6
  have c7_1 := c4_1.other W6 (Or.inr (slot_ne (Or.inr (wq hw 24 rfl)) (Or.inr (wq hw 25 rfl)) (by decide) (t := (.array .byte)) (t' := .byte) (by decide) (by decide)))
  have c7_4 := f3_0.other W6 hne_o1_o0
  have c7_5 := c4_5.wr W6
  have c7_6 := f3_1.other W6 (Ne.symm ne_o0_b3_0)
  have K6 : Keep h0 h6 [o0] := K3.wr W6 (Or.inl (by simp))
  have Z6 := Nat.le_trans Z3 (Keep.of_wr W6).1
  have Fw6 : Fld Z h6 o0 "java/lang/String" "coder" "B" (.int 0) := c4_2.same W6
  refine Go.via st6 ?_
  refine Vi (T6.setTop (mkF m 54 #[sR o0, sR o1, sI 0, sI 2, .val .null, sR b3_0] [(.ref b3_0), (.ref o0)])) (fun tZ kZ => ?_) ?_
  · refine XS.aloadN X6.here hx rfl (hb hby d4_51) rfl rfl ?_
    refine XS.aload X6.here hx rfl (hb hby d4_52) rfl rfl ?_
    exact kZ
  obtain ⟨T8, h8, X8, e8, W8, st8⟩ := putF X6 hx hZ hown (host := "") (Or.inl (wq hw 28 rfl)) Via.refl e6 c7_1 c7_0 (Or.inr ⟨(wq hw 24 rfl), rfl, hnm⟩) (wq hw 9 rfl) (ty := (.array .byte)) (by decide) rfl rfl (g := (mkF m 54 #[sR o0, sR o1, sI 0, sI 2, .val .null, sR b3_0] [(.ref b3_0), (.ref o0)])) rfl rfl (hb hby d4_54)
  have N8 := Fr.snoc X8 N6 ha3
  have c9_0 := c7_0.wr W8
  have c9_2 := Fw6.other W8 (Or.inr (slot_ne (Or.inr (wq hw 25 rfl)) (Or.inr (wq hw 24 rfl)) (by decide) (t := .byte) (t' := (.array .byte)) (by decide) (by decide)))
  have c9_4 := c7_4.other W8 hne_o1_o0
  have c9_5 := c7_5.wr W8
  have c9_6 := c7_6.other W8 (Ne.symm ne_o0_b3_0)
  have K8 : Keep h0 h8 [o0] := K6.wr W8 (Or.inl (by simp))
  have Z8 := Nat.le_trans Z6 (Keep.of_wr W8).1
  have Fw8 := c7_1.same W8
  refine Go.via st8 ?_
  refine Go.retV X8 hx Bd.notSynchronized Bd.returns (hb hby d4_57) (by decide) (by decide) ?_
  rw [e8]
  exact ⟨b3_0, rfl, N8, K8, sz_b3_0, c9_0, Fw8, c9_2, c9_4, c9_5, c9_6⟩
def Q3n2 (Z : State) (o0 : Addr) (o1 : Addr) (cF : Nat → Int32) (cs : Int32) (h0 : Heap) (n0 : Nat) (v : Option Value) (h : Heap) (L : List Loc) : Prop := ∃ b1_0 : Addr, v = none ∧ Fr n0 L ∧ Keep h0 h [o0] ∧ h0.size ≤ b1_0 ∧ Exa Z h o0 "java/lang/String" ∧ Fld Z h o0 "java/lang/String" "value" "[B" (.ref b1_0) ∧ Fld Z h o0 "java/lang/String" "coder" "B" (.int 0) ∧ AV Z h o1 .char 2 (fun k => .int (cF k)) ∧ Sta Z h "java/lang/String" "COMPACT_STRINGS" "Z" (.int cs) ∧ AV Z h b1_0 .byte 2 (fun k => .int ((up (up (fun _ => (0 : Int32)) (0 : Int32).toNatClampNeg (nar .byte ((cF (0 : Int32).toNatClampNeg).toInt8.toInt32))) (1 : Int32).toNatClampNeg (nar .byte ((cF (1 : Int32).toNatClampNeg).toInt8.toInt32))) k))
abbrev RM_3_1_2_52 : Room := { frames := 3, cells := 1, slots := 2, locals := 52 }
theorem rm3n2 (l : Launch) (Z : State) (a0 : Array Value) (hw : HW a0 Z) (ws : List Jvm.Cond) (o0 : Addr) (o1 : Addr) (cF : Nat → Int32) (cs : Int32) (h0 : Heap) (n0 : Nat) (Z0 : n0 ≤ h0.size) (ha0 : Exa Z h0 o0 "java/lang/String") (ha1 : Fld Z h0 o0 "java/lang/String" "value" "[B" .null) (ha2 : Fld Z h0 o0 "java/lang/String" "coder" "B" (.int 0)) (ha3 : n0 ≤ o0) (ha4 : AV Z h0 o1 .char 2 (fun k => .int (cF k))) (ha5 : Sta Z h0 "java/lang/String" "COMPACT_STRINGS" "Z" (.int cs)) (hne_o1_o0 : o1 ≠ o0) (hch0 : ¬ (255 : Int32) < (cF (0 : Int32).toNatClampNeg)) (hch1 : ¬ (255 : Int32) < (cF (1 : Int32).toNatClampNeg)) (hcs : ¬ cs = 0) :
    MetFree l y3 (head1 (Jvm.Cond.code y3 jdk_42_method_3_code 2 none :: ws) RM_3_1_2_52) (fun a U => a = #[(.ref o0), (.ref o1)] ∧ Z.Warmed39 U.vm ∧ U.heap = h0) (fun _ _ _ _ _ => True) (fun _ U o U' => ∃ v L, o = .returned v ∧ Q3n2 Z o0 o1 cF cs h0 n0 v U'.heap L ∧ FrameEnd U o U' L RM_3_1_2_52.cells RM_3_1_2_52.slots) := by
  refine MetFree.of_bodySF (plainFor_of_name pn_0) hisR ?_
  intro p e s m args below meth c s₁ Bd hml0 hP hK
  obtain ⟨rfl, hZ, hh⟩ := hP
  have hx := Bd.exec
  have hby := Bd.bytes
  have hml : c.maxLocals = 2 := hml0
  have hown : s.vm.findClass "java/lang/String" = some m.cls := findClass_of_methodNamed Bd.named
  have X0 : Stand p l e RM_3_1_2_52 s m _ below meth c s₁ [] 0 0 := Stand.of_body Bd
  have e0 : s₁.heap = h0 := by rw [← hh, Bd.state]; rfl
  have N0 := Fr.nil n0
  refine Go.into (P := fun oo uu => ∃ v L, oo = .returned v ∧ Q3n2 Z o0 o1 cF cs h0 n0 v uu.heap L ∧ FrameEnd s oo uu L RM_3_1_2_52.cells RM_3_1_2_52.slots) (ef_3_aa m o0 o1) ?_
  show Go p e below _ (s₁.setTop (mkF m 0 #[sR o0, sR o1] []))
  refine Vi (s₁.setTop (mkF m 6 #[sR o0, sR o1] [.null, (.int 2), (.int 0), (.ref o1), (.ref o0)])) (fun tZ kZ => ?_) ?_
  · refine XS.aloadN X0.here hx rfl (hb hby d3_0) rfl rfl ?_
    refine XS.aloadN X0.here hx rfl (hb hby d3_1) rfl rfl ?_
    refine XS.iconst X0.here hx rfl (hb hby d3_2) ?_
    refine XS.aloadN X0.here hx rfl (hb hby d3_3) rfl rfl ?_
    refine AV.len ha4 X0 hx hZ e0 (hb hby d3_4) ?_
    refine XS.aconstNull X0.here hx rfl (hb hby d3_5) ?_
    exact kZ
  obtain ⟨_, _, ⟨T1, L1, k1, n1⟩, -, X1, ⟨Lc1, hQ1, l1, y1, z1⟩, st1⟩ := X0.specialBack hx (y := y4) rfl hown (wz hZ hw 15 rfl) (wz hZ hw 16 rfl) (wz hZ hw 18 rfl) (by decide) (backOf (W := 0) (rm4n2 l Z a0 hw [] o0 o1 cF cs h0 n0 Z0 ha0 ha1 ha2 ha3 ha4 ha5 hne_o1_o0 hch0 hch1 hcs) hZ (wq hw 18 rfl) (wq hw 10 rfl) (by decide) (by decide)) (g := (mkF m 6 #[sR o0, sR o1] [.null, (.int 2), (.int 0), (.ref o1), (.ref o0)])) rfl (by rw [hml]; rfl) (Steps.refl _) (a := o0) (argsL := [(.ref o1), (.int 0), (.int 2), .null]) (rest := []) (lenOf pd_3 rfl) rfl (leW rfl) (hb hby d3_6) (fun _ _ => ⟨rfl, e0, (by decide : 0 + 1 ≤ _), (by decide : 0 + 2 ≤ _)⟩)
  dsimp only [Pt.U, Pt.locs, Pt.cells, Pt.slots] at X1 l1 y1 z1 st1 hQ1
  subst l1 y1 z1
  obtain ⟨b1_0, rfl, N1q, Kq1, hz_b1_0, f1_0, f1_1, f1_2, f1_3, f1_4, f1_5⟩ := hQ1
  have g_b1_0 : n0 ≤ b1_0 := Nat.le_trans Z0 hz_b1_0
  have sz_b1_0 : h0.size ≤ b1_0 := Nat.le_trans ((Keep.refl h0 [o0])).1 hz_b1_0
  have ne_o0_b1_0 : o0 ≠ b1_0 := Nat.ne_of_lt (Nat.lt_of_lt_of_le ha0.lt hz_b1_0)
  have ne_o1_b1_0 : o1 ≠ b1_0 := Nat.ne_of_lt (Nat.lt_of_lt_of_le ha4.lt hz_b1_0)
  have K1 : Keep h0 T1.heap [o0] := (Keep.refl h0 [o0]).trans Kq1 (allS (Or.inl (by simp)) all0)
  have Z1 := Nat.le_trans Z0 Kq1.1
  have N1 := Fr.app N0 N1q
  refine Go.via (fun t k => st1.trans k) ?_
  refine Go.retV X1 hx Bd.notSynchronized Bd.returns (hb hby d3_9) (by decide) (by decide) ?_
  exact ⟨b1_0, rfl, N1, K1, sz_b1_0, f1_0, f1_1, f1_2, f1_3, f1_4, f1_5⟩
theorem d2_35 : decode B2 35 = .ok (.iload_n 0, 1) := by decide +kernel
theorem d2_36 : decode B2 36 = .ok (.iconst 2, 1) := by decide +kernel
theorem d2_37 : decode B2 37 = .ok (.if_icmp .ne 22, 3) := by decide +kernel
theorem d2_40 : decode B2 40 = .ok (.new 32, 3) := by decide +kernel
theorem d2_43 : decode B2 43 = .ok (.dup, 1) := by decide +kernel
theorem d2_44 : decode B2 44 = .ok (.iconst 2, 1) := by decide +kernel
theorem d2_45 : decode B2 45 = .ok (.newarray .char, 2) := by decide +kernel
theorem d2_47 : decode B2 47 = .ok (.dup, 1) := by decide +kernel
theorem d2_48 : decode B2 48 = .ok (.iconst 0, 1) := by decide +kernel
theorem d2_49 : decode B2 49 = .ok (.iload_n 1, 1) := by decide +kernel
theorem d2_50 : decode B2 50 = .ok (.castore, 1) := by decide +kernel
theorem d2_51 : decode B2 51 = .ok (.dup, 1) := by decide +kernel
theorem d2_52 : decode B2 52 = .ok (.iconst 1, 1) := by decide +kernel
theorem d2_53 : decode B2 53 = .ok (.iload_n 2, 1) := by decide +kernel
theorem d2_54 : decode B2 54 = .ok (.castore, 1) := by decide +kernel
theorem d2_55 : decode B2 55 = .ok (.invokespecial 41, 3) := by decide +kernel
theorem d2_58 : decode B2 58 = .ok (.areturn, 1) := by decide +kernel
def Q2n2 (Z : State) (p1 : Int32) (p2 : Int32) (p3 : Int32) (p4 : Int32) (cs : Int32) (h0 : Heap) (n0 : Nat) (v : Option Value) (h : Heap) (L : List Loc) : Prop := ∃ b1 : Addr, ∃ b9_0 : Addr, v = some (.ref b1) ∧ Fr n0 L ∧ Keep h0 h [] ∧ h0.size ≤ b1 ∧ h0.size ≤ b9_0 ∧ Sta Z h "java/lang/String" "COMPACT_STRINGS" "Z" (.int cs) ∧ Exa Z h b1 "java/lang/String" ∧ Fld Z h b1 "java/lang/String" "value" "[B" (.ref b9_0) ∧ Fld Z h b1 "java/lang/String" "coder" "B" (.int 0) ∧ AV Z h b9_0 .byte 2 (fun k => .int ((up (up (fun _ => (0 : Int32)) (0 : Int32).toNatClampNeg (nar .byte (((up (up (fun _ => (0 : Int32)) (0 : Int32).toNatClampNeg (nar .char p1)) (1 : Int32).toNatClampNeg (nar .char p2)) (0 : Int32).toNatClampNeg).toInt8.toInt32))) (1 : Int32).toNatClampNeg (nar .byte (((up (up (fun _ => (0 : Int32)) (0 : Int32).toNatClampNeg (nar .char p1)) (1 : Int32).toNatClampNeg (nar .char p2)) (1 : Int32).toNatClampNeg).toInt8.toInt32))) k))
abbrev RM_4_3_8_66 : Room := { frames := 4, cells := 3, slots := 8, locals := 66 }
theorem rm2n2 (l : Launch) (Z : State) (a0 : Array Value) (hw : HW a0 Z) (ws : List Jvm.Cond) (p1 : Int32) (p2 : Int32) (p3 : Int32) (p4 : Int32) (cs : Int32) (h0 : Heap) (n0 : Nat) (Z0 : n0 ≤ h0.size) (ha0 : Sta Z h0 "java/lang/String" "COMPACT_STRINGS" "Z" (.int cs)) (hx0 : own_ch p1) (hx1 : own_ch p2) (hcs : ¬ cs = 0) :
    MetFree l y2 (head1 (Jvm.Cond.code y2 method_4_code 5 (some (.object "java/lang/String")) :: ws) RM_4_3_8_66) (fun a U => a = #[(.int 2), (.int p1), (.int p2), (.int p3), (.int p4)] ∧ Z.Warmed39 U.vm ∧ U.heap = h0) (fun _ _ _ _ _ => True) (fun _ U o U' => ∃ v L, o = .returned v ∧ Q2n2 Z p1 p2 p3 p4 cs h0 n0 v U'.heap L ∧ FrameEnd U o U' L RM_4_3_8_66.cells RM_4_3_8_66.slots) := by
  refine MetFree.of_bodySF (plainFor_of_name pn_6) hisR ?_
  intro p e s m args below meth c s₁ Bd hml0 hP hK
  obtain ⟨rfl, hZ, hh⟩ := hP
  have hx := Bd.exec
  have hby := Bd.bytes
  have hml : c.maxLocals = 5 := hml0
  have hown : s.vm.findClass "com/example/bindery/bindery/compiler/JavaTypeOuterNamePinLaw" = some m.cls := findClass_of_methodNamed Bd.named
  have X0 : Stand p l e RM_4_3_8_66 s m _ below meth c s₁ [] 0 0 := Stand.of_body Bd
  have e0 : s₁.heap = h0 := by rw [← hh, Bd.state]; rfl
  have N0 := Fr.nil n0
  refine Go.into (P := fun oo uu => ∃ v L, oo = .returned v ∧ Q2n2 Z p1 p2 p3 p4 cs h0 n0 v uu.heap L ∧ FrameEnd s oo uu L RM_4_3_8_66.cells RM_4_3_8_66.slots) (ef_2_aaaaa m (2 : Int32) p1 p2 p3 p4) ?_
  show Go p e below _ (s₁.setTop (mkF m 0 #[sI 2, sI p1, sI p2, sI p3, sI p4] []))
  refine Vi (s₁.setTop (mkF m 40 #[sI 2, sI p1, sI p2, sI p3, sI p4] [])) (fun tZ kZ => ?_) ?_
  · refine XS.iloadN X0.here hx rfl (hb hby d2_0) rfl ?_
    refine XS.ifYes X0.here hx rfl (pc0 := 1) (pc' := 15) rfl (hb hby d2_1) rfl ((if0 _ _).trans (feq (by decide)).2) (by decide) (by decide) ?_
    refine XS.iloadN X0.here hx rfl (hb hby d2_15) rfl ?_
    refine XS.iconst X0.here hx rfl (hb hby d2_16) ?_
    refine XS.icmpYes X0.here hx rfl (pc0 := 17) (pc' := 35) rfl (hb hby d2_17) rfl (feq (by decide)).2 (by decide) (by decide) ?_
    refine XS.iloadN X0.here hx rfl (hb hby d2_35) rfl ?_
    refine XS.iconst X0.here hx rfl (hb hby d2_36) ?_
    refine XS.icmpNo X0.here hx rfl (hb hby d2_37) rfl (teq (by decide)).2 ?_
    exact kZ
  obtain ⟨T1, h1, X1, e1, E1, A1, D1, -, st1⟩ := newO X0 hx hZ hown (wq hw 8 rfl) (wq hw 9 rfl) (wq hw 10 rfl) e0 (g := (mkF m 40 #[sI 2, sI p1, sI p2, sI p3, sI p4] [])) rfl (hb hby d2_40) (by decide) (by decide)
  obtain ⟨b1, g1⟩ : ∃ z, z = h0.size := ⟨_, rfl⟩
  rw [← g1] at A1 D1 st1
  have g_b1 : n0 ≤ b1 := Nat.le_trans Z0 (Nat.le_of_eq g1.symm)
  have sz_b1 : h0.size ≤ b1 := Nat.le_trans ((Keep.refl h0 [])).1 (Nat.le_of_eq g1.symm)
  have c2_0 := ha0.ext E1
  have K1 : Keep h0 h1 [] := (Keep.refl h0 []).ext E1
  have Z1 := Nat.le_trans Z0 E1.1
  have F1_value : Fld Z h1 b1 "java/lang/String" "value" "[B" .null := D1 (Or.inr (wq hw 24 rfl)) (ty := (.array .byte)) (by decide)
  have F1_coder : Fld Z h1 b1 "java/lang/String" "coder" "B" (.int 0) := D1 (Or.inr (wq hw 25 rfl)) (ty := .byte) (by decide)
  refine Go.via st1 ?_
  refine Vi (T1.setTop (mkF m 45 #[sI 2, sI p1, sI p2, sI p3, sI p4] [(.int 2), (.ref b1), (.ref b1)])) (fun tZ kZ => ?_) ?_
  · refine XS.dup X1.here hx rfl (hb hby d2_43) rfl rfl ?_
    refine XS.iconst X1.here hx rfl (hb hby d2_44) ?_
    exact kZ
  obtain ⟨T3, h3, k3, X3, e3, E3, A3, B3, st3⟩ := newPE X1 hx hZ (wq hw 11 rfl) e1 (g := (mkF m 45 #[sI 2, sI p1, sI p2, sI p3, sI p4] [(.int 2), (.ref b1), (.ref b1)])) rfl (hb hby d2_45) rfl (by decide) (cap := 2) (by decide) (by decide) (by decide) (by decide) (ad := "[C") rfl
  obtain ⟨b3, g3⟩ : ∃ z, z = h1.size := ⟨_, rfl⟩
  rw [← g3] at A3 B3 st3
  have g_b3 : n0 ≤ b3 := Nat.le_trans Z1 (Nat.le_of_eq g3.symm)
  have sz_b3 : h0.size ≤ b3 := Nat.le_trans (K1).1 (Nat.le_of_eq g3.symm)
  have ne_b1_b3 : b1 ≠ b3 := Nat.ne_of_lt (Nat.lt_of_lt_of_le A1.lt (Nat.le_of_eq g3.symm))
  have c4_0 := c2_0.ext E3
  have c4_2 := A1.ext E3
  have c4_3 := F1_value.ext E3
  have c4_4 := F1_coder.ext E3
  have K3 : Keep h0 h3 [] := K1.ext E3
  have Z3 := Nat.le_trans Z1 E3.1
  have V3 : AV Z h3 b3 .char 2 (fun k => .int ((fun _ => (0 : Int32)) k)) := by have q := AV.new A3; exact q
  refine Go.via st3 ?_
  refine Vi (T3.setTop (mkF m 50 #[sI 2, sI p1, sI p2, sI p3, sI p4] [(.int p1), (.int 0), (.ref b3), (.ref b3), (.ref b1), (.ref b1)])) (fun tZ kZ => ?_) ?_
  · refine XS.dup X3.here hx rfl (hb hby d2_47) rfl rfl ?_
    refine XS.iconst X3.here hx rfl (hb hby d2_48) ?_
    refine XS.iloadN X3.here hx rfl (hb hby d2_49) rfl ?_
    exact kZ
  obtain ⟨T5, h5, X5, e5, W5, V5, st5⟩ := AV.castore V3 X3 hx hZ e3 (j := (0 : Int32)) (by decide) (Ls := #[sI 2, sI p1, sI p2, sI p3, sI p4]) (rest := [(.ref b3), (.ref b1), (.ref b1)]) (hb hby d2_50) (x := p1)
  have N5 := Fr.snoc X5 N0 g_b3
  have c6_0 := c4_0.wr W5
  have c6_2 := c4_2.wr W5
  have c6_3 := c4_3.other W5 (Or.inl ne_b1_b3)
  have c6_4 := c4_4.other W5 (Or.inl ne_b1_b3)
  have K5 : Keep h0 h5 [] := K3.wr W5 (Or.inr sz_b3)
  have Z5 := Nat.le_trans Z3 (Keep.of_wr W5).1
  refine Go.via st5 ?_
  refine Vi (T5.setTop (mkF m 54 #[sI 2, sI p1, sI p2, sI p3, sI p4] [(.int p2), (.int 1), (.ref b3), (.ref b3), (.ref b1), (.ref b1)])) (fun tZ kZ => ?_) ?_
  · refine XS.dup X5.here hx rfl (hb hby d2_51) rfl rfl ?_
    refine XS.iconst X5.here hx rfl (hb hby d2_52) ?_
    refine XS.iloadN X5.here hx rfl (hb hby d2_53) rfl ?_
    exact kZ
  obtain ⟨T7, h7, X7, e7, W7, V7, st7⟩ := AV.castore V5 X5 hx hZ e5 (j := (1 : Int32)) (by decide) (Ls := #[sI 2, sI p1, sI p2, sI p3, sI p4]) (rest := [(.ref b3), (.ref b1), (.ref b1)]) (hb hby d2_54) (x := p2)
  have N7 := Fr.snoc X7 N5 g_b3
  have c8_0 := c6_0.wr W7
  have c8_2 := c6_2.wr W7
  have c8_3 := c6_3.other W7 (Or.inl ne_b1_b3)
  have c8_4 := c6_4.other W7 (Or.inl ne_b1_b3)
  have K7 : Keep h0 h7 [] := K5.wr W7 (Or.inr sz_b3)
  have Z7 := Nat.le_trans Z5 (Keep.of_wr W7).1
  refine Go.via st7 ?_
  obtain ⟨_, _, ⟨T9, L9, k9, n9⟩, -, X9, ⟨Lc9, hQ9, l9, y9, z9⟩, st9⟩ := X7.specialBack hx (y := y3) rfl hown (wz hZ hw 12 rfl) (wz hZ hw 13 rfl) (wz hZ hw 14 rfl) (by decide) (backOf (W := 1) (rm3n2 l Z a0 hw [] b1 b3 (up (up (fun _ => (0 : Int32)) (0 : Int32).toNatClampNeg (nar .char p1)) (1 : Int32).toNatClampNeg (nar .char p2)) cs h7 n0 Z7 c8_2 c8_3 c8_4 g_b1 V7 c8_0 (Ne.symm ne_b1_b3) (own_hch hx0) (own_hch hx1) hcs) hZ (wq hw 14 rfl) (wq hw 10 rfl) (by decide) (by decide)) (g := (mkF m 55 #[sI 2, sI p1, sI p2, sI p3, sI p4] [(.ref b3), (.ref b1), (.ref b1)])) rfl (by rw [hml]; rfl) (Steps.refl _) (a := b1) (argsL := [(.ref b3)]) (rest := [(.ref b1)]) (lenOf pd_2 rfl) rfl (leW rfl) (hb hby d2_55) (fun _ _ => ⟨rfl, e7, (by decide : 0 + 1 + 1 + 1 ≤ _), (by decide : 0 + 4 + 2 + 2 ≤ _)⟩)
  dsimp only [Pt.U, Pt.locs, Pt.cells, Pt.slots] at X9 l9 y9 z9 st9 hQ9
  subst l9 y9 z9
  obtain ⟨b9_0, rfl, N9q, Kq9, hz_b9_0, f9_0, f9_1, f9_2, f9_3, f9_4, f9_5⟩ := hQ9
  have g_b9_0 : n0 ≤ b9_0 := Nat.le_trans Z7 hz_b9_0
  have sz_b9_0 : h0.size ≤ b9_0 := Nat.le_trans (K7).1 hz_b9_0
  have ne_b1_b9_0 : b1 ≠ b9_0 := Nat.ne_of_lt (Nat.lt_of_lt_of_le c8_2.lt hz_b9_0)
  have ne_b3_b9_0 : b3 ≠ b9_0 := Nat.ne_of_lt (Nat.lt_of_lt_of_le V7.lt hz_b9_0)
  have K9 : Keep h0 T9.heap [] := K7.trans Kq9 (allS (Or.inr sz_b1) all0)
  have Z9 := Nat.le_trans Z7 Kq9.1
  have N9 := Fr.app N7 N9q
  refine Go.via (fun t k => st9.trans k) ?_
  refine Go.retR X9 hx Bd.notSynchronized Bd.returns rfl rfl (hb hby d2_58) (by decide) (by decide) ?_
  exact ⟨b1, b9_0, rfl, N9, K9, sz_b1, sz_b9_0, f9_4, f9_0, f9_1, f9_2, f9_5⟩
def f23n2 (o0 : Addr) (fF : Nat → Int32) : Int32 := (if (fF (0 : Int32).toNatClampNeg) = ((46 : Int32).toInt8.toInt32) then (0 : Int32) else (if (fF (1 : Int32).toNatClampNeg) = ((46 : Int32).toInt8.toInt32) then (1 : Int32) else (-1 : Int32)))
def Q23n2 (o0 : Addr) (fF : Nat → Int32) (h0 : Heap) (n0 : Nat) (v : Option Value) (h : Heap) (L : List Loc) : Prop := v = some (.int (f23n2 o0 fF)) ∧ Fr n0 L ∧ h = h0
theorem rm23n2 (l : Launch) (Z : State) (a0 : Array Value) (hw : HW a0 Z) (ws : List Jvm.Cond) (o0 : Addr) (fF : Nat → Int32) (h0 : Heap) (n0 : Nat) (Z0 : n0 ≤ h0.size) (ha0 : AV Z h0 o0 .byte 2 (fun k => .int (fF k))) :
    MetFree l y23 (head1 (Jvm.Cond.code y23 jdk_43_method_23_code 6 (some .int) :: ws) RM_0_0_0_0) (fun a U => a = #[(.ref o0), (.int 46), (.int 0), (.int 2)] ∧ Z.Warmed39 U.vm ∧ U.heap = h0) (fun _ _ _ _ _ => True) (fun _ U o U' => ∃ v L, o = .returned v ∧ Q23n2 o0 fF h0 n0 v U'.heap L ∧ FrameEnd U o U' L RM_0_0_0_0.cells RM_0_0_0_0.slots) := by
  refine MetFree.of_bodySF (plainFor_of_name pn_1) hisR ?_
  intro p e s m args below meth c s₁ Bd hml0 hP hK
  obtain ⟨rfl, hZ, hh⟩ := hP
  have hx := Bd.exec
  have hby := Bd.bytes
  have hml : c.maxLocals = 6 := hml0
  have hown : s.vm.findClass "java/lang/StringLatin1" = some m.cls := findClass_of_methodNamed Bd.named
  have X0 : Stand p l e RM_0_0_0_0 s m _ below meth c s₁ [] 0 0 := Stand.of_body Bd
  have e0 : s₁.heap = h0 := by rw [← hh, Bd.state]; rfl
  have N0 := Fr.nil n0
  refine Go.into (P := fun oo uu => ∃ v L, oo = .returned v ∧ Q23n2 o0 fF h0 n0 v uu.heap L ∧ FrameEnd s oo uu L RM_0_0_0_0.cells RM_0_0_0_0.slots) (ef_23_aaaa m o0 (46 : Int32) (0 : Int32) (2 : Int32)) ?_
  show Go p e below _ (s₁.setTop (mkF m 0 #[sR o0, sI 46, sI 0, sI 2, .unset, .unset] []))
  refine Vi (s₁.setTop (mkF m 19 #[sR o0, sI 46, sI 0, sI 2, sI ((46 : Int32).toInt8.toInt32), sI 0] [(.int ((46 : Int32).toInt8.toInt32)), (.int (fF (0 : Int32).toNatClampNeg))])) (fun tZ kZ => ?_) ?_
  · refine XS.iloadN X0.here hx rfl (hb hby d23_0) rfl ?_
    refine XS.i2b X0.here hx rfl (hb hby d23_1) rfl ?_
    refine XS.istore X0.here hx rfl (hb hby d23_2) rfl (l' := #[sR o0, sI 46, sI 0, sI 2, sI ((46 : Int32).toInt8.toInt32), .unset]) rfl ?_
    refine XS.iloadN X0.here hx rfl (hb hby d23_4) rfl ?_
    refine XS.istore X0.here hx rfl (hb hby d23_5) rfl (l' := #[sR o0, sI 46, sI 0, sI 2, sI ((46 : Int32).toInt8.toInt32), sI 0]) rfl ?_
    refine XS.iload X0.here hx rfl (hb hby d23_7) rfl ?_
    refine XS.iloadN X0.here hx rfl (hb hby d23_9) rfl ?_
    refine XS.icmpNo X0.here hx rfl (hb hby d23_10) rfl (tlt (by decide)).2.1 ?_
    refine XS.aloadN X0.here hx rfl (hb hby d23_13) rfl rfl ?_
    refine XS.iload X0.here hx rfl (hb hby d23_14) rfl ?_
    refine AV.baload ha0 X0 hx hZ e0 (j := (0 : Int32)) (by decide) (hb hby d23_16) ?_
    refine XS.iload X0.here hx rfl (hb hby d23_17) rfl ?_
    exact kZ
  by_cases hc19 : (fF (0 : Int32).toNatClampNeg) = ((46 : Int32).toInt8.toInt32)
  · refine Vi (s₁.setTop (mkF m 22 #[sR o0, sI 46, sI 0, sI 2, sI ((46 : Int32).toInt8.toInt32), sI 0] [])) (fun tZ kZ => ?_) ?_
    · show Steps p.tables e below (s₁.setTop (mkF m 19 #[sR o0, sI 46, sI 0, sI 2, sI ((46 : Int32).toInt8.toInt32), sI 0] [(.int ((46 : Int32).toInt8.toInt32)), (.int (fF (0 : Int32).toNatClampNeg))])) _
      refine XS.icmpNo X0.here hx rfl (hb hby d23_19) rfl (teq hc19).2 ?_
      exact kZ
    refine Vi (s₁.setTop (mkF m 24 #[sR o0, sI 46, sI 0, sI 2, sI ((46 : Int32).toInt8.toInt32), sI 0] [(.int 0)])) (fun tZ kZ => ?_) ?_
    · refine XS.iload X0.here hx rfl (hb hby d23_22) rfl ?_
      exact kZ
    refine Go.retI X0 hx Bd.notSynchronized Bd.returns (hb hby d23_24) (by decide) (by decide) ?_
    refine ⟨?_, N0, e0⟩
    show some ((.int 0) : Value) = some (.int (f23n2 o0 fF))
    unfold f23n2; rw [if_pos hc19] <;> rfl
  · refine Vi (s₁.setTop (mkF m 25 #[sR o0, sI 46, sI 0, sI 2, sI ((46 : Int32).toInt8.toInt32), sI 0] [])) (fun tZ kZ => ?_) ?_
    · show Steps p.tables e below (s₁.setTop (mkF m 19 #[sR o0, sI 46, sI 0, sI 2, sI ((46 : Int32).toInt8.toInt32), sI 0] [(.int ((46 : Int32).toInt8.toInt32)), (.int (fF (0 : Int32).toNatClampNeg))])) _
      refine XS.icmpYes X0.here hx rfl (pc0 := 19) (pc' := 25) rfl (hb hby d23_19) rfl (feq hc19).2 (by decide) (by decide) ?_
      exact kZ
    refine Vi (s₁.setTop (mkF m 19 #[sR o0, sI 46, sI 0, sI 2, sI ((46 : Int32).toInt8.toInt32), sI 1] [(.int ((46 : Int32).toInt8.toInt32)), (.int (fF (1 : Int32).toNatClampNeg))])) (fun tZ kZ => ?_) ?_
    · refine XS.iinc X0.here hx rfl (hb hby d23_25) rfl (l' := #[sR o0, sI 46, sI 0, sI 2, sI ((46 : Int32).toInt8.toInt32), sI 1]) rfl ?_
      refine XS.goto X0.here hx rfl (pc0 := 28) (pc' := 7) rfl (hb hby d23_28) (by decide) (by decide) ?_
      refine XS.iload X0.here hx rfl (hb hby d23_7) rfl ?_
      refine XS.iloadN X0.here hx rfl (hb hby d23_9) rfl ?_
      refine XS.icmpNo X0.here hx rfl (hb hby d23_10) rfl (tlt (by decide)).2.1 ?_
      refine XS.aloadN X0.here hx rfl (hb hby d23_13) rfl rfl ?_
      refine XS.iload X0.here hx rfl (hb hby d23_14) rfl ?_
      refine AV.baload ha0 X0 hx hZ e0 (j := (1 : Int32)) (by decide) (hb hby d23_16) ?_
      refine XS.iload X0.here hx rfl (hb hby d23_17) rfl ?_
      exact kZ
    by_cases hc19_1 : (fF (1 : Int32).toNatClampNeg) = ((46 : Int32).toInt8.toInt32)
    · refine Vi (s₁.setTop (mkF m 22 #[sR o0, sI 46, sI 0, sI 2, sI ((46 : Int32).toInt8.toInt32), sI 1] [])) (fun tZ kZ => ?_) ?_
      · show Steps p.tables e below (s₁.setTop (mkF m 19 #[sR o0, sI 46, sI 0, sI 2, sI ((46 : Int32).toInt8.toInt32), sI 1] [(.int ((46 : Int32).toInt8.toInt32)), (.int (fF (1 : Int32).toNatClampNeg))])) _
        refine XS.icmpNo X0.here hx rfl (hb hby d23_19) rfl (teq hc19_1).2 ?_
        exact kZ
      refine Vi (s₁.setTop (mkF m 24 #[sR o0, sI 46, sI 0, sI 2, sI ((46 : Int32).toInt8.toInt32), sI 1] [(.int 1)])) (fun tZ kZ => ?_) ?_
      · refine XS.iload X0.here hx rfl (hb hby d23_22) rfl ?_
        exact kZ
      refine Go.retI X0 hx Bd.notSynchronized Bd.returns (hb hby d23_24) (by decide) (by decide) ?_
      refine ⟨?_, N0, e0⟩
      show some ((.int 1) : Value) = some (.int (f23n2 o0 fF))
      unfold f23n2; rw [if_neg hc19, if_pos hc19_1] <;> rfl
    · refine Vi (s₁.setTop (mkF m 25 #[sR o0, sI 46, sI 0, sI 2, sI ((46 : Int32).toInt8.toInt32), sI 1] [])) (fun tZ kZ => ?_) ?_
      · show Steps p.tables e below (s₁.setTop (mkF m 19 #[sR o0, sI 46, sI 0, sI 2, sI ((46 : Int32).toInt8.toInt32), sI 1] [(.int ((46 : Int32).toInt8.toInt32)), (.int (fF (1 : Int32).toNatClampNeg))])) _
        refine XS.icmpYes X0.here hx rfl (pc0 := 19) (pc' := 25) rfl (hb hby d23_19) rfl (feq hc19_1).2 (by decide) (by decide) ?_
        exact kZ
      refine Vi (s₁.setTop (mkF m 32 #[sR o0, sI 46, sI 0, sI 2, sI ((46 : Int32).toInt8.toInt32), sI 2] [(.int (-1))])) (fun tZ kZ => ?_) ?_
      · refine XS.iinc X0.here hx rfl (hb hby d23_25) rfl (l' := #[sR o0, sI 46, sI 0, sI 2, sI ((46 : Int32).toInt8.toInt32), sI 2]) rfl ?_
        refine XS.goto X0.here hx rfl (pc0 := 28) (pc' := 7) rfl (hb hby d23_28) (by decide) (by decide) ?_
        refine XS.iload X0.here hx rfl (hb hby d23_7) rfl ?_
        refine XS.iloadN X0.here hx rfl (hb hby d23_9) rfl ?_
        refine XS.icmpYes X0.here hx rfl (pc0 := 10) (pc' := 31) rfl (hb hby d23_10) rfl (flt (by decide)).2.1 (by decide) (by decide) ?_
        refine XS.iconst X0.here hx rfl (hb hby d23_31) ?_
        exact kZ
      refine Go.retI X0 hx Bd.notSynchronized Bd.returns (hb hby d23_32) (by decide) (by decide) ?_
      refine ⟨?_, N0, e0⟩
      show some ((.int (-1)) : Value) = some (.int (f23n2 o0 fF))
      unfold f23n2; rw [if_neg hc19, if_neg hc19_1] <;> rfl
def f16n2 (o0 : Addr) (fF : Nat → Int32) : Int32 := (f23n2 o0 fF)
def Q16n2 (o0 : Addr) (fF : Nat → Int32) (h0 : Heap) (n0 : Nat) (v : Option Value) (h : Heap) (L : List Loc) : Prop := v = some (.int (f16n2 o0 fF)) ∧ Fr n0 L ∧ h = h0
theorem rm16n2 (l : Launch) (Z : State) (a0 : Array Value) (hw : HW a0 Z) (ws : List Jvm.Cond) (o0 : Addr) (fF : Nat → Int32) (h0 : Heap) (n0 : Nat) (Z0 : n0 ≤ h0.size) (ha0 : AV Z h0 o0 .byte 2 (fun k => .int (fF k))) :
    MetFree l y16 (head1 (Jvm.Cond.code y16 jdk_43_method_22_code 4 (some .int) :: ws) RM_1_0_0_17) (fun a U => a = #[(.ref o0), (.int 46), (.int 0), (.int 2)] ∧ Z.Warmed39 U.vm ∧ U.heap = h0) (fun _ _ _ _ _ => True) (fun _ U o U' => ∃ v L, o = .returned v ∧ Q16n2 o0 fF h0 n0 v U'.heap L ∧ FrameEnd U o U' L RM_1_0_0_17.cells RM_1_0_0_17.slots) := by
  refine MetFree.of_bodySF (plainFor_of_name pn_1) hisR ?_
  intro p e s m args below meth c s₁ Bd hml0 hP hK
  obtain ⟨rfl, hZ, hh⟩ := hP
  have hx := Bd.exec
  have hby := Bd.bytes
  have hml : c.maxLocals = 4 := hml0
  have hown : s.vm.findClass "java/lang/StringLatin1" = some m.cls := findClass_of_methodNamed Bd.named
  have X0 : Stand p l e RM_1_0_0_17 s m _ below meth c s₁ [] 0 0 := Stand.of_body Bd
  have e0 : s₁.heap = h0 := by rw [← hh, Bd.state]; rfl
  have N0 := Fr.nil n0
  refine Go.into (P := fun oo uu => ∃ v L, oo = .returned v ∧ Q16n2 o0 fF h0 n0 v uu.heap L ∧ FrameEnd s oo uu L RM_1_0_0_17.cells RM_1_0_0_17.slots) (ef_16_aaaa m o0 (46 : Int32) (0 : Int32) (2 : Int32)) ?_
  show Go p e below _ (s₁.setTop (mkF m 0 #[sR o0, sI 46, sI 0, sI 2] []))
  refine Vi (s₁.setTop (mkF m 1 #[sR o0, sI 46, sI 0, sI 2] [(.int 46)])) (fun tZ kZ => ?_) ?_
  · refine XS.iloadN X0.here hx rfl (hb hby d16_0) rfl ?_
    exact kZ
  obtain ⟨_, _, ⟨T1, L1, k1, n1⟩, -, X1, ⟨Lc1, hQ1, l1, y1, z1⟩, st1⟩ := Jvm.LawKit.callS X0 hx (y := y17) hown (wz hZ hw 92 rfl) (wz hZ hw 93 rfl) (wz hZ hw 90 rfl) (wz hZ hw 94 rfl) (by decide) (backOf (W := 0) (rm17 l Z a0 hw [] (46 : Int32) h0 n0 Z0 ) hZ (wq hw 94 rfl) (wq hw 90 rfl) (by decide) (by decide)) (g := (mkF m 1 #[sR o0, sI 46, sI 0, sI 2] [(.int 46)])) rfl (by rw [hml]; rfl) (argsL := [(.int 46)]) (rest := []) (lenOf pd_15 rfl) rfl (leW rfl) (hb hby d16_1) (fun _ _ => ⟨rfl, e0, (by decide : 0 + 0 ≤ _), (by decide : 0 + 0 ≤ _)⟩)
  dsimp only [Pt.U, Pt.locs, Pt.cells, Pt.slots] at X1 l1 y1 z1 st1 hQ1
  subst l1 y1 z1
  obtain ⟨rfl, N1q, e1⟩ := hQ1
  have hv1 : (f17 (46 : Int32)) = (1 : Int32) := by unfold f17; decide
  rw [hv1] at st1
  have N1 := Fr.app N0 N1q
  refine Go.via st1 ?_
  refine Vi (T1.setTop (mkF m 11 #[sR o0, sI 46, sI 0, sI 2] [(.int 0), (.int 0)])) (fun tZ kZ => ?_) ?_
  · refine XS.ifYes X1.here hx rfl (pc0 := 4) (pc' := 9) rfl (hb hby d16_4) rfl ((if0 _ _).trans (feq (by decide)).2) (by decide) (by decide) ?_
    refine XS.iloadN X1.here hx rfl (hb hby d16_9) rfl ?_
    refine XS.iconst X1.here hx rfl (hb hby d16_10) ?_
    exact kZ
  obtain ⟨_, _, ⟨T2, L2, k2, n2⟩, -, X2, ⟨Lc2, hQ2, l2, y2, z2⟩, st2⟩ := Jvm.LawKit.callS X1 hx (y := y18) hown (wz hZ hw 95 rfl) (wz hZ hw 96 rfl) (wz hZ hw 97 rfl) (wz hZ hw 98 rfl) (by decide) (backOf (W := 0) (rm18 l Z a0 hw [] (0 : Int32) (0 : Int32) h0 n0 Z0 ) hZ (wq hw 98 rfl) (wq hw 97 rfl) (by decide) (by decide)) (g := (mkF m 11 #[sR o0, sI 46, sI 0, sI 2] [(.int 0), (.int 0)])) rfl (by rw [hml]; rfl) (argsL := [(.int 0), (.int 0)]) (rest := []) (lenOf pd_10 rfl) rfl (leW rfl) (hb hby d16_11) (fun _ _ => ⟨rfl, e1, (by decide : 0 + 0 + 0 ≤ _), (by decide : 0 + 0 + 0 ≤ _)⟩)
  dsimp only [Pt.U, Pt.locs, Pt.cells, Pt.slots] at X2 l2 y2 z2 st2 hQ2
  subst l2 y2 z2
  obtain ⟨rfl, N2q, e2⟩ := hQ2
  have hv2 : (f18 (0 : Int32) (0 : Int32)) = (0 : Int32) := by unfold f18; decide
  rw [hv2] at st2
  have N2 := Fr.app N1 N2q
  refine Go.via st2 ?_
  refine Vi (T2.setTop (mkF m 18 #[sR o0, sI 46, sI 0, sI 2] [(.int 2), (.int 2)])) (fun tZ kZ => ?_) ?_
  · refine XS.istoreN X2.here hx rfl (hb hby d16_14) rfl (l' := #[sR o0, sI 46, sI 0, sI 2]) rfl ?_
    refine XS.iloadN X2.here hx rfl (hb hby d16_15) rfl ?_
    refine XS.aloadN X2.here hx rfl (hb hby d16_16) rfl rfl ?_
    refine AV.len ha0 X2 hx hZ e2 (hb hby d16_17) ?_
    exact kZ
  obtain ⟨_, _, ⟨T3, L3, k3, n3⟩, -, X3, ⟨Lc3, hQ3, l3, y3, z3⟩, st3⟩ := Jvm.LawKit.callS X2 hx (y := y19) hown (wz hZ hw 99 rfl) (wz hZ hw 100 rfl) (wz hZ hw 97 rfl) (wz hZ hw 101 rfl) (by decide) (backOf (W := 0) (rm19 l Z a0 hw [] (2 : Int32) (2 : Int32) h0 n0 Z0 ) hZ (wq hw 101 rfl) (wq hw 97 rfl) (by decide) (by decide)) (g := (mkF m 18 #[sR o0, sI 46, sI 0, sI 2] [(.int 2), (.int 2)])) rfl (by rw [hml]; rfl) (argsL := [(.int 2), (.int 2)]) (rest := []) (lenOf pd_10 rfl) rfl (leW rfl) (hb hby d16_18) (fun _ _ => ⟨rfl, e2, (by decide : 0 + 0 + 0 + 0 ≤ _), (by decide : 0 + 0 + 0 + 0 ≤ _)⟩)
  dsimp only [Pt.U, Pt.locs, Pt.cells, Pt.slots] at X3 l3 y3 z3 st3 hQ3
  subst l3 y3 z3
  obtain ⟨rfl, N3q, e3⟩ := hQ3
  have hv3 : (f19 (2 : Int32) (2 : Int32)) = (2 : Int32) := by unfold f19; decide
  rw [hv3] at st3
  have N3 := Fr.app N2 N3q
  refine Go.via st3 ?_
  refine Vi (T3.setTop (mkF m 33 #[sR o0, sI 46, sI 0, sI 2] [(.int 2), (.int 0), (.int 46), (.ref o0)])) (fun tZ kZ => ?_) ?_
  · refine XS.istoreN X3.here hx rfl (hb hby d16_21) rfl (l' := #[sR o0, sI 46, sI 0, sI 2]) rfl ?_
    refine XS.iloadN X3.here hx rfl (hb hby d16_22) rfl ?_
    refine XS.iloadN X3.here hx rfl (hb hby d16_23) rfl ?_
    refine XS.icmpYes X3.here hx rfl (pc0 := 24) (pc' := 29) rfl (hb hby d16_24) rfl (tlt (by decide)).1 (by decide) (by decide) ?_
    refine XS.aloadN X3.here hx rfl (hb hby d16_29) rfl rfl ?_
    refine XS.iloadN X3.here hx rfl (hb hby d16_30) rfl ?_
    refine XS.iloadN X3.here hx rfl (hb hby d16_31) rfl ?_
    refine XS.iloadN X3.here hx rfl (hb hby d16_32) rfl ?_
    exact kZ
  obtain ⟨_, _, ⟨T4, L4, k4, n4⟩, -, X4, ⟨Lc4, hQ4, l4, y4, z4⟩, st4⟩ := Jvm.LawKit.callS X3 hx (y := y23) hown (wz hZ hw 113 rfl) (wz hZ hw 114 rfl) (wz hZ hw 90 rfl) (wz hZ hw 115 rfl) (by decide) (backOf (W := 0) (rm23n2 l Z a0 hw [] o0 fF h0 n0 Z0 ha0) hZ (wq hw 115 rfl) (wq hw 90 rfl) (by decide) (by decide)) (g := (mkF m 33 #[sR o0, sI 46, sI 0, sI 2] [(.int 2), (.int 0), (.int 46), (.ref o0)])) rfl (by rw [hml]; rfl) (argsL := [(.ref o0), (.int 46), (.int 0), (.int 2)]) (rest := []) (lenOf pd_14 rfl) rfl (leW rfl) (hb hby d16_33) (fun _ _ => ⟨rfl, e3, (by decide : 0 + 0 + 0 + 0 + 0 ≤ _), (by decide : 0 + 0 + 0 + 0 + 0 ≤ _)⟩)
  dsimp only [Pt.U, Pt.locs, Pt.cells, Pt.slots] at X4 l4 y4 z4 st4 hQ4
  subst l4 y4 z4
  obtain ⟨rfl, N4q, e4⟩ := hQ4
  have N4 := Fr.app N3 N4q
  refine Go.via st4 ?_
  refine Go.retI X4 hx Bd.notSynchronized Bd.returns (hb hby d16_36) (by decide) (by decide) ?_
  refine ⟨?_, N4, e4⟩
  show some ((.int (f23n2 o0 fF)) : Value) = some (.int (f16n2 o0 fF))
  rfl
def f12n2 (o0 : Addr) (b0 : Addr) (fF : Nat → Int32) (cs : Int32) : Int32 := (f16n2 b0 fF)
def Q12n2 (o0 : Addr) (b0 : Addr) (fF : Nat → Int32) (cs : Int32) (h0 : Heap) (n0 : Nat) (v : Option Value) (h : Heap) (L : List Loc) : Prop := v = some (.int (f12n2 o0 b0 fF cs)) ∧ Fr n0 L ∧ h = h0
theorem rm12n2 (l : Launch) (Z : State) (a0 : Array Value) (hw : HW a0 Z) (ws : List Jvm.Cond) (o0 : Addr) (b0 : Addr) (fF : Nat → Int32) (cs : Int32) (h0 : Heap) (n0 : Nat) (Z0 : n0 ≤ h0.size) (ha0 : Exa Z h0 o0 "java/lang/String") (ha1 : Fld Z h0 o0 "java/lang/String" "coder" "B" (.int 0)) (ha2 : Fld Z h0 o0 "java/lang/String" "value" "[B" (.ref b0)) (ha3 : AV Z h0 b0 .byte 2 (fun k => .int (fF k))) (ha4 : Sta Z h0 "java/lang/String" "COMPACT_STRINGS" "Z" (.int cs)) (hcs : ¬ cs = 0) :
    MetFree l y12 (head1 (Jvm.Cond.code y12 jdk_42_method_80_code 3 (some .int) :: ws) RM_2_0_0_32) (fun a U => a = #[(.ref o0), (.int 46), (.int 0)] ∧ Z.Warmed39 U.vm ∧ U.heap = h0) (fun _ _ _ _ _ => True) (fun _ U o U' => ∃ v L, o = .returned v ∧ Q12n2 o0 b0 fF cs h0 n0 v U'.heap L ∧ FrameEnd U o U' L RM_2_0_0_32.cells RM_2_0_0_32.slots) := by
  refine MetFree.of_bodySF (plainFor_of_name pn_0) hisR ?_
  intro p e s m args below meth c s₁ Bd hml0 hP hK
  obtain ⟨rfl, hZ, hh⟩ := hP
  have hx := Bd.exec
  have hby := Bd.bytes
  have hml : c.maxLocals = 3 := hml0
  have hown : s.vm.findClass "java/lang/String" = some m.cls := findClass_of_methodNamed Bd.named
  have X0 : Stand p l e RM_2_0_0_32 s m _ below meth c s₁ [] 0 0 := Stand.of_body Bd
  have e0 : s₁.heap = h0 := by rw [← hh, Bd.state]; rfl
  have N0 := Fr.nil n0
  refine Go.into (P := fun oo uu => ∃ v L, oo = .returned v ∧ Q12n2 o0 b0 fF cs h0 n0 v uu.heap L ∧ FrameEnd s oo uu L RM_2_0_0_32.cells RM_2_0_0_32.slots) (ef_12_aaa m o0 (46 : Int32) (0 : Int32)) ?_
  show Go p e below _ (s₁.setTop (mkF m 0 #[sR o0, sI 46, sI 0] []))
  refine Vi (s₁.setTop (mkF m 1 #[sR o0, sI 46, sI 0] [(.ref o0)])) (fun tZ kZ => ?_) ?_
  · refine XS.aloadN X0.here hx rfl (hb hby d12_0) rfl rfl ?_
    exact kZ
  obtain ⟨cq1, kq1, q1a, q1b, q1c⟩ := isOf hZ e0 ha0
  obtain ⟨_, _, ⟨T1, L1, k1, n1⟩, -, X1, ⟨Lc1, hQ1, l1, y1, z1⟩, st1⟩ := X0.virtualBack hx (y := y13) (z := y13) hown (wz hZ hw 72 rfl) (wz hZ hw 73 rfl) (notFace_of_selects (args := #[]) (wz hZ hw 75 rfl)) (wz hZ hw 75 rfl) (wz hZ hw 74 rfl) (by decide) (backOf (W := 0) (rm13 l Z a0 hw [] o0 cs h0 n0 Z0 ha1 ha4 hcs) hZ (wq hw 76 rfl) (wq hw 10 rfl) (by decide) (by decide)) q1a q1c (g := (mkF m 1 #[sR o0, sI 46, sI 0] [(.ref o0)])) rfl (by rw [hml]; rfl) (Steps.refl _) (argsL := []) (rest := []) (lenOf pd_11 rfl) rfl (leW rfl) (hb hby d12_1) (fun _ _ => ⟨rfl, e0, (by decide : 0 + 0 ≤ _), (by decide : 0 + 0 ≤ _)⟩)
  dsimp only [Pt.U, Pt.locs, Pt.cells, Pt.slots] at X1 l1 y1 z1 st1 hQ1
  subst l1 y1 z1
  obtain ⟨rfl, N1q, e1⟩ := hQ1
  have hv1 : (f13 o0 cs) = (1 : Int32) := by unfold f13; decide
  rw [hv1] at st1
  have N1 := Fr.app N0 N1q
  refine Go.via (fun t k => st1.trans k) ?_
  refine Vi (T1.setTop (mkF m 8 #[sR o0, sI 46, sI 0] [(.ref o0)])) (fun tZ kZ => ?_) ?_
  · refine XS.ifNo X1.here hx rfl (hb hby d12_4) rfl ((if0 _ _).trans (feq (by decide)).1) ?_
    refine XS.aloadN X1.here hx rfl (hb hby d12_7) rfl rfl ?_
    exact kZ
  obtain ⟨T2, X2, e2, st2⟩ := getF X1 hx hZ hown (host := "") (Or.inl (wq hw 28 rfl)) Via.refl e1 ha2 (g := (mkF m 8 #[sR o0, sI 46, sI 0] [(.ref o0)])) rfl rfl (hb hby d12_8)
  refine Go.via st2 ?_
  refine Vi (T2.setTop (mkF m 14 #[sR o0, sI 46, sI 0] [(.ref o0), (.int 0), (.int 46), (.ref b0)])) (fun tZ kZ => ?_) ?_
  · refine XS.iloadN X2.here hx rfl (hb hby d12_11) rfl ?_
    refine XS.iloadN X2.here hx rfl (hb hby d12_12) rfl ?_
    refine XS.aloadN X2.here hx rfl (hb hby d12_13) rfl rfl ?_
    exact kZ
  obtain ⟨cq3, kq3, q3a, q3b, q3c⟩ := isOf hZ e2 ha0
  obtain ⟨_, _, ⟨T3, L3, k3, n3⟩, -, X3, ⟨Lc3, hQ3, l3, y3, z3⟩, st3⟩ := X2.virtualBack hx (y := y14) (z := y14) hown (wz hZ hw 78 rfl) (wz hZ hw 79 rfl) (notFace_of_selects (args := #[]) (wz hZ hw 81 rfl)) (wz hZ hw 81 rfl) (wz hZ hw 80 rfl) (by decide) (backOf (W := 3) (rm14 l Z a0 hw [] o0 b0 2 fF cs h0 n0 Z0 ha0 ha1 ha2 ha3 ha4 hcs) hZ (wq hw 82 rfl) (wq hw 10 rfl) (by decide) (by decide)) q3a q3c (g := (mkF m 14 #[sR o0, sI 46, sI 0] [(.ref o0), (.int 0), (.int 46), (.ref b0)])) rfl (by rw [hml]; rfl) (Steps.refl _) (argsL := []) (rest := [(.int 0), (.int 46), (.ref b0)]) (lenOf pd_12 rfl) rfl (leW rfl) (hb hby d12_14) (fun _ _ => ⟨rfl, e2, (by decide : 0 + 0 + 0 ≤ _), (by decide : 0 + 0 + 0 ≤ _)⟩)
  dsimp only [Pt.U, Pt.locs, Pt.cells, Pt.slots] at X3 l3 y3 z3 st3 hQ3
  subst l3 y3 z3
  obtain ⟨rfl, N3q, e3⟩ := hQ3
  have hv3 : (f14 o0 b0 2 fF cs) = (Int32.ofNat 2) := by unfold f14; exact own_sh0 _
  rw [hv3] at st3
  have N3 := Fr.app N1 N3q
  refine Go.via (fun t k => st3.trans k) ?_
  obtain ⟨_, _, ⟨T4, L4, k4, n4⟩, -, X4, ⟨Lc4, hQ4, l4, y4, z4⟩, st4⟩ := Jvm.LawKit.callS X3 hx (y := y16) hown (wz hZ hw 88 rfl) (wz hZ hw 89 rfl) (wz hZ hw 90 rfl) (wz hZ hw 91 rfl) (by decide) (backOf (W := 0) (rm16n2 l Z a0 hw [] b0 fF h0 n0 Z0 ha3) hZ (wq hw 91 rfl) (wq hw 90 rfl) (by decide) (by decide)) (g := (mkF m 17 #[sR o0, sI 46, sI 0] [(.int 2), (.int 0), (.int 46), (.ref b0)])) rfl (by rw [hml]; rfl) (argsL := [(.ref b0), (.int 46), (.int 0), (.int 2)]) (rest := []) (lenOf pd_14 rfl) rfl (leW rfl) (hb hby d12_17) (fun _ _ => ⟨rfl, e3, (by decide : 0 + 0 + 0 + 0 ≤ _), (by decide : 0 + 0 + 0 + 0 ≤ _)⟩)
  dsimp only [Pt.U, Pt.locs, Pt.cells, Pt.slots] at X4 l4 y4 z4 st4 hQ4
  subst l4 y4 z4
  obtain ⟨rfl, N4q, e4⟩ := hQ4
  have N4 := Fr.app N3 N4q
  refine Go.via st4 ?_
  refine Vi (T4.setTop (mkF m 36 #[sR o0, sI 46, sI 0] [(.int (f16n2 b0 fF))])) (fun tZ kZ => ?_) ?_
  · refine XS.goto X4.here hx rfl (pc0 := 20) (pc' := 36) rfl (hb hby d12_20) (by decide) (by decide) ?_
    exact kZ
  refine Go.retI X4 hx Bd.notSynchronized Bd.returns (hb hby d12_36) (by decide) (by decide) ?_
  refine ⟨?_, N4, e4⟩
  show some ((.int (f16n2 b0 fF)) : Value) = some (.int (f12n2 o0 b0 fF cs))
  rfl
def f11n2 (o0 : Addr) (b0 : Addr) (fF : Nat → Int32) (cs : Int32) : Int32 := (f12n2 o0 b0 fF cs)
def Q11n2 (o0 : Addr) (b0 : Addr) (fF : Nat → Int32) (cs : Int32) (h0 : Heap) (n0 : Nat) (v : Option Value) (h : Heap) (L : List Loc) : Prop := v = some (.int (f11n2 o0 b0 fF cs)) ∧ Fr n0 L ∧ h = h0
theorem rm11n2 (l : Launch) (Z : State) (a0 : Array Value) (hw : HW a0 Z) (ws : List Jvm.Cond) (o0 : Addr) (b0 : Addr) (fF : Nat → Int32) (cs : Int32) (h0 : Heap) (n0 : Nat) (Z0 : n0 ≤ h0.size) (ha0 : Exa Z h0 o0 "java/lang/String") (ha1 : Fld Z h0 o0 "java/lang/String" "coder" "B" (.int 0)) (ha2 : Fld Z h0 o0 "java/lang/String" "value" "[B" (.ref b0)) (ha3 : AV Z h0 b0 .byte 2 (fun k => .int (fF k))) (ha4 : Sta Z h0 "java/lang/String" "COMPACT_STRINGS" "Z" (.int cs)) (hcs : ¬ cs = 0) :
    MetFree l y11 (head1 (Jvm.Cond.code y11 jdk_42_method_79_code 2 (some .int) :: ws) RM_3_0_0_46) (fun a U => a = #[(.ref o0), (.int 46)] ∧ Z.Warmed39 U.vm ∧ U.heap = h0) (fun _ _ _ _ _ => True) (fun _ U o U' => ∃ v L, o = .returned v ∧ Q11n2 o0 b0 fF cs h0 n0 v U'.heap L ∧ FrameEnd U o U' L RM_3_0_0_46.cells RM_3_0_0_46.slots) := by
  refine MetFree.of_bodySF (plainFor_of_name pn_0) hisR ?_
  intro p e s m args below meth c s₁ Bd hml0 hP hK
  obtain ⟨rfl, hZ, hh⟩ := hP
  have hx := Bd.exec
  have hby := Bd.bytes
  have hml : c.maxLocals = 2 := hml0
  have hown : s.vm.findClass "java/lang/String" = some m.cls := findClass_of_methodNamed Bd.named
  have X0 : Stand p l e RM_3_0_0_46 s m _ below meth c s₁ [] 0 0 := Stand.of_body Bd
  have e0 : s₁.heap = h0 := by rw [← hh, Bd.state]; rfl
  have N0 := Fr.nil n0
  refine Go.into (P := fun oo uu => ∃ v L, oo = .returned v ∧ Q11n2 o0 b0 fF cs h0 n0 v uu.heap L ∧ FrameEnd s oo uu L RM_3_0_0_46.cells RM_3_0_0_46.slots) (ef_11_aa m o0 (46 : Int32)) ?_
  show Go p e below _ (s₁.setTop (mkF m 0 #[sR o0, sI 46] []))
  refine Vi (s₁.setTop (mkF m 3 #[sR o0, sI 46] [(.int 0), (.int 46), (.ref o0)])) (fun tZ kZ => ?_) ?_
  · refine XS.aloadN X0.here hx rfl (hb hby d11_0) rfl rfl ?_
    refine XS.iloadN X0.here hx rfl (hb hby d11_1) rfl ?_
    refine XS.iconst X0.here hx rfl (hb hby d11_2) ?_
    exact kZ
  obtain ⟨cq1, kq1, q1a, q1b, q1c⟩ := isOf hZ e0 ha0
  obtain ⟨_, _, ⟨T1, L1, k1, n1⟩, -, X1, ⟨Lc1, hQ1, l1, y1, z1⟩, st1⟩ := X0.virtualBack hx (y := y12) (z := y12) hown (wz hZ hw 67 rfl) (wz hZ hw 68 rfl) (notFace_of_selects (args := #[]) (wz hZ hw 70 rfl)) (wz hZ hw 70 rfl) (wz hZ hw 69 rfl) (by decide) (backOf (W := 0) (rm12n2 l Z a0 hw [] o0 b0 fF cs h0 n0 Z0 ha0 ha1 ha2 ha3 ha4 hcs) hZ (wq hw 71 rfl) (wq hw 10 rfl) (by decide) (by decide)) q1a q1c (g := (mkF m 3 #[sR o0, sI 46] [(.int 0), (.int 46), (.ref o0)])) rfl (by rw [hml]; rfl) (Steps.refl _) (argsL := [(.int 46), (.int 0)]) (rest := []) (lenOf pd_10 rfl) rfl (leW rfl) (hb hby d11_3) (fun _ _ => ⟨rfl, e0, (by decide : 0 + 0 ≤ _), (by decide : 0 + 0 ≤ _)⟩)
  dsimp only [Pt.U, Pt.locs, Pt.cells, Pt.slots] at X1 l1 y1 z1 st1 hQ1
  subst l1 y1 z1
  obtain ⟨rfl, N1q, e1⟩ := hQ1
  have N1 := Fr.app N0 N1q
  refine Go.via (fun t k => st1.trans k) ?_
  refine Go.retI X1 hx Bd.notSynchronized Bd.returns (hb hby d11_6) (by decide) (by decide) ?_
  refine ⟨?_, N1, e1⟩
  show some ((.int (f12n2 o0 b0 fF cs)) : Value) = some (.int (f11n2 o0 b0 fF cs))
  rfl
theorem own_l2_0 (sn b0 : Addr) (fF : Nat → Int32) (cs : Int32) (h0 : ¬ fF (0 : Int32).toNatClampNeg = ((46 : Int32).toInt8.toInt32)) (h1 : ¬ fF (1 : Int32).toNatClampNeg = ((46 : Int32).toInt8.toInt32)) : (f11n2 sn b0 fF cs) = (-1 : Int32) := by unfold f11n2 f12n2 f16n2; unfold f23n2; rw [if_neg h0, if_neg h1]; try rfl
theorem own_l2_1 (sn b0 : Addr) (fF : Nat → Int32) (cs : Int32) (h0 : fF (0 : Int32).toNatClampNeg = ((46 : Int32).toInt8.toInt32)) : (f11n2 sn b0 fF cs) = (Int32.ofNat 0) := by unfold f11n2 f12n2 f16n2; unfold f23n2; rw [if_pos h0]; try rfl
theorem own_l2_2 (sn b0 : Addr) (fF : Nat → Int32) (cs : Int32) (h0 : ¬ fF (0 : Int32).toNatClampNeg = ((46 : Int32).toInt8.toInt32)) (h1 : fF (1 : Int32).toNatClampNeg = ((46 : Int32).toInt8.toInt32)) : (f11n2 sn b0 fF cs) = (Int32.ofNat 1) := by unfold f11n2 f12n2 f16n2; unfold f23n2; rw [if_neg h0, if_pos h1]; try rfl
def Q21n3 (Z : State) (o0 : Addr) (o2 : Addr) (cF : Nat → Int32) (bF : Nat → Int32) (h0 : Heap) (n0 : Nat) (v : Option Value) (h : Heap) (L : List Loc) : Prop := v = some (.int 3) ∧ Fr n0 L ∧ Keep h0 h [o2] ∧ AV Z h o0 .char 3 (fun k => .int (cF k)) ∧ AV Z h o2 .byte 3 (fun k => .int ((up (up (up bF (0 : Int32).toNatClampNeg (nar .byte ((cF (0 : Int32).toNatClampNeg).toInt8.toInt32))) (1 : Int32).toNatClampNeg (nar .byte ((cF (1 : Int32).toNatClampNeg).toInt8.toInt32))) (2 : Int32).toNatClampNeg (nar .byte ((cF (2 : Int32).toNatClampNeg).toInt8.toInt32))) k))
theorem rm21n3 (l : Launch) (Z : State) (a0 : Array Value) (hw : HW a0 Z) (ws : List Jvm.Cond) (o0 : Addr) (o2 : Addr) (cF : Nat → Int32) (bF : Nat → Int32) (h0 : Heap) (n0 : Nat) (Z0 : n0 ≤ h0.size) (ha0 : AV Z h0 o0 .char 3 (fun k => .int (cF k))) (ha1 : AV Z h0 o2 .byte 3 (fun k => .int (bF k))) (ha2 : n0 ≤ o2) (hne_o0_o2 : o0 ≠ o2) (hch0 : ¬ (255 : Int32) < (cF (0 : Int32).toNatClampNeg)) (hch1 : ¬ (255 : Int32) < (cF (1 : Int32).toNatClampNeg)) (hch2 : ¬ (255 : Int32) < (cF (2 : Int32).toNatClampNeg)) :
    MetFree l y21 (head1 (Jvm.Cond.code y21 jdk_52_method_21_code 7 (some .int) :: ws) RM_0_0_0_0) (fun a U => a = #[(.ref o0), (.int 0), (.ref o2), (.int 0), (.int 3)] ∧ Z.Warmed39 U.vm ∧ U.heap = h0) (fun _ _ _ _ _ => True) (fun _ U o U' => ∃ v L, o = .returned v ∧ Q21n3 Z o0 o2 cF bF h0 n0 v U'.heap L ∧ FrameEnd U o U' L RM_0_0_0_0.cells RM_0_0_0_0.slots) := by
  refine MetFree.of_bodySF (plainFor_of_name pn_7) hisR ?_
  intro p e s m args below meth c s₁ Bd hml0 hP hK
  obtain ⟨rfl, hZ, hh⟩ := hP
  have hx := Bd.exec
  have hby := Bd.bytes
  have hml : c.maxLocals = 7 := hml0
  have hown : s.vm.findClass "java/lang/StringUTF16" = some m.cls := findClass_of_methodNamed Bd.named
  have X0 : Stand p l e RM_0_0_0_0 s m _ below meth c s₁ [] 0 0 := Stand.of_body Bd
  have e0 : s₁.heap = h0 := by rw [← hh, Bd.state]; rfl
  have N0 := Fr.nil n0
  refine Go.into (P := fun oo uu => ∃ v L, oo = .returned v ∧ Q21n3 Z o0 o2 cF bF h0 n0 v uu.heap L ∧ FrameEnd s oo uu L RM_0_0_0_0.cells RM_0_0_0_0.slots) (ef_21_aaaaa m o0 (0 : Int32) o2 (0 : Int32) (3 : Int32)) ?_
  show Go p e below _ (s₁.setTop (mkF m 0 #[sR o0, sI 0, sR o2, sI 0, sI 3, .unset, .unset] []))
  refine Vi (s₁.setTop (mkF m 31 #[sR o0, sI 0, sR o2, sI 0, sI 3, sI 0, sI (cF (0 : Int32).toNatClampNeg)] [(.int ((cF (0 : Int32).toNatClampNeg).toInt8.toInt32)), (.int 0), (.ref o2)])) (fun tZ kZ => ?_) ?_
  · refine XS.iconst X0.here hx rfl (hb hby d21_0) ?_
    refine XS.istore X0.here hx rfl (hb hby d21_1) rfl (l' := #[sR o0, sI 0, sR o2, sI 0, sI 3, sI 0, .unset]) rfl ?_
    refine XS.iload X0.here hx rfl (hb hby d21_3) rfl ?_
    refine XS.iload X0.here hx rfl (hb hby d21_5) rfl ?_
    refine XS.icmpNo X0.here hx rfl (hb hby d21_7) rfl (tlt (by decide)).2.1 ?_
    refine XS.aloadN X0.here hx rfl (hb hby d21_10) rfl rfl ?_
    refine XS.iloadN X0.here hx rfl (hb hby d21_11) rfl ?_
    refine AV.caload ha0 X0 hx hZ e0 (j := (0 : Int32)) (by decide) (hb hby d21_12) ?_
    refine XS.istore X0.here hx rfl (hb hby d21_13) rfl (l' := #[sR o0, sI 0, sR o2, sI 0, sI 3, sI 0, sI (cF (0 : Int32).toNatClampNeg)]) rfl ?_
    refine XS.iload X0.here hx rfl (hb hby d21_15) rfl ?_
    refine XS.sipush X0.here hx rfl (hb hby d21_17) ?_
    refine XS.icmpYes X0.here hx rfl (pc0 := 20) (pc' := 26) rfl (hb hby d21_20) rfl (flt hch0).2.2.2 (by decide) (by decide) ?_
    refine XS.aloadN X0.here hx rfl (hb hby d21_26) rfl rfl ?_
    refine XS.iloadN X0.here hx rfl (hb hby d21_27) rfl ?_
    refine XS.iload X0.here hx rfl (hb hby d21_28) rfl ?_
    refine XS.i2b X0.here hx rfl (hb hby d21_30) rfl ?_
    exact kZ
  obtain ⟨T1, h1, X1, e1, W1, V1, st1⟩ := AV.bastoreB ha1 X0 hx hZ e0 (j := (0 : Int32)) (by decide) (Ls := #[sR o0, sI 0, sR o2, sI 0, sI 3, sI 0, sI (cF (0 : Int32).toNatClampNeg)]) (rest := []) (hb hby d21_31) (x := ((cF (0 : Int32).toNatClampNeg).toInt8.toInt32))
  have N1 := Fr.snoc X1 N0 ha2
  have c2_0 := ha0.other W1 hne_o0_o2
  have K1 : Keep h0 h1 [o2] := (Keep.refl h0 [o2]).wr W1 (Or.inl (by simp))
  have Z1 := Nat.le_trans Z0 (Keep.of_wr W1).1
  refine Go.via st1 ?_
  refine Vi (T1.setTop (mkF m 31 #[sR o0, sI 1, sR o2, sI 1, sI 3, sI 1, sI (cF (1 : Int32).toNatClampNeg)] [(.int ((cF (1 : Int32).toNatClampNeg).toInt8.toInt32)), (.int 1), (.ref o2)])) (fun tZ kZ => ?_) ?_
  · refine XS.iinc X1.here hx rfl (hb hby d21_32) rfl (l' := #[sR o0, sI 1, sR o2, sI 0, sI 3, sI 0, sI (cF (0 : Int32).toNatClampNeg)]) rfl ?_
    refine XS.iinc X1.here hx rfl (hb hby d21_35) rfl (l' := #[sR o0, sI 1, sR o2, sI 1, sI 3, sI 0, sI (cF (0 : Int32).toNatClampNeg)]) rfl ?_
    refine XS.iinc X1.here hx rfl (hb hby d21_38) rfl (l' := #[sR o0, sI 1, sR o2, sI 1, sI 3, sI 1, sI (cF (0 : Int32).toNatClampNeg)]) rfl ?_
    refine XS.goto X1.here hx rfl (pc0 := 41) (pc' := 3) rfl (hb hby d21_41) (by decide) (by decide) ?_
    refine XS.iload X1.here hx rfl (hb hby d21_3) rfl ?_
    refine XS.iload X1.here hx rfl (hb hby d21_5) rfl ?_
    refine XS.icmpNo X1.here hx rfl (hb hby d21_7) rfl (tlt (by decide)).2.1 ?_
    refine XS.aloadN X1.here hx rfl (hb hby d21_10) rfl rfl ?_
    refine XS.iloadN X1.here hx rfl (hb hby d21_11) rfl ?_
    refine AV.caload c2_0 X1 hx hZ e1 (j := (1 : Int32)) (by decide) (hb hby d21_12) ?_
    refine XS.istore X1.here hx rfl (hb hby d21_13) rfl (l' := #[sR o0, sI 1, sR o2, sI 1, sI 3, sI 1, sI (cF (1 : Int32).toNatClampNeg)]) rfl ?_
    refine XS.iload X1.here hx rfl (hb hby d21_15) rfl ?_
    refine XS.sipush X1.here hx rfl (hb hby d21_17) ?_
    refine XS.icmpYes X1.here hx rfl (pc0 := 20) (pc' := 26) rfl (hb hby d21_20) rfl (flt hch1).2.2.2 (by decide) (by decide) ?_
    refine XS.aloadN X1.here hx rfl (hb hby d21_26) rfl rfl ?_
    refine XS.iloadN X1.here hx rfl (hb hby d21_27) rfl ?_
    refine XS.iload X1.here hx rfl (hb hby d21_28) rfl ?_
    refine XS.i2b X1.here hx rfl (hb hby d21_30) rfl ?_
    exact kZ
  obtain ⟨T3, h3, X3, e3, W3, V3, st3⟩ := AV.bastoreB V1 X1 hx hZ e1 (j := (1 : Int32)) (by decide) (Ls := #[sR o0, sI 1, sR o2, sI 1, sI 3, sI 1, sI (cF (1 : Int32).toNatClampNeg)]) (rest := []) (hb hby d21_31) (x := ((cF (1 : Int32).toNatClampNeg).toInt8.toInt32))
  have N3 := Fr.snoc X3 N1 ha2
  have c4_0 := c2_0.other W3 hne_o0_o2
  have K3 : Keep h0 h3 [o2] := K1.wr W3 (Or.inl (by simp))
  have Z3 := Nat.le_trans Z1 (Keep.of_wr W3).1
  refine Go.via st3 ?_
  refine Vi (T3.setTop (mkF m 31 #[sR o0, sI 2, sR o2, sI 2, sI 3, sI 2, sI (cF (2 : Int32).toNatClampNeg)] [(.int ((cF (2 : Int32).toNatClampNeg).toInt8.toInt32)), (.int 2), (.ref o2)])) (fun tZ kZ => ?_) ?_
  · refine XS.iinc X3.here hx rfl (hb hby d21_32) rfl (l' := #[sR o0, sI 2, sR o2, sI 1, sI 3, sI 1, sI (cF (1 : Int32).toNatClampNeg)]) rfl ?_
    refine XS.iinc X3.here hx rfl (hb hby d21_35) rfl (l' := #[sR o0, sI 2, sR o2, sI 2, sI 3, sI 1, sI (cF (1 : Int32).toNatClampNeg)]) rfl ?_
    refine XS.iinc X3.here hx rfl (hb hby d21_38) rfl (l' := #[sR o0, sI 2, sR o2, sI 2, sI 3, sI 2, sI (cF (1 : Int32).toNatClampNeg)]) rfl ?_
    refine XS.goto X3.here hx rfl (pc0 := 41) (pc' := 3) rfl (hb hby d21_41) (by decide) (by decide) ?_
    refine XS.iload X3.here hx rfl (hb hby d21_3) rfl ?_
    refine XS.iload X3.here hx rfl (hb hby d21_5) rfl ?_
    refine XS.icmpNo X3.here hx rfl (hb hby d21_7) rfl (tlt (by decide)).2.1 ?_
    refine XS.aloadN X3.here hx rfl (hb hby d21_10) rfl rfl ?_
    refine XS.iloadN X3.here hx rfl (hb hby d21_11) rfl ?_
    refine AV.caload c4_0 X3 hx hZ e3 (j := (2 : Int32)) (by decide) (hb hby d21_12) ?_
    refine XS.istore X3.here hx rfl (hb hby d21_13) rfl (l' := #[sR o0, sI 2, sR o2, sI 2, sI 3, sI 2, sI (cF (2 : Int32).toNatClampNeg)]) rfl ?_
    refine XS.iload X3.here hx rfl (hb hby d21_15) rfl ?_
    refine XS.sipush X3.here hx rfl (hb hby d21_17) ?_
    refine XS.icmpYes X3.here hx rfl (pc0 := 20) (pc' := 26) rfl (hb hby d21_20) rfl (flt hch2).2.2.2 (by decide) (by decide) ?_
    refine XS.aloadN X3.here hx rfl (hb hby d21_26) rfl rfl ?_
    refine XS.iloadN X3.here hx rfl (hb hby d21_27) rfl ?_
    refine XS.iload X3.here hx rfl (hb hby d21_28) rfl ?_
    refine XS.i2b X3.here hx rfl (hb hby d21_30) rfl ?_
    exact kZ
  obtain ⟨T5, h5, X5, e5, W5, V5, st5⟩ := AV.bastoreB V3 X3 hx hZ e3 (j := (2 : Int32)) (by decide) (Ls := #[sR o0, sI 2, sR o2, sI 2, sI 3, sI 2, sI (cF (2 : Int32).toNatClampNeg)]) (rest := []) (hb hby d21_31) (x := ((cF (2 : Int32).toNatClampNeg).toInt8.toInt32))
  have N5 := Fr.snoc X5 N3 ha2
  have c6_0 := c4_0.other W5 hne_o0_o2
  have K5 : Keep h0 h5 [o2] := K3.wr W5 (Or.inl (by simp))
  have Z5 := Nat.le_trans Z3 (Keep.of_wr W5).1
  refine Go.via st5 ?_
  refine Vi (T5.setTop (mkF m 46 #[sR o0, sI 3, sR o2, sI 3, sI 3, sI 3, sI (cF (2 : Int32).toNatClampNeg)] [(.int 3)])) (fun tZ kZ => ?_) ?_
  · refine XS.iinc X5.here hx rfl (hb hby d21_32) rfl (l' := #[sR o0, sI 3, sR o2, sI 2, sI 3, sI 2, sI (cF (2 : Int32).toNatClampNeg)]) rfl ?_
    refine XS.iinc X5.here hx rfl (hb hby d21_35) rfl (l' := #[sR o0, sI 3, sR o2, sI 3, sI 3, sI 2, sI (cF (2 : Int32).toNatClampNeg)]) rfl ?_
    refine XS.iinc X5.here hx rfl (hb hby d21_38) rfl (l' := #[sR o0, sI 3, sR o2, sI 3, sI 3, sI 3, sI (cF (2 : Int32).toNatClampNeg)]) rfl ?_
    refine XS.goto X5.here hx rfl (pc0 := 41) (pc' := 3) rfl (hb hby d21_41) (by decide) (by decide) ?_
    refine XS.iload X5.here hx rfl (hb hby d21_3) rfl ?_
    refine XS.iload X5.here hx rfl (hb hby d21_5) rfl ?_
    refine XS.icmpYes X5.here hx rfl (pc0 := 7) (pc' := 44) rfl (hb hby d21_7) rfl (flt (by decide)).2.1 (by decide) (by decide) ?_
    refine XS.iload X5.here hx rfl (hb hby d21_44) rfl ?_
    exact kZ
  refine Go.retI X5 hx Bd.notSynchronized Bd.returns (hb hby d21_46) (by decide) (by decide) ?_
  rw [e5]
  exact ⟨rfl, N5, K5, c6_0, V5⟩
def Q20n3 (Z : State) (o0 : Addr) (cF : Nat → Int32) (h0 : Heap) (n0 : Nat) (v : Option Value) (h : Heap) (L : List Loc) : Prop := ∃ b1 : Addr, v = some (.ref b1) ∧ Fr n0 L ∧ Keep h0 h [] ∧ h0.size ≤ b1 ∧ AV Z h o0 .char 3 (fun k => .int (cF k)) ∧ AV Z h b1 .byte 3 (fun k => .int ((up (up (up (fun _ => (0 : Int32)) (0 : Int32).toNatClampNeg (nar .byte ((cF (0 : Int32).toNatClampNeg).toInt8.toInt32))) (1 : Int32).toNatClampNeg (nar .byte ((cF (1 : Int32).toNatClampNeg).toInt8.toInt32))) (2 : Int32).toNatClampNeg (nar .byte ((cF (2 : Int32).toNatClampNeg).toInt8.toInt32))) k))
abbrev RM_1_1_3_18 : Room := { frames := 1, cells := 1, slots := 3, locals := 18 }
theorem rm20n3 (l : Launch) (Z : State) (a0 : Array Value) (hw : HW a0 Z) (ws : List Jvm.Cond) (o0 : Addr) (cF : Nat → Int32) (h0 : Heap) (n0 : Nat) (Z0 : n0 ≤ h0.size) (ha0 : AV Z h0 o0 .char 3 (fun k => .int (cF k))) (hch0 : ¬ (255 : Int32) < (cF (0 : Int32).toNatClampNeg)) (hch1 : ¬ (255 : Int32) < (cF (1 : Int32).toNatClampNeg)) (hch2 : ¬ (255 : Int32) < (cF (2 : Int32).toNatClampNeg)) :
    MetFree l y20 (head1 (Jvm.Cond.code y20 jdk_52_method_16_code 6 (some (.array .byte)) :: ws) RM_1_1_3_18) (fun a U => a = #[(.ref o0), (.int 0), (.int 3)] ∧ Z.Warmed39 U.vm ∧ U.heap = h0) (fun _ _ _ _ _ => True) (fun _ U o U' => ∃ v L, o = .returned v ∧ Q20n3 Z o0 cF h0 n0 v U'.heap L ∧ FrameEnd U o U' L RM_1_1_3_18.cells RM_1_1_3_18.slots) := by
  refine MetFree.of_bodySF (plainFor_of_name pn_7) hisR ?_
  intro p e s m args below meth c s₁ Bd hml0 hP hK
  obtain ⟨rfl, hZ, hh⟩ := hP
  have hx := Bd.exec
  have hby := Bd.bytes
  have hml : c.maxLocals = 6 := hml0
  have hown : s.vm.findClass "java/lang/StringUTF16" = some m.cls := findClass_of_methodNamed Bd.named
  have X0 : Stand p l e RM_1_1_3_18 s m _ below meth c s₁ [] 0 0 := Stand.of_body Bd
  have e0 : s₁.heap = h0 := by rw [← hh, Bd.state]; rfl
  have N0 := Fr.nil n0
  refine Go.into (P := fun oo uu => ∃ v L, oo = .returned v ∧ Q20n3 Z o0 cF h0 n0 v uu.heap L ∧ FrameEnd s oo uu L RM_1_1_3_18.cells RM_1_1_3_18.slots) (ef_20_aaa m o0 (0 : Int32) (3 : Int32)) ?_
  show Go p e below _ (s₁.setTop (mkF m 0 #[sR o0, sI 0, sI 3, .unset, .unset, .unset] []))
  refine Vi (s₁.setTop (mkF m 1 #[sR o0, sI 0, sI 3, .unset, .unset, .unset] [(.int 3)])) (fun tZ kZ => ?_) ?_
  · refine XS.iloadN X0.here hx rfl (hb hby d20_0) rfl ?_
    exact kZ
  obtain ⟨T1, h1, k1, X1, e1, E1, A1, B1, st1⟩ := newPE X0 hx hZ (wq hw 23 rfl) e0 (g := (mkF m 1 #[sR o0, sI 0, sI 3, .unset, .unset, .unset] [(.int 3)])) rfl (hb hby d20_1) rfl (by decide) (cap := 3) (by decide) (by decide) (by decide) (by decide) (ad := "[B") rfl
  obtain ⟨b1, g1⟩ : ∃ z, z = h0.size := ⟨_, rfl⟩
  rw [← g1] at A1 B1 st1
  have g_b1 : n0 ≤ b1 := Nat.le_trans Z0 (Nat.le_of_eq g1.symm)
  have sz_b1 : h0.size ≤ b1 := Nat.le_trans ((Keep.refl h0 [])).1 (Nat.le_of_eq g1.symm)
  have ne_o0_b1 : o0 ≠ b1 := Nat.ne_of_lt (Nat.lt_of_lt_of_le ha0.lt (Nat.le_of_eq g1.symm))
  have c2_0 := ha0.ext E1
  have K1 : Keep h0 h1 [] := (Keep.refl h0 []).ext E1
  have Z1 := Nat.le_trans Z0 E1.1
  have V1 : AV Z h1 b1 .byte 3 (fun k => .int ((fun _ => (0 : Int32)) k)) := by have q := AV.new A1; exact q
  refine Go.via st1 ?_
  refine Vi (T1.setTop (mkF m 9 #[sR o0, sI 0, sI 3, sR b1, .unset, .unset] [(.int 3), (.int 0), (.ref b1), (.int 0), (.ref o0)])) (fun tZ kZ => ?_) ?_
  · refine XS.astoreN X1.here hx rfl (hb hby d20_3) rfl rfl (l' := #[sR o0, sI 0, sI 3, sR b1, .unset, .unset]) rfl ?_
    refine XS.aloadN X1.here hx rfl (hb hby d20_4) rfl rfl ?_
    refine XS.iloadN X1.here hx rfl (hb hby d20_5) rfl ?_
    refine XS.aloadN X1.here hx rfl (hb hby d20_6) rfl rfl ?_
    refine XS.iconst X1.here hx rfl (hb hby d20_7) ?_
    refine XS.iloadN X1.here hx rfl (hb hby d20_8) rfl ?_
    exact kZ
  obtain ⟨_, _, ⟨T3, L3, k3, n3⟩, -, X3, ⟨Lc3, hQ3, l3, y3, z3⟩, st3⟩ := Jvm.LawKit.callS X1 hx (y := y21) hown (wz hZ hw 107 rfl) (wz hZ hw 108 rfl) (wz hZ hw 105 rfl) (wz hZ hw 109 rfl) (by decide) (backOf (W := 0) (rm21n3 l Z a0 hw [] o0 b1 cF (fun _ => (0 : Int32)) h1 n0 Z1 c2_0 V1 g_b1 ne_o0_b1 hch0 hch1 hch2) hZ (wq hw 109 rfl) (wq hw 105 rfl) (by decide) (by decide)) (g := (mkF m 9 #[sR o0, sI 0, sI 3, sR b1, .unset, .unset] [(.int 3), (.int 0), (.ref b1), (.int 0), (.ref o0)])) rfl (by rw [hml]; rfl) (argsL := [(.ref o0), (.int 0), (.ref b1), (.int 0), (.int 3)]) (rest := []) (lenOf pd_17 rfl) rfl (leW rfl) (hb hby d20_9) (fun _ _ => ⟨rfl, e1, (by decide : 0 + 1 + 0 ≤ _), (by decide : 0 + 3 + 0 ≤ _)⟩)
  dsimp only [Pt.U, Pt.locs, Pt.cells, Pt.slots] at X3 l3 y3 z3 st3 hQ3
  subst l3 y3 z3
  obtain ⟨rfl, N3q, Kq3, f3_0, f3_1⟩ := hQ3
  have K3 : Keep h0 T3.heap [] := K1.trans Kq3 (allS (Or.inr sz_b1) all0)
  have Z3 := Nat.le_trans Z1 Kq3.1
  have N3 := Fr.app N0 N3q
  refine Go.via st3 ?_
  refine Vi (T3.setTop (mkF m 58 #[sR o0, sI 0, sI 3, sR b1, sI 3, .unset] [(.ref b1)])) (fun tZ kZ => ?_) ?_
  · refine XS.istore X3.here hx rfl (hb hby d20_12) rfl (l' := #[sR o0, sI 0, sI 3, sR b1, sI 3, .unset]) rfl ?_
    refine XS.iload X3.here hx rfl (hb hby d20_14) rfl ?_
    refine XS.iloadN X3.here hx rfl (hb hby d20_16) rfl ?_
    refine XS.icmpYes X3.here hx rfl (pc0 := 17) (pc' := 57) rfl (hb hby d20_17) rfl (teq (by decide)).1 (by decide) (by decide) ?_
    refine XS.aloadN X3.here hx rfl (hb hby d20_57) rfl rfl ?_
    exact kZ
  refine Go.retR X3 hx Bd.notSynchronized Bd.returns rfl rfl (hb hby d20_58) (by decide) (by decide) ?_
  exact ⟨b1, rfl, N3, K3, sz_b1, f3_0, f3_1⟩
def f22n3 (o0 : Addr) (bF : Nat → Int32) : Int32 := (nar .byte ((((0 : Int32).toUInt32 >>> ((31 : Int32) &&& 31).toUInt32).toInt32).toInt8.toInt32))
def Q22n3 (o0 : Addr) (bF : Nat → Int32) (h0 : Heap) (n0 : Nat) (v : Option Value) (h : Heap) (L : List Loc) : Prop := v = some (.int (f22n3 o0 bF)) ∧ Fr n0 L ∧ h = h0
theorem rm22n3 (l : Launch) (Z : State) (a0 : Array Value) (hw : HW a0 Z) (ws : List Jvm.Cond) (o0 : Addr) (bF : Nat → Int32) (h0 : Heap) (n0 : Nat) (Z0 : n0 ≤ h0.size) (ha0 : AV Z h0 o0 .byte 3 (fun k => .int (bF k))) :
    MetFree l y22 (head1 (Jvm.Cond.code y22 jdk_52_method_15_code 2 (some .byte) :: ws) RM_0_0_0_0) (fun a U => a = #[(.ref o0), (.int 3)] ∧ Z.Warmed39 U.vm ∧ U.heap = h0) (fun _ _ _ _ _ => True) (fun _ U o U' => ∃ v L, o = .returned v ∧ Q22n3 o0 bF h0 n0 v U'.heap L ∧ FrameEnd U o U' L RM_0_0_0_0.cells RM_0_0_0_0.slots) := by
  refine MetFree.of_bodySF (plainFor_of_name pn_7) hisR ?_
  intro p e s m args below meth c s₁ Bd hml0 hP hK
  obtain ⟨rfl, hZ, hh⟩ := hP
  have hx := Bd.exec
  have hby := Bd.bytes
  have hml : c.maxLocals = 2 := hml0
  have hown : s.vm.findClass "java/lang/StringUTF16" = some m.cls := findClass_of_methodNamed Bd.named
  have X0 : Stand p l e RM_0_0_0_0 s m _ below meth c s₁ [] 0 0 := Stand.of_body Bd
  have e0 : s₁.heap = h0 := by rw [← hh, Bd.state]; rfl
  have N0 := Fr.nil n0
  refine Go.into (P := fun oo uu => ∃ v L, oo = .returned v ∧ Q22n3 o0 bF h0 n0 v uu.heap L ∧ FrameEnd s oo uu L RM_0_0_0_0.cells RM_0_0_0_0.slots) (ef_22_aa m o0 (3 : Int32)) ?_
  show Go p e below _ (s₁.setTop (mkF m 0 #[sR o0, sI 3] []))
  refine Vi (s₁.setTop (mkF m 8 #[sR o0, sI 3] [(.int ((((0 : Int32).toUInt32 >>> ((31 : Int32) &&& 31).toUInt32).toInt32).toInt8.toInt32))])) (fun tZ kZ => ?_) ?_
  · refine XS.iloadN X0.here hx rfl (hb hby d22_0) rfl ?_
    refine XS.aloadN X0.here hx rfl (hb hby d22_1) rfl rfl ?_
    refine AV.len ha0 X0 hx hZ e0 (hb hby d22_2) ?_
    refine XS.isub X0.here hx rfl (hb hby d22_3) rfl ?_
    refine XS.bipush X0.here hx rfl (hb hby d22_4) ?_
    refine XS.iushr X0.here hx rfl (hb hby d22_6) rfl ?_
    refine XS.i2b X0.here hx rfl (hb hby d22_7) rfl ?_
    exact kZ
  refine Go.retN X0 hx Bd.notSynchronized (t := .byte) Bd.returns (by simp) (hb hby d22_8) (by decide) (by decide) ?_
  refine ⟨?_, N0, e0⟩
  show some ((Value.int (nar .byte ((((0 : Int32).toUInt32 >>> ((31 : Int32) &&& 31).toUInt32).toInt32).toInt8.toInt32))) : Value) = some (.int (f22n3 o0 bF))
  rfl
def Q4n3 (Z : State) (o0 : Addr) (o1 : Addr) (cF : Nat → Int32) (cs : Int32) (h0 : Heap) (n0 : Nat) (v : Option Value) (h : Heap) (L : List Loc) : Prop := ∃ b3_0 : Addr, v = none ∧ Fr n0 L ∧ Keep h0 h [o0] ∧ h0.size ≤ b3_0 ∧ Exa Z h o0 "java/lang/String" ∧ Fld Z h o0 "java/lang/String" "value" "[B" (.ref b3_0) ∧ Fld Z h o0 "java/lang/String" "coder" "B" (.int 0) ∧ AV Z h o1 .char 3 (fun k => .int (cF k)) ∧ Sta Z h "java/lang/String" "COMPACT_STRINGS" "Z" (.int cs) ∧ AV Z h b3_0 .byte 3 (fun k => .int ((up (up (up (fun _ => (0 : Int32)) (0 : Int32).toNatClampNeg (nar .byte ((cF (0 : Int32).toNatClampNeg).toInt8.toInt32))) (1 : Int32).toNatClampNeg (nar .byte ((cF (1 : Int32).toNatClampNeg).toInt8.toInt32))) (2 : Int32).toNatClampNeg (nar .byte ((cF (2 : Int32).toNatClampNeg).toInt8.toInt32))) k))
abbrev RM_2_1_3_35 : Room := { frames := 2, cells := 1, slots := 3, locals := 35 }
theorem rm4n3 (l : Launch) (Z : State) (a0 : Array Value) (hw : HW a0 Z) (ws : List Jvm.Cond) (o0 : Addr) (o1 : Addr) (cF : Nat → Int32) (cs : Int32) (h0 : Heap) (n0 : Nat) (Z0 : n0 ≤ h0.size) (ha0 : Exa Z h0 o0 "java/lang/String") (ha1 : Fld Z h0 o0 "java/lang/String" "value" "[B" .null) (ha2 : Fld Z h0 o0 "java/lang/String" "coder" "B" (.int 0)) (ha3 : n0 ≤ o0) (ha4 : AV Z h0 o1 .char 3 (fun k => .int (cF k))) (ha5 : Sta Z h0 "java/lang/String" "COMPACT_STRINGS" "Z" (.int cs)) (hne_o1_o0 : o1 ≠ o0) (hch0 : ¬ (255 : Int32) < (cF (0 : Int32).toNatClampNeg)) (hch1 : ¬ (255 : Int32) < (cF (1 : Int32).toNatClampNeg)) (hch2 : ¬ (255 : Int32) < (cF (2 : Int32).toNatClampNeg)) (hcs : ¬ cs = 0) :
    MetFree l y4 (head1 (Jvm.Cond.code y4 jdk_42_method_149_code 6 none :: ws) RM_2_1_3_35) (fun a U => a = #[(.ref o0), (.ref o1), (.int 0), (.int 3), .null] ∧ Z.Warmed39 U.vm ∧ U.heap = h0) (fun _ _ _ _ _ => True) (fun _ U o U' => ∃ v L, o = .returned v ∧ Q4n3 Z o0 o1 cF cs h0 n0 v U'.heap L ∧ FrameEnd U o U' L RM_2_1_3_35.cells RM_2_1_3_35.slots) := by
  refine MetFree.of_bodySF (plainFor_of_name pn_0) hisR ?_
  intro p e s m args below meth c s₁ Bd hml0 hP hK
  obtain ⟨rfl, hZ, hh⟩ := hP
  have hx := Bd.exec
  have hby := Bd.bytes
  have hml : c.maxLocals = 6 := hml0
  have hown : s.vm.findClass "java/lang/String" = some m.cls := findClass_of_methodNamed Bd.named
  have hnm := (name_of_methodNamed Bd.named Bd.method).1
  have X0 : Stand p l e RM_2_1_3_35 s m _ below meth c s₁ [] 0 0 := Stand.of_body Bd
  have e0 : s₁.heap = h0 := by rw [← hh, Bd.state]; rfl
  have N0 := Fr.nil n0
  refine Go.into (P := fun oo uu => ∃ v L, oo = .returned v ∧ Q4n3 Z o0 o1 cF cs h0 n0 v uu.heap L ∧ FrameEnd s oo uu L RM_2_1_3_35.cells RM_2_1_3_35.slots) (ef_4_aaaan m o0 o1 (0 : Int32) (3 : Int32)) ?_
  show Go p e below _ (s₁.setTop (mkF m 0 #[sR o0, sR o1, sI 0, sI 3, .val .null, .unset] []))
  refine Vi (s₁.setTop (mkF m 1 #[sR o0, sR o1, sI 0, sI 3, .val .null, .unset] [(.ref o0)])) (fun tZ kZ => ?_) ?_
  · refine XS.aloadN X0.here hx rfl (hb hby d4_0) rfl rfl ?_
    exact kZ
  obtain ⟨T1, X1, e1, st1⟩ := initO X0 hx hZ hown (wq hw 19 rfl) (wq hw 20 rfl) (wq hw 21 rfl) e0 (g := (mkF m 1 #[sR o0, sR o1, sI 0, sI 3, .val .null, .unset] [(.ref o0)])) rfl (by rw [hml]; rfl) rfl (hb hby d4_1) (by decide) (W := 0) (by show 2 * 0 + _ ≤ _; exact Nat.le_of_eq rfl) (by decide)
  refine Go.via st1 ?_
  refine Vi (T1.setTop (mkF m 27 #[sR o0, sR o1, sI 0, sI 3, .val .null, .unset] [])) (fun tZ kZ => ?_) ?_
  · refine XS.iloadN X1.here hx rfl (hb hby d4_4) rfl ?_
    refine XS.ifYes X1.here hx rfl (pc0 := 5) (pc' := 27) rfl (hb hby d4_5) rfl ((if0 _ _).trans (feq (by decide)).2) (by decide) (by decide) ?_
    exact kZ
  obtain ⟨T2, X2, e2, st2⟩ := getS2 X1 hx hZ hown (host := "") (Or.inl (wq hw 77 rfl)) Via.refl e1 ha5 (g := (mkF m 27 #[sR o0, sR o1, sI 0, sI 3, .val .null, .unset] [])) rfl (hb hby d4_27)
  refine Go.via st2 ?_
  refine Vi (T2.setTop (mkF m 36 #[sR o0, sR o1, sI 0, sI 3, .val .null, .unset] [(.int 3), (.int 0), (.ref o1)])) (fun tZ kZ => ?_) ?_
  · refine XS.ifNo X2.here hx rfl (hb hby d4_30) rfl ((if0 _ _).trans (feq hcs).1) ?_
    refine XS.aloadN X2.here hx rfl (hb hby d4_33) rfl rfl ?_
    refine XS.iloadN X2.here hx rfl (hb hby d4_34) rfl ?_
    refine XS.iloadN X2.here hx rfl (hb hby d4_35) rfl ?_
    exact kZ
  obtain ⟨_, _, ⟨T3, L3, k3, n3⟩, -, X3, ⟨Lc3, hQ3, l3, y3, z3⟩, st3⟩ := Jvm.LawKit.callS X2 hx (y := y20) hown (wz hZ hw 103 rfl) (wz hZ hw 104 rfl) (wz hZ hw 105 rfl) (wz hZ hw 106 rfl) (by decide) (backOf (W := 0) (rm20n3 l Z a0 hw [] o1 cF h0 n0 Z0 ha4 hch0 hch1 hch2) hZ (wq hw 106 rfl) (wq hw 105 rfl) (by decide) (by decide)) (g := (mkF m 36 #[sR o0, sR o1, sI 0, sI 3, .val .null, .unset] [(.int 3), (.int 0), (.ref o1)])) rfl (by rw [hml]; rfl) (argsL := [(.ref o1), (.int 0), (.int 3)]) (rest := []) (lenOf pd_16 rfl) rfl (leW rfl) (hb hby d4_36) (fun _ _ => ⟨rfl, e2, (by decide : 0 + 1 ≤ _), (by decide : 0 + 3 ≤ _)⟩)
  dsimp only [Pt.U, Pt.locs, Pt.cells, Pt.slots] at X3 l3 y3 z3 st3 hQ3
  subst l3 y3 z3
  obtain ⟨b3_0, rfl, N3q, Kq3, hz_b3_0, f3_0, f3_1⟩ := hQ3
  have g_b3_0 : n0 ≤ b3_0 := Nat.le_trans Z0 hz_b3_0
  have sz_b3_0 : h0.size ≤ b3_0 := Nat.le_trans ((Keep.refl h0 [o0])).1 hz_b3_0
  have ne_o0_b3_0 : o0 ≠ b3_0 := Nat.ne_of_lt (Nat.lt_of_lt_of_le ha0.lt hz_b3_0)
  have ne_o1_b3_0 : o1 ≠ b3_0 := Nat.ne_of_lt (Nat.lt_of_lt_of_le ha4.lt hz_b3_0)
  have c4_0 := ha0.keep Kq3
  have c4_1 := ha1.keep Kq3 nin0
  have c4_2 := ha2.keep Kq3 nin0
  have c4_5 := own_sk ha5 Kq3 (fun _ _ _ _ => nin0)
  have K3 : Keep h0 T3.heap [o0] := (Keep.refl h0 [o0]).trans Kq3 all0
  have Z3 := Nat.le_trans Z0 Kq3.1
  have N3 := Fr.app N0 N3q
  refine Go.via st3 ?_
  refine Vi (T3.setTop (mkF m 45 #[sR o0, sR o1, sI 0, sI 3, .val .null, sR b3_0] [(.int 3), (.ref b3_0), (.ref o0)])) (fun tZ kZ => ?_) ?_
  · refine XS.astore X3.here hx rfl (hb hby d4_39) rfl rfl (l' := #[sR o0, sR o1, sI 0, sI 3, .val .null, sR b3_0]) rfl ?_
    refine XS.aloadN X3.here hx rfl (hb hby d4_41) rfl rfl ?_
    refine XS.aload X3.here hx rfl (hb hby d4_42) rfl rfl ?_
    refine XS.iloadN X3.here hx rfl (hb hby d4_44) rfl ?_
    exact kZ
  obtain ⟨_, _, ⟨T5, L5, k5, n5⟩, -, X5, ⟨Lc5, hQ5, l5, y5, z5⟩, st5⟩ := Jvm.LawKit.callS X3 hx (y := y22) hown (wz hZ hw 110 rfl) (wz hZ hw 111 rfl) (wz hZ hw 105 rfl) (wz hZ hw 112 rfl) (by decide) (backOf (W := 1) (rm22n3 l Z a0 hw [] b3_0 (up (up (up (fun _ => (0 : Int32)) (0 : Int32).toNatClampNeg (nar .byte ((cF (0 : Int32).toNatClampNeg).toInt8.toInt32))) (1 : Int32).toNatClampNeg (nar .byte ((cF (1 : Int32).toNatClampNeg).toInt8.toInt32))) (2 : Int32).toNatClampNeg (nar .byte ((cF (2 : Int32).toNatClampNeg).toInt8.toInt32))) T3.heap n0 Z3 f3_1) hZ (wq hw 112 rfl) (wq hw 105 rfl) (by decide) (by decide)) (g := (mkF m 45 #[sR o0, sR o1, sI 0, sI 3, .val .null, sR b3_0] [(.int 3), (.ref b3_0), (.ref o0)])) rfl (by rw [hml]; rfl) (argsL := [(.ref b3_0), (.int 3)]) (rest := [(.ref o0)]) (lenOf pd_18 rfl) rfl (leW rfl) (hb hby d4_45) (fun _ _ => ⟨rfl, rfl, (by decide : 0 + 1 + 0 ≤ _), (by decide : 0 + 3 + 0 ≤ _)⟩)
  dsimp only [Pt.U, Pt.locs, Pt.cells, Pt.slots] at X5 l5 y5 z5 st5 hQ5
  subst l5 y5 z5
  obtain ⟨rfl, N5q, e5⟩ := hQ5
  have hv5 : (f22n3 b3_0 (up (up (up (fun _ => (0 : Int32)) (0 : Int32).toNatClampNeg (nar .byte ((cF (0 : Int32).toNatClampNeg).toInt8.toInt32))) (1 : Int32).toNatClampNeg (nar .byte ((cF (1 : Int32).toNatClampNeg).toInt8.toInt32))) (2 : Int32).toNatClampNeg (nar .byte ((cF (2 : Int32).toNatClampNeg).toInt8.toInt32)))) = (0 : Int32) := by unfold f22n3; decide
  rw [hv5] at st5
  have N5 := Fr.app N3 N5q
  refine Go.via st5 ?_
  obtain ⟨T6, h6, X6, e6, W6, st6⟩ := putFN X5 hx hZ hown (wq hw 29 rfl) Via.refl e5 c4_2 c4_0 (Or.inr ⟨(wq hw 25 rfl), rfl, hnm⟩) (wq hw 9 rfl) (ty := .byte) (v' := (.int (nar .byte (0 : Int32)))) (by decide) rfl (fits_nar_byte _) (g := (mkF m 48 #[sR o0, sR o1, sI 0, sI 3, .val .null, sR b3_0] [(.int 0), (.ref o0)])) rfl rfl (hb hby d4_48)
  have N6 := Fr.snoc X6 N5 ha3
  have c7_0 := c4_0.wr W6
  have c7_1 := c4_1.other W6 (Or.inr (slot_ne (Or.inr (wq hw 24 rfl)) (Or.inr (wq hw 25 rfl)) (by decide) (t := (.array .byte)) (t' := .byte) (by decide) (by decide)))
  have c7_4 := f3_0.other W6 hne_o1_o0
  have c7_5 := c4_5.wr W6
  have c7_6 := f3_1.other W6 (Ne.symm ne_o0_b3_0)
  have K6 : Keep h0 h6 [o0] := K3.wr W6 (Or.inl (by simp))
  have Z6 := Nat.le_trans Z3 (Keep.of_wr W6).1
  have Fw6 : Fld Z h6 o0 "java/lang/String" "coder" "B" (.int 0) := c4_2.same W6
  refine Go.via st6 ?_
  refine Vi (T6.setTop (mkF m 54 #[sR o0, sR o1, sI 0, sI 3, .val .null, sR b3_0] [(.ref b3_0), (.ref o0)])) (fun tZ kZ => ?_) ?_
  · refine XS.aloadN X6.here hx rfl (hb hby d4_51) rfl rfl ?_
    refine XS.aload X6.here hx rfl (hb hby d4_52) rfl rfl ?_
    exact kZ
  obtain ⟨T8, h8, X8, e8, W8, st8⟩ := putF X6 hx hZ hown (host := "") (Or.inl (wq hw 28 rfl)) Via.refl e6 c7_1 c7_0 (Or.inr ⟨(wq hw 24 rfl), rfl, hnm⟩) (wq hw 9 rfl) (ty := (.array .byte)) (by decide) rfl rfl (g := (mkF m 54 #[sR o0, sR o1, sI 0, sI 3, .val .null, sR b3_0] [(.ref b3_0), (.ref o0)])) rfl rfl (hb hby d4_54)
  have N8 := Fr.snoc X8 N6 ha3
  have c9_0 := c7_0.wr W8
  have c9_2 := Fw6.other W8 (Or.inr (slot_ne (Or.inr (wq hw 25 rfl)) (Or.inr (wq hw 24 rfl)) (by decide) (t := .byte) (t' := (.array .byte)) (by decide) (by decide)))
  have c9_4 := c7_4.other W8 hne_o1_o0
  have c9_5 := c7_5.wr W8
  have c9_6 := c7_6.other W8 (Ne.symm ne_o0_b3_0)
  have K8 : Keep h0 h8 [o0] := K6.wr W8 (Or.inl (by simp))
  have Z8 := Nat.le_trans Z6 (Keep.of_wr W8).1
  have Fw8 := c7_1.same W8
  refine Go.via st8 ?_
  refine Go.retV X8 hx Bd.notSynchronized Bd.returns (hb hby d4_57) (by decide) (by decide) ?_
  rw [e8]
  exact ⟨b3_0, rfl, N8, K8, sz_b3_0, c9_0, Fw8, c9_2, c9_4, c9_5, c9_6⟩
def Q3n3 (Z : State) (o0 : Addr) (o1 : Addr) (cF : Nat → Int32) (cs : Int32) (h0 : Heap) (n0 : Nat) (v : Option Value) (h : Heap) (L : List Loc) : Prop := ∃ b1_0 : Addr, v = none ∧ Fr n0 L ∧ Keep h0 h [o0] ∧ h0.size ≤ b1_0 ∧ Exa Z h o0 "java/lang/String" ∧ Fld Z h o0 "java/lang/String" "value" "[B" (.ref b1_0) ∧ Fld Z h o0 "java/lang/String" "coder" "B" (.int 0) ∧ AV Z h o1 .char 3 (fun k => .int (cF k)) ∧ Sta Z h "java/lang/String" "COMPACT_STRINGS" "Z" (.int cs) ∧ AV Z h b1_0 .byte 3 (fun k => .int ((up (up (up (fun _ => (0 : Int32)) (0 : Int32).toNatClampNeg (nar .byte ((cF (0 : Int32).toNatClampNeg).toInt8.toInt32))) (1 : Int32).toNatClampNeg (nar .byte ((cF (1 : Int32).toNatClampNeg).toInt8.toInt32))) (2 : Int32).toNatClampNeg (nar .byte ((cF (2 : Int32).toNatClampNeg).toInt8.toInt32))) k))
abbrev RM_3_1_3_52 : Room := { frames := 3, cells := 1, slots := 3, locals := 52 }
theorem rm3n3 (l : Launch) (Z : State) (a0 : Array Value) (hw : HW a0 Z) (ws : List Jvm.Cond) (o0 : Addr) (o1 : Addr) (cF : Nat → Int32) (cs : Int32) (h0 : Heap) (n0 : Nat) (Z0 : n0 ≤ h0.size) (ha0 : Exa Z h0 o0 "java/lang/String") (ha1 : Fld Z h0 o0 "java/lang/String" "value" "[B" .null) (ha2 : Fld Z h0 o0 "java/lang/String" "coder" "B" (.int 0)) (ha3 : n0 ≤ o0) (ha4 : AV Z h0 o1 .char 3 (fun k => .int (cF k))) (ha5 : Sta Z h0 "java/lang/String" "COMPACT_STRINGS" "Z" (.int cs)) (hne_o1_o0 : o1 ≠ o0) (hch0 : ¬ (255 : Int32) < (cF (0 : Int32).toNatClampNeg)) (hch1 : ¬ (255 : Int32) < (cF (1 : Int32).toNatClampNeg)) (hch2 : ¬ (255 : Int32) < (cF (2 : Int32).toNatClampNeg)) (hcs : ¬ cs = 0) :
    MetFree l y3 (head1 (Jvm.Cond.code y3 jdk_42_method_3_code 2 none :: ws) RM_3_1_3_52) (fun a U => a = #[(.ref o0), (.ref o1)] ∧ Z.Warmed39 U.vm ∧ U.heap = h0) (fun _ _ _ _ _ => True) (fun _ U o U' => ∃ v L, o = .returned v ∧ Q3n3 Z o0 o1 cF cs h0 n0 v U'.heap L ∧ FrameEnd U o U' L RM_3_1_3_52.cells RM_3_1_3_52.slots) := by
  refine MetFree.of_bodySF (plainFor_of_name pn_0) hisR ?_
  intro p e s m args below meth c s₁ Bd hml0 hP hK
  obtain ⟨rfl, hZ, hh⟩ := hP
  have hx := Bd.exec
  have hby := Bd.bytes
  have hml : c.maxLocals = 2 := hml0
  have hown : s.vm.findClass "java/lang/String" = some m.cls := findClass_of_methodNamed Bd.named
  have X0 : Stand p l e RM_3_1_3_52 s m _ below meth c s₁ [] 0 0 := Stand.of_body Bd
  have e0 : s₁.heap = h0 := by rw [← hh, Bd.state]; rfl
  have N0 := Fr.nil n0
  refine Go.into (P := fun oo uu => ∃ v L, oo = .returned v ∧ Q3n3 Z o0 o1 cF cs h0 n0 v uu.heap L ∧ FrameEnd s oo uu L RM_3_1_3_52.cells RM_3_1_3_52.slots) (ef_3_aa m o0 o1) ?_
  show Go p e below _ (s₁.setTop (mkF m 0 #[sR o0, sR o1] []))
  refine Vi (s₁.setTop (mkF m 6 #[sR o0, sR o1] [.null, (.int 3), (.int 0), (.ref o1), (.ref o0)])) (fun tZ kZ => ?_) ?_
  · refine XS.aloadN X0.here hx rfl (hb hby d3_0) rfl rfl ?_
    refine XS.aloadN X0.here hx rfl (hb hby d3_1) rfl rfl ?_
    refine XS.iconst X0.here hx rfl (hb hby d3_2) ?_
    refine XS.aloadN X0.here hx rfl (hb hby d3_3) rfl rfl ?_
    refine AV.len ha4 X0 hx hZ e0 (hb hby d3_4) ?_
    refine XS.aconstNull X0.here hx rfl (hb hby d3_5) ?_
    exact kZ
  obtain ⟨_, _, ⟨T1, L1, k1, n1⟩, -, X1, ⟨Lc1, hQ1, l1, y1, z1⟩, st1⟩ := X0.specialBack hx (y := y4) rfl hown (wz hZ hw 15 rfl) (wz hZ hw 16 rfl) (wz hZ hw 18 rfl) (by decide) (backOf (W := 0) (rm4n3 l Z a0 hw [] o0 o1 cF cs h0 n0 Z0 ha0 ha1 ha2 ha3 ha4 ha5 hne_o1_o0 hch0 hch1 hch2 hcs) hZ (wq hw 18 rfl) (wq hw 10 rfl) (by decide) (by decide)) (g := (mkF m 6 #[sR o0, sR o1] [.null, (.int 3), (.int 0), (.ref o1), (.ref o0)])) rfl (by rw [hml]; rfl) (Steps.refl _) (a := o0) (argsL := [(.ref o1), (.int 0), (.int 3), .null]) (rest := []) (lenOf pd_3 rfl) rfl (leW rfl) (hb hby d3_6) (fun _ _ => ⟨rfl, e0, (by decide : 0 + 1 ≤ _), (by decide : 0 + 3 ≤ _)⟩)
  dsimp only [Pt.U, Pt.locs, Pt.cells, Pt.slots] at X1 l1 y1 z1 st1 hQ1
  subst l1 y1 z1
  obtain ⟨b1_0, rfl, N1q, Kq1, hz_b1_0, f1_0, f1_1, f1_2, f1_3, f1_4, f1_5⟩ := hQ1
  have g_b1_0 : n0 ≤ b1_0 := Nat.le_trans Z0 hz_b1_0
  have sz_b1_0 : h0.size ≤ b1_0 := Nat.le_trans ((Keep.refl h0 [o0])).1 hz_b1_0
  have ne_o0_b1_0 : o0 ≠ b1_0 := Nat.ne_of_lt (Nat.lt_of_lt_of_le ha0.lt hz_b1_0)
  have ne_o1_b1_0 : o1 ≠ b1_0 := Nat.ne_of_lt (Nat.lt_of_lt_of_le ha4.lt hz_b1_0)
  have K1 : Keep h0 T1.heap [o0] := (Keep.refl h0 [o0]).trans Kq1 (allS (Or.inl (by simp)) all0)
  have Z1 := Nat.le_trans Z0 Kq1.1
  have N1 := Fr.app N0 N1q
  refine Go.via (fun t k => st1.trans k) ?_
  refine Go.retV X1 hx Bd.notSynchronized Bd.returns (hb hby d3_9) (by decide) (by decide) ?_
  exact ⟨b1_0, rfl, N1, K1, sz_b1_0, f1_0, f1_1, f1_2, f1_3, f1_4, f1_5⟩
theorem d2_59 : decode B2 59 = .ok (.iload_n 0, 1) := by decide +kernel
theorem d2_60 : decode B2 60 = .ok (.iconst 3, 1) := by decide +kernel
theorem d2_61 : decode B2 61 = .ok (.if_icmp .ne 26, 3) := by decide +kernel
theorem d2_64 : decode B2 64 = .ok (.new 32, 3) := by decide +kernel
theorem d2_67 : decode B2 67 = .ok (.dup, 1) := by decide +kernel
theorem d2_68 : decode B2 68 = .ok (.iconst 3, 1) := by decide +kernel
theorem d2_69 : decode B2 69 = .ok (.newarray .char, 2) := by decide +kernel
theorem d2_71 : decode B2 71 = .ok (.dup, 1) := by decide +kernel
theorem d2_72 : decode B2 72 = .ok (.iconst 0, 1) := by decide +kernel
theorem d2_73 : decode B2 73 = .ok (.iload_n 1, 1) := by decide +kernel
theorem d2_74 : decode B2 74 = .ok (.castore, 1) := by decide +kernel
theorem d2_75 : decode B2 75 = .ok (.dup, 1) := by decide +kernel
theorem d2_76 : decode B2 76 = .ok (.iconst 1, 1) := by decide +kernel
theorem d2_77 : decode B2 77 = .ok (.iload_n 2, 1) := by decide +kernel
theorem d2_78 : decode B2 78 = .ok (.castore, 1) := by decide +kernel
theorem d2_79 : decode B2 79 = .ok (.dup, 1) := by decide +kernel
theorem d2_80 : decode B2 80 = .ok (.iconst 2, 1) := by decide +kernel
theorem d2_81 : decode B2 81 = .ok (.iload_n 3, 1) := by decide +kernel
theorem d2_82 : decode B2 82 = .ok (.castore, 1) := by decide +kernel
theorem d2_83 : decode B2 83 = .ok (.invokespecial 41, 3) := by decide +kernel
theorem d2_86 : decode B2 86 = .ok (.areturn, 1) := by decide +kernel
def Q2n3 (Z : State) (p1 : Int32) (p2 : Int32) (p3 : Int32) (p4 : Int32) (cs : Int32) (h0 : Heap) (n0 : Nat) (v : Option Value) (h : Heap) (L : List Loc) : Prop := ∃ b1 : Addr, ∃ b11_0 : Addr, v = some (.ref b1) ∧ Fr n0 L ∧ Keep h0 h [] ∧ h0.size ≤ b1 ∧ h0.size ≤ b11_0 ∧ Sta Z h "java/lang/String" "COMPACT_STRINGS" "Z" (.int cs) ∧ Exa Z h b1 "java/lang/String" ∧ Fld Z h b1 "java/lang/String" "value" "[B" (.ref b11_0) ∧ Fld Z h b1 "java/lang/String" "coder" "B" (.int 0) ∧ AV Z h b11_0 .byte 3 (fun k => .int ((up (up (up (fun _ => (0 : Int32)) (0 : Int32).toNatClampNeg (nar .byte (((up (up (up (fun _ => (0 : Int32)) (0 : Int32).toNatClampNeg (nar .char p1)) (1 : Int32).toNatClampNeg (nar .char p2)) (2 : Int32).toNatClampNeg (nar .char p3)) (0 : Int32).toNatClampNeg).toInt8.toInt32))) (1 : Int32).toNatClampNeg (nar .byte (((up (up (up (fun _ => (0 : Int32)) (0 : Int32).toNatClampNeg (nar .char p1)) (1 : Int32).toNatClampNeg (nar .char p2)) (2 : Int32).toNatClampNeg (nar .char p3)) (1 : Int32).toNatClampNeg).toInt8.toInt32))) (2 : Int32).toNatClampNeg (nar .byte (((up (up (up (fun _ => (0 : Int32)) (0 : Int32).toNatClampNeg (nar .char p1)) (1 : Int32).toNatClampNeg (nar .char p2)) (2 : Int32).toNatClampNeg (nar .char p3)) (2 : Int32).toNatClampNeg).toInt8.toInt32))) k))
abbrev RM_4_3_10_66 : Room := { frames := 4, cells := 3, slots := 10, locals := 66 }
theorem rm2n3 (l : Launch) (Z : State) (a0 : Array Value) (hw : HW a0 Z) (ws : List Jvm.Cond) (p1 : Int32) (p2 : Int32) (p3 : Int32) (p4 : Int32) (cs : Int32) (h0 : Heap) (n0 : Nat) (Z0 : n0 ≤ h0.size) (ha0 : Sta Z h0 "java/lang/String" "COMPACT_STRINGS" "Z" (.int cs)) (hx0 : own_ch p1) (hx1 : own_ch p2) (hx2 : own_ch p3) (hcs : ¬ cs = 0) :
    MetFree l y2 (head1 (Jvm.Cond.code y2 method_4_code 5 (some (.object "java/lang/String")) :: ws) RM_4_3_10_66) (fun a U => a = #[(.int 3), (.int p1), (.int p2), (.int p3), (.int p4)] ∧ Z.Warmed39 U.vm ∧ U.heap = h0) (fun _ _ _ _ _ => True) (fun _ U o U' => ∃ v L, o = .returned v ∧ Q2n3 Z p1 p2 p3 p4 cs h0 n0 v U'.heap L ∧ FrameEnd U o U' L RM_4_3_10_66.cells RM_4_3_10_66.slots) := by
  refine MetFree.of_bodySF (plainFor_of_name pn_6) hisR ?_
  intro p e s m args below meth c s₁ Bd hml0 hP hK
  obtain ⟨rfl, hZ, hh⟩ := hP
  have hx := Bd.exec
  have hby := Bd.bytes
  have hml : c.maxLocals = 5 := hml0
  have hown : s.vm.findClass "com/example/bindery/bindery/compiler/JavaTypeOuterNamePinLaw" = some m.cls := findClass_of_methodNamed Bd.named
  have X0 : Stand p l e RM_4_3_10_66 s m _ below meth c s₁ [] 0 0 := Stand.of_body Bd
  have e0 : s₁.heap = h0 := by rw [← hh, Bd.state]; rfl
  have N0 := Fr.nil n0
  refine Go.into (P := fun oo uu => ∃ v L, oo = .returned v ∧ Q2n3 Z p1 p2 p3 p4 cs h0 n0 v uu.heap L ∧ FrameEnd s oo uu L RM_4_3_10_66.cells RM_4_3_10_66.slots) (ef_2_aaaaa m (3 : Int32) p1 p2 p3 p4) ?_
  show Go p e below _ (s₁.setTop (mkF m 0 #[sI 3, sI p1, sI p2, sI p3, sI p4] []))
  refine Vi (s₁.setTop (mkF m 64 #[sI 3, sI p1, sI p2, sI p3, sI p4] [])) (fun tZ kZ => ?_) ?_
  · refine XS.iloadN X0.here hx rfl (hb hby d2_0) rfl ?_
    refine XS.ifYes X0.here hx rfl (pc0 := 1) (pc' := 15) rfl (hb hby d2_1) rfl ((if0 _ _).trans (feq (by decide)).2) (by decide) (by decide) ?_
    refine XS.iloadN X0.here hx rfl (hb hby d2_15) rfl ?_
    refine XS.iconst X0.here hx rfl (hb hby d2_16) ?_
    refine XS.icmpYes X0.here hx rfl (pc0 := 17) (pc' := 35) rfl (hb hby d2_17) rfl (feq (by decide)).2 (by decide) (by decide) ?_
    refine XS.iloadN X0.here hx rfl (hb hby d2_35) rfl ?_
    refine XS.iconst X0.here hx rfl (hb hby d2_36) ?_
    refine XS.icmpYes X0.here hx rfl (pc0 := 37) (pc' := 59) rfl (hb hby d2_37) rfl (feq (by decide)).2 (by decide) (by decide) ?_
    refine XS.iloadN X0.here hx rfl (hb hby d2_59) rfl ?_
    refine XS.iconst X0.here hx rfl (hb hby d2_60) ?_
    refine XS.icmpNo X0.here hx rfl (hb hby d2_61) rfl (teq (by decide)).2 ?_
    exact kZ
  obtain ⟨T1, h1, X1, e1, E1, A1, D1, -, st1⟩ := newO X0 hx hZ hown (wq hw 8 rfl) (wq hw 9 rfl) (wq hw 10 rfl) e0 (g := (mkF m 64 #[sI 3, sI p1, sI p2, sI p3, sI p4] [])) rfl (hb hby d2_64) (by decide) (by decide)
  obtain ⟨b1, g1⟩ : ∃ z, z = h0.size := ⟨_, rfl⟩
  rw [← g1] at A1 D1 st1
  have g_b1 : n0 ≤ b1 := Nat.le_trans Z0 (Nat.le_of_eq g1.symm)
  have sz_b1 : h0.size ≤ b1 := Nat.le_trans ((Keep.refl h0 [])).1 (Nat.le_of_eq g1.symm)
  have c2_0 := ha0.ext E1
  have K1 : Keep h0 h1 [] := (Keep.refl h0 []).ext E1
  have Z1 := Nat.le_trans Z0 E1.1
  have F1_value : Fld Z h1 b1 "java/lang/String" "value" "[B" .null := D1 (Or.inr (wq hw 24 rfl)) (ty := (.array .byte)) (by decide)
  have F1_coder : Fld Z h1 b1 "java/lang/String" "coder" "B" (.int 0) := D1 (Or.inr (wq hw 25 rfl)) (ty := .byte) (by decide)
  refine Go.via st1 ?_
  refine Vi (T1.setTop (mkF m 69 #[sI 3, sI p1, sI p2, sI p3, sI p4] [(.int 3), (.ref b1), (.ref b1)])) (fun tZ kZ => ?_) ?_
  · refine XS.dup X1.here hx rfl (hb hby d2_67) rfl rfl ?_
    refine XS.iconst X1.here hx rfl (hb hby d2_68) ?_
    exact kZ
  obtain ⟨T3, h3, k3, X3, e3, E3, A3, B3, st3⟩ := newPE X1 hx hZ (wq hw 11 rfl) e1 (g := (mkF m 69 #[sI 3, sI p1, sI p2, sI p3, sI p4] [(.int 3), (.ref b1), (.ref b1)])) rfl (hb hby d2_69) rfl (by decide) (cap := 3) (by decide) (by decide) (by decide) (by decide) (ad := "[C") rfl
  obtain ⟨b3, g3⟩ : ∃ z, z = h1.size := ⟨_, rfl⟩
  rw [← g3] at A3 B3 st3
  have g_b3 : n0 ≤ b3 := Nat.le_trans Z1 (Nat.le_of_eq g3.symm)
  have sz_b3 : h0.size ≤ b3 := Nat.le_trans (K1).1 (Nat.le_of_eq g3.symm)
  have ne_b1_b3 : b1 ≠ b3 := Nat.ne_of_lt (Nat.lt_of_lt_of_le A1.lt (Nat.le_of_eq g3.symm))
  have c4_0 := c2_0.ext E3
  have c4_2 := A1.ext E3
  have c4_3 := F1_value.ext E3
  have c4_4 := F1_coder.ext E3
  have K3 : Keep h0 h3 [] := K1.ext E3
  have Z3 := Nat.le_trans Z1 E3.1
  have V3 : AV Z h3 b3 .char 3 (fun k => .int ((fun _ => (0 : Int32)) k)) := by have q := AV.new A3; exact q
  refine Go.via st3 ?_
  refine Vi (T3.setTop (mkF m 74 #[sI 3, sI p1, sI p2, sI p3, sI p4] [(.int p1), (.int 0), (.ref b3), (.ref b3), (.ref b1), (.ref b1)])) (fun tZ kZ => ?_) ?_
  · refine XS.dup X3.here hx rfl (hb hby d2_71) rfl rfl ?_
    refine XS.iconst X3.here hx rfl (hb hby d2_72) ?_
    refine XS.iloadN X3.here hx rfl (hb hby d2_73) rfl ?_
    exact kZ
  obtain ⟨T5, h5, X5, e5, W5, V5, st5⟩ := AV.castore V3 X3 hx hZ e3 (j := (0 : Int32)) (by decide) (Ls := #[sI 3, sI p1, sI p2, sI p3, sI p4]) (rest := [(.ref b3), (.ref b1), (.ref b1)]) (hb hby d2_74) (x := p1)
  have N5 := Fr.snoc X5 N0 g_b3
  have c6_0 := c4_0.wr W5
  have c6_2 := c4_2.wr W5
  have c6_3 := c4_3.other W5 (Or.inl ne_b1_b3)
  have c6_4 := c4_4.other W5 (Or.inl ne_b1_b3)
  have K5 : Keep h0 h5 [] := K3.wr W5 (Or.inr sz_b3)
  have Z5 := Nat.le_trans Z3 (Keep.of_wr W5).1
  refine Go.via st5 ?_
  refine Vi (T5.setTop (mkF m 78 #[sI 3, sI p1, sI p2, sI p3, sI p4] [(.int p2), (.int 1), (.ref b3), (.ref b3), (.ref b1), (.ref b1)])) (fun tZ kZ => ?_) ?_
  · refine XS.dup X5.here hx rfl (hb hby d2_75) rfl rfl ?_
    refine XS.iconst X5.here hx rfl (hb hby d2_76) ?_
    refine XS.iloadN X5.here hx rfl (hb hby d2_77) rfl ?_
    exact kZ
  obtain ⟨T7, h7, X7, e7, W7, V7, st7⟩ := AV.castore V5 X5 hx hZ e5 (j := (1 : Int32)) (by decide) (Ls := #[sI 3, sI p1, sI p2, sI p3, sI p4]) (rest := [(.ref b3), (.ref b1), (.ref b1)]) (hb hby d2_78) (x := p2)
  have N7 := Fr.snoc X7 N5 g_b3
  have c8_0 := c6_0.wr W7
  have c8_2 := c6_2.wr W7
  have c8_3 := c6_3.other W7 (Or.inl ne_b1_b3)
  have c8_4 := c6_4.other W7 (Or.inl ne_b1_b3)
  have K7 : Keep h0 h7 [] := K5.wr W7 (Or.inr sz_b3)
  have Z7 := Nat.le_trans Z5 (Keep.of_wr W7).1
  refine Go.via st7 ?_
  refine Vi (T7.setTop (mkF m 82 #[sI 3, sI p1, sI p2, sI p3, sI p4] [(.int p3), (.int 2), (.ref b3), (.ref b3), (.ref b1), (.ref b1)])) (fun tZ kZ => ?_) ?_
  · refine XS.dup X7.here hx rfl (hb hby d2_79) rfl rfl ?_
    refine XS.iconst X7.here hx rfl (hb hby d2_80) ?_
    refine XS.iloadN X7.here hx rfl (hb hby d2_81) rfl ?_
    exact kZ
  obtain ⟨T9, h9, X9, e9, W9, V9, st9⟩ := AV.castore V7 X7 hx hZ e7 (j := (2 : Int32)) (by decide) (Ls := #[sI 3, sI p1, sI p2, sI p3, sI p4]) (rest := [(.ref b3), (.ref b1), (.ref b1)]) (hb hby d2_82) (x := p3)
  have N9 := Fr.snoc X9 N7 g_b3
  have c10_0 := c8_0.wr W9
  have c10_2 := c8_2.wr W9
  have c10_3 := c8_3.other W9 (Or.inl ne_b1_b3)
  have c10_4 := c8_4.other W9 (Or.inl ne_b1_b3)
  have K9 : Keep h0 h9 [] := K7.wr W9 (Or.inr sz_b3)
  have Z9 := Nat.le_trans Z7 (Keep.of_wr W9).1
  refine Go.via st9 ?_
  obtain ⟨_, _, ⟨T11, L11, k11, n11⟩, -, X11, ⟨Lc11, hQ11, l11, y11, z11⟩, st11⟩ := X9.specialBack hx (y := y3) rfl hown (wz hZ hw 12 rfl) (wz hZ hw 13 rfl) (wz hZ hw 14 rfl) (by decide) (backOf (W := 1) (rm3n3 l Z a0 hw [] b1 b3 (up (up (up (fun _ => (0 : Int32)) (0 : Int32).toNatClampNeg (nar .char p1)) (1 : Int32).toNatClampNeg (nar .char p2)) (2 : Int32).toNatClampNeg (nar .char p3)) cs h9 n0 Z9 c10_2 c10_3 c10_4 g_b1 V9 c10_0 (Ne.symm ne_b1_b3) (own_hch hx0) (own_hch hx1) (own_hch hx2) hcs) hZ (wq hw 14 rfl) (wq hw 10 rfl) (by decide) (by decide)) (g := (mkF m 83 #[sI 3, sI p1, sI p2, sI p3, sI p4] [(.ref b3), (.ref b1), (.ref b1)])) rfl (by rw [hml]; rfl) (Steps.refl _) (a := b1) (argsL := [(.ref b3)]) (rest := [(.ref b1)]) (lenOf pd_2 rfl) rfl (leW rfl) (hb hby d2_83) (fun _ _ => ⟨rfl, e9, (by decide : 0 + 1 + 1 + 1 ≤ _), (by decide : 0 + 4 + 3 + 3 ≤ _)⟩)
  dsimp only [Pt.U, Pt.locs, Pt.cells, Pt.slots] at X11 l11 y11 z11 st11 hQ11
  subst l11 y11 z11
  obtain ⟨b11_0, rfl, N11q, Kq11, hz_b11_0, f11_0, f11_1, f11_2, f11_3, f11_4, f11_5⟩ := hQ11
  have g_b11_0 : n0 ≤ b11_0 := Nat.le_trans Z9 hz_b11_0
  have sz_b11_0 : h0.size ≤ b11_0 := Nat.le_trans (K9).1 hz_b11_0
  have ne_b1_b11_0 : b1 ≠ b11_0 := Nat.ne_of_lt (Nat.lt_of_lt_of_le c10_2.lt hz_b11_0)
  have ne_b3_b11_0 : b3 ≠ b11_0 := Nat.ne_of_lt (Nat.lt_of_lt_of_le V9.lt hz_b11_0)
  have K11 : Keep h0 T11.heap [] := K9.trans Kq11 (allS (Or.inr sz_b1) all0)
  have Z11 := Nat.le_trans Z9 Kq11.1
  have N11 := Fr.app N9 N11q
  refine Go.via (fun t k => st11.trans k) ?_
  refine Go.retR X11 hx Bd.notSynchronized Bd.returns rfl rfl (hb hby d2_86) (by decide) (by decide) ?_
  exact ⟨b1, b11_0, rfl, N11, K11, sz_b1, sz_b11_0, f11_4, f11_0, f11_1, f11_2, f11_5⟩
def f23n3 (o0 : Addr) (fF : Nat → Int32) : Int32 := (if (fF (0 : Int32).toNatClampNeg) = ((46 : Int32).toInt8.toInt32) then (0 : Int32) else (if (fF (1 : Int32).toNatClampNeg) = ((46 : Int32).toInt8.toInt32) then (1 : Int32) else (if (fF (2 : Int32).toNatClampNeg) = ((46 : Int32).toInt8.toInt32) then (2 : Int32) else (-1 : Int32))))
def Q23n3 (o0 : Addr) (fF : Nat → Int32) (h0 : Heap) (n0 : Nat) (v : Option Value) (h : Heap) (L : List Loc) : Prop := v = some (.int (f23n3 o0 fF)) ∧ Fr n0 L ∧ h = h0
theorem rm23n3 (l : Launch) (Z : State) (a0 : Array Value) (hw : HW a0 Z) (ws : List Jvm.Cond) (o0 : Addr) (fF : Nat → Int32) (h0 : Heap) (n0 : Nat) (Z0 : n0 ≤ h0.size) (ha0 : AV Z h0 o0 .byte 3 (fun k => .int (fF k))) :
    MetFree l y23 (head1 (Jvm.Cond.code y23 jdk_43_method_23_code 6 (some .int) :: ws) RM_0_0_0_0) (fun a U => a = #[(.ref o0), (.int 46), (.int 0), (.int 3)] ∧ Z.Warmed39 U.vm ∧ U.heap = h0) (fun _ _ _ _ _ => True) (fun _ U o U' => ∃ v L, o = .returned v ∧ Q23n3 o0 fF h0 n0 v U'.heap L ∧ FrameEnd U o U' L RM_0_0_0_0.cells RM_0_0_0_0.slots) := by
  refine MetFree.of_bodySF (plainFor_of_name pn_1) hisR ?_
  intro p e s m args below meth c s₁ Bd hml0 hP hK
  obtain ⟨rfl, hZ, hh⟩ := hP
  have hx := Bd.exec
  have hby := Bd.bytes
  have hml : c.maxLocals = 6 := hml0
  have hown : s.vm.findClass "java/lang/StringLatin1" = some m.cls := findClass_of_methodNamed Bd.named
  have X0 : Stand p l e RM_0_0_0_0 s m _ below meth c s₁ [] 0 0 := Stand.of_body Bd
  have e0 : s₁.heap = h0 := by rw [← hh, Bd.state]; rfl
  have N0 := Fr.nil n0
  refine Go.into (P := fun oo uu => ∃ v L, oo = .returned v ∧ Q23n3 o0 fF h0 n0 v uu.heap L ∧ FrameEnd s oo uu L RM_0_0_0_0.cells RM_0_0_0_0.slots) (ef_23_aaaa m o0 (46 : Int32) (0 : Int32) (3 : Int32)) ?_
  show Go p e below _ (s₁.setTop (mkF m 0 #[sR o0, sI 46, sI 0, sI 3, .unset, .unset] []))
  refine Vi (s₁.setTop (mkF m 19 #[sR o0, sI 46, sI 0, sI 3, sI ((46 : Int32).toInt8.toInt32), sI 0] [(.int ((46 : Int32).toInt8.toInt32)), (.int (fF (0 : Int32).toNatClampNeg))])) (fun tZ kZ => ?_) ?_
  · refine XS.iloadN X0.here hx rfl (hb hby d23_0) rfl ?_
    refine XS.i2b X0.here hx rfl (hb hby d23_1) rfl ?_
    refine XS.istore X0.here hx rfl (hb hby d23_2) rfl (l' := #[sR o0, sI 46, sI 0, sI 3, sI ((46 : Int32).toInt8.toInt32), .unset]) rfl ?_
    refine XS.iloadN X0.here hx rfl (hb hby d23_4) rfl ?_
    refine XS.istore X0.here hx rfl (hb hby d23_5) rfl (l' := #[sR o0, sI 46, sI 0, sI 3, sI ((46 : Int32).toInt8.toInt32), sI 0]) rfl ?_
    refine XS.iload X0.here hx rfl (hb hby d23_7) rfl ?_
    refine XS.iloadN X0.here hx rfl (hb hby d23_9) rfl ?_
    refine XS.icmpNo X0.here hx rfl (hb hby d23_10) rfl (tlt (by decide)).2.1 ?_
    refine XS.aloadN X0.here hx rfl (hb hby d23_13) rfl rfl ?_
    refine XS.iload X0.here hx rfl (hb hby d23_14) rfl ?_
    refine AV.baload ha0 X0 hx hZ e0 (j := (0 : Int32)) (by decide) (hb hby d23_16) ?_
    refine XS.iload X0.here hx rfl (hb hby d23_17) rfl ?_
    exact kZ
  by_cases hc19 : (fF (0 : Int32).toNatClampNeg) = ((46 : Int32).toInt8.toInt32)
  · refine Vi (s₁.setTop (mkF m 22 #[sR o0, sI 46, sI 0, sI 3, sI ((46 : Int32).toInt8.toInt32), sI 0] [])) (fun tZ kZ => ?_) ?_
    · show Steps p.tables e below (s₁.setTop (mkF m 19 #[sR o0, sI 46, sI 0, sI 3, sI ((46 : Int32).toInt8.toInt32), sI 0] [(.int ((46 : Int32).toInt8.toInt32)), (.int (fF (0 : Int32).toNatClampNeg))])) _
      refine XS.icmpNo X0.here hx rfl (hb hby d23_19) rfl (teq hc19).2 ?_
      exact kZ
    refine Vi (s₁.setTop (mkF m 24 #[sR o0, sI 46, sI 0, sI 3, sI ((46 : Int32).toInt8.toInt32), sI 0] [(.int 0)])) (fun tZ kZ => ?_) ?_
    · refine XS.iload X0.here hx rfl (hb hby d23_22) rfl ?_
      exact kZ
    refine Go.retI X0 hx Bd.notSynchronized Bd.returns (hb hby d23_24) (by decide) (by decide) ?_
    refine ⟨?_, N0, e0⟩
    show some ((.int 0) : Value) = some (.int (f23n3 o0 fF))
    unfold f23n3; rw [if_pos hc19] <;> rfl
  · refine Vi (s₁.setTop (mkF m 25 #[sR o0, sI 46, sI 0, sI 3, sI ((46 : Int32).toInt8.toInt32), sI 0] [])) (fun tZ kZ => ?_) ?_
    · show Steps p.tables e below (s₁.setTop (mkF m 19 #[sR o0, sI 46, sI 0, sI 3, sI ((46 : Int32).toInt8.toInt32), sI 0] [(.int ((46 : Int32).toInt8.toInt32)), (.int (fF (0 : Int32).toNatClampNeg))])) _
      refine XS.icmpYes X0.here hx rfl (pc0 := 19) (pc' := 25) rfl (hb hby d23_19) rfl (feq hc19).2 (by decide) (by decide) ?_
      exact kZ
    refine Vi (s₁.setTop (mkF m 19 #[sR o0, sI 46, sI 0, sI 3, sI ((46 : Int32).toInt8.toInt32), sI 1] [(.int ((46 : Int32).toInt8.toInt32)), (.int (fF (1 : Int32).toNatClampNeg))])) (fun tZ kZ => ?_) ?_
    · refine XS.iinc X0.here hx rfl (hb hby d23_25) rfl (l' := #[sR o0, sI 46, sI 0, sI 3, sI ((46 : Int32).toInt8.toInt32), sI 1]) rfl ?_
      refine XS.goto X0.here hx rfl (pc0 := 28) (pc' := 7) rfl (hb hby d23_28) (by decide) (by decide) ?_
      refine XS.iload X0.here hx rfl (hb hby d23_7) rfl ?_
      refine XS.iloadN X0.here hx rfl (hb hby d23_9) rfl ?_
      refine XS.icmpNo X0.here hx rfl (hb hby d23_10) rfl (tlt (by decide)).2.1 ?_
      refine XS.aloadN X0.here hx rfl (hb hby d23_13) rfl rfl ?_
      refine XS.iload X0.here hx rfl (hb hby d23_14) rfl ?_
      refine AV.baload ha0 X0 hx hZ e0 (j := (1 : Int32)) (by decide) (hb hby d23_16) ?_
      refine XS.iload X0.here hx rfl (hb hby d23_17) rfl ?_
      exact kZ
    by_cases hc19_1 : (fF (1 : Int32).toNatClampNeg) = ((46 : Int32).toInt8.toInt32)
    · refine Vi (s₁.setTop (mkF m 22 #[sR o0, sI 46, sI 0, sI 3, sI ((46 : Int32).toInt8.toInt32), sI 1] [])) (fun tZ kZ => ?_) ?_
      · show Steps p.tables e below (s₁.setTop (mkF m 19 #[sR o0, sI 46, sI 0, sI 3, sI ((46 : Int32).toInt8.toInt32), sI 1] [(.int ((46 : Int32).toInt8.toInt32)), (.int (fF (1 : Int32).toNatClampNeg))])) _
        refine XS.icmpNo X0.here hx rfl (hb hby d23_19) rfl (teq hc19_1).2 ?_
        exact kZ
      refine Vi (s₁.setTop (mkF m 24 #[sR o0, sI 46, sI 0, sI 3, sI ((46 : Int32).toInt8.toInt32), sI 1] [(.int 1)])) (fun tZ kZ => ?_) ?_
      · refine XS.iload X0.here hx rfl (hb hby d23_22) rfl ?_
        exact kZ
      refine Go.retI X0 hx Bd.notSynchronized Bd.returns (hb hby d23_24) (by decide) (by decide) ?_
      refine ⟨?_, N0, e0⟩
      show some ((.int 1) : Value) = some (.int (f23n3 o0 fF))
      unfold f23n3; rw [if_neg hc19, if_pos hc19_1] <;> rfl
    · refine Vi (s₁.setTop (mkF m 25 #[sR o0, sI 46, sI 0, sI 3, sI ((46 : Int32).toInt8.toInt32), sI 1] [])) (fun tZ kZ => ?_) ?_
      · show Steps p.tables e below (s₁.setTop (mkF m 19 #[sR o0, sI 46, sI 0, sI 3, sI ((46 : Int32).toInt8.toInt32), sI 1] [(.int ((46 : Int32).toInt8.toInt32)), (.int (fF (1 : Int32).toNatClampNeg))])) _
        refine XS.icmpYes X0.here hx rfl (pc0 := 19) (pc' := 25) rfl (hb hby d23_19) rfl (feq hc19_1).2 (by decide) (by decide) ?_
        exact kZ
      refine Vi (s₁.setTop (mkF m 19 #[sR o0, sI 46, sI 0, sI 3, sI ((46 : Int32).toInt8.toInt32), sI 2] [(.int ((46 : Int32).toInt8.toInt32)), (.int (fF (2 : Int32).toNatClampNeg))])) (fun tZ kZ => ?_) ?_
      · refine XS.iinc X0.here hx rfl (hb hby d23_25) rfl (l' := #[sR o0, sI 46, sI 0, sI 3, sI ((46 : Int32).toInt8.toInt32), sI 2]) rfl ?_
        refine XS.goto X0.here hx rfl (pc0 := 28) (pc' := 7) rfl (hb hby d23_28) (by decide) (by decide) ?_
        refine XS.iload X0.here hx rfl (hb hby d23_7) rfl ?_
        refine XS.iloadN X0.here hx rfl (hb hby d23_9) rfl ?_
        refine XS.icmpNo X0.here hx rfl (hb hby d23_10) rfl (tlt (by decide)).2.1 ?_
        refine XS.aloadN X0.here hx rfl (hb hby d23_13) rfl rfl ?_
        refine XS.iload X0.here hx rfl (hb hby d23_14) rfl ?_
        refine AV.baload ha0 X0 hx hZ e0 (j := (2 : Int32)) (by decide) (hb hby d23_16) ?_
        refine XS.iload X0.here hx rfl (hb hby d23_17) rfl ?_
        exact kZ
      by_cases hc19_2 : (fF (2 : Int32).toNatClampNeg) = ((46 : Int32).toInt8.toInt32)
      · refine Vi (s₁.setTop (mkF m 22 #[sR o0, sI 46, sI 0, sI 3, sI ((46 : Int32).toInt8.toInt32), sI 2] [])) (fun tZ kZ => ?_) ?_
        · show Steps p.tables e below (s₁.setTop (mkF m 19 #[sR o0, sI 46, sI 0, sI 3, sI ((46 : Int32).toInt8.toInt32), sI 2] [(.int ((46 : Int32).toInt8.toInt32)), (.int (fF (2 : Int32).toNatClampNeg))])) _
          refine XS.icmpNo X0.here hx rfl (hb hby d23_19) rfl (teq hc19_2).2 ?_
          exact kZ
        refine Vi (s₁.setTop (mkF m 24 #[sR o0, sI 46, sI 0, sI 3, sI ((46 : Int32).toInt8.toInt32), sI 2] [(.int 2)])) (fun tZ kZ => ?_) ?_
        · refine XS.iload X0.here hx rfl (hb hby d23_22) rfl ?_
          exact kZ
        refine Go.retI X0 hx Bd.notSynchronized Bd.returns (hb hby d23_24) (by decide) (by decide) ?_
        refine ⟨?_, N0, e0⟩
        show some ((.int 2) : Value) = some (.int (f23n3 o0 fF))
        unfold f23n3; rw [if_neg hc19, if_neg hc19_1, if_pos hc19_2] <;> rfl
      · refine Vi (s₁.setTop (mkF m 25 #[sR o0, sI 46, sI 0, sI 3, sI ((46 : Int32).toInt8.toInt32), sI 2] [])) (fun tZ kZ => ?_) ?_
        · show Steps p.tables e below (s₁.setTop (mkF m 19 #[sR o0, sI 46, sI 0, sI 3, sI ((46 : Int32).toInt8.toInt32), sI 2] [(.int ((46 : Int32).toInt8.toInt32)), (.int (fF (2 : Int32).toNatClampNeg))])) _
          refine XS.icmpYes X0.here hx rfl (pc0 := 19) (pc' := 25) rfl (hb hby d23_19) rfl (feq hc19_2).2 (by decide) (by decide) ?_
          exact kZ
        refine Vi (s₁.setTop (mkF m 32 #[sR o0, sI 46, sI 0, sI 3, sI ((46 : Int32).toInt8.toInt32), sI 3] [(.int (-1))])) (fun tZ kZ => ?_) ?_
        · refine XS.iinc X0.here hx rfl (hb hby d23_25) rfl (l' := #[sR o0, sI 46, sI 0, sI 3, sI ((46 : Int32).toInt8.toInt32), sI 3]) rfl ?_
          refine XS.goto X0.here hx rfl (pc0 := 28) (pc' := 7) rfl (hb hby d23_28) (by decide) (by decide) ?_
          refine XS.iload X0.here hx rfl (hb hby d23_7) rfl ?_
          refine XS.iloadN X0.here hx rfl (hb hby d23_9) rfl ?_
          refine XS.icmpYes X0.here hx rfl (pc0 := 10) (pc' := 31) rfl (hb hby d23_10) rfl (flt (by decide)).2.1 (by decide) (by decide) ?_
          refine XS.iconst X0.here hx rfl (hb hby d23_31) ?_
          exact kZ
        refine Go.retI X0 hx Bd.notSynchronized Bd.returns (hb hby d23_32) (by decide) (by decide) ?_
        refine ⟨?_, N0, e0⟩
        show some ((.int (-1)) : Value) = some (.int (f23n3 o0 fF))
        unfold f23n3; rw [if_neg hc19, if_neg hc19_1, if_neg hc19_2] <;> rfl
def f16n3 (o0 : Addr) (fF : Nat → Int32) : Int32 := (f23n3 o0 fF)
def Q16n3 (o0 : Addr) (fF : Nat → Int32) (h0 : Heap) (n0 : Nat) (v : Option Value) (h : Heap) (L : List Loc) : Prop := v = some (.int (f16n3 o0 fF)) ∧ Fr n0 L ∧ h = h0
theorem rm16n3 (l : Launch) (Z : State) (a0 : Array Value) (hw : HW a0 Z) (ws : List Jvm.Cond) (o0 : Addr) (fF : Nat → Int32) (h0 : Heap) (n0 : Nat) (Z0 : n0 ≤ h0.size) (ha0 : AV Z h0 o0 .byte 3 (fun k => .int (fF k))) :
    MetFree l y16 (head1 (Jvm.Cond.code y16 jdk_43_method_22_code 4 (some .int) :: ws) RM_1_0_0_17) (fun a U => a = #[(.ref o0), (.int 46), (.int 0), (.int 3)] ∧ Z.Warmed39 U.vm ∧ U.heap = h0) (fun _ _ _ _ _ => True) (fun _ U o U' => ∃ v L, o = .returned v ∧ Q16n3 o0 fF h0 n0 v U'.heap L ∧ FrameEnd U o U' L RM_1_0_0_17.cells RM_1_0_0_17.slots) := by
  refine MetFree.of_bodySF (plainFor_of_name pn_1) hisR ?_
  intro p e s m args below meth c s₁ Bd hml0 hP hK
  obtain ⟨rfl, hZ, hh⟩ := hP
  have hx := Bd.exec
  have hby := Bd.bytes
  have hml : c.maxLocals = 4 := hml0
  have hown : s.vm.findClass "java/lang/StringLatin1" = some m.cls := findClass_of_methodNamed Bd.named
  have X0 : Stand p l e RM_1_0_0_17 s m _ below meth c s₁ [] 0 0 := Stand.of_body Bd
  have e0 : s₁.heap = h0 := by rw [← hh, Bd.state]; rfl
  have N0 := Fr.nil n0
  refine Go.into (P := fun oo uu => ∃ v L, oo = .returned v ∧ Q16n3 o0 fF h0 n0 v uu.heap L ∧ FrameEnd s oo uu L RM_1_0_0_17.cells RM_1_0_0_17.slots) (ef_16_aaaa m o0 (46 : Int32) (0 : Int32) (3 : Int32)) ?_
  show Go p e below _ (s₁.setTop (mkF m 0 #[sR o0, sI 46, sI 0, sI 3] []))
  refine Vi (s₁.setTop (mkF m 1 #[sR o0, sI 46, sI 0, sI 3] [(.int 46)])) (fun tZ kZ => ?_) ?_
  · refine XS.iloadN X0.here hx rfl (hb hby d16_0) rfl ?_
    exact kZ
  obtain ⟨_, _, ⟨T1, L1, k1, n1⟩, -, X1, ⟨Lc1, hQ1, l1, y1, z1⟩, st1⟩ := Jvm.LawKit.callS X0 hx (y := y17) hown (wz hZ hw 92 rfl) (wz hZ hw 93 rfl) (wz hZ hw 90 rfl) (wz hZ hw 94 rfl) (by decide) (backOf (W := 0) (rm17 l Z a0 hw [] (46 : Int32) h0 n0 Z0 ) hZ (wq hw 94 rfl) (wq hw 90 rfl) (by decide) (by decide)) (g := (mkF m 1 #[sR o0, sI 46, sI 0, sI 3] [(.int 46)])) rfl (by rw [hml]; rfl) (argsL := [(.int 46)]) (rest := []) (lenOf pd_15 rfl) rfl (leW rfl) (hb hby d16_1) (fun _ _ => ⟨rfl, e0, (by decide : 0 + 0 ≤ _), (by decide : 0 + 0 ≤ _)⟩)
  dsimp only [Pt.U, Pt.locs, Pt.cells, Pt.slots] at X1 l1 y1 z1 st1 hQ1
  subst l1 y1 z1
  obtain ⟨rfl, N1q, e1⟩ := hQ1
  have hv1 : (f17 (46 : Int32)) = (1 : Int32) := by unfold f17; decide
  rw [hv1] at st1
  have N1 := Fr.app N0 N1q
  refine Go.via st1 ?_
  refine Vi (T1.setTop (mkF m 11 #[sR o0, sI 46, sI 0, sI 3] [(.int 0), (.int 0)])) (fun tZ kZ => ?_) ?_
  · refine XS.ifYes X1.here hx rfl (pc0 := 4) (pc' := 9) rfl (hb hby d16_4) rfl ((if0 _ _).trans (feq (by decide)).2) (by decide) (by decide) ?_
    refine XS.iloadN X1.here hx rfl (hb hby d16_9) rfl ?_
    refine XS.iconst X1.here hx rfl (hb hby d16_10) ?_
    exact kZ
  obtain ⟨_, _, ⟨T2, L2, k2, n2⟩, -, X2, ⟨Lc2, hQ2, l2, y2, z2⟩, st2⟩ := Jvm.LawKit.callS X1 hx (y := y18) hown (wz hZ hw 95 rfl) (wz hZ hw 96 rfl) (wz hZ hw 97 rfl) (wz hZ hw 98 rfl) (by decide) (backOf (W := 0) (rm18 l Z a0 hw [] (0 : Int32) (0 : Int32) h0 n0 Z0 ) hZ (wq hw 98 rfl) (wq hw 97 rfl) (by decide) (by decide)) (g := (mkF m 11 #[sR o0, sI 46, sI 0, sI 3] [(.int 0), (.int 0)])) rfl (by rw [hml]; rfl) (argsL := [(.int 0), (.int 0)]) (rest := []) (lenOf pd_10 rfl) rfl (leW rfl) (hb hby d16_11) (fun _ _ => ⟨rfl, e1, (by decide : 0 + 0 + 0 ≤ _), (by decide : 0 + 0 + 0 ≤ _)⟩)
  dsimp only [Pt.U, Pt.locs, Pt.cells, Pt.slots] at X2 l2 y2 z2 st2 hQ2
  subst l2 y2 z2
  obtain ⟨rfl, N2q, e2⟩ := hQ2
  have hv2 : (f18 (0 : Int32) (0 : Int32)) = (0 : Int32) := by unfold f18; decide
  rw [hv2] at st2
  have N2 := Fr.app N1 N2q
  refine Go.via st2 ?_
  refine Vi (T2.setTop (mkF m 18 #[sR o0, sI 46, sI 0, sI 3] [(.int 3), (.int 3)])) (fun tZ kZ => ?_) ?_
  · refine XS.istoreN X2.here hx rfl (hb hby d16_14) rfl (l' := #[sR o0, sI 46, sI 0, sI 3]) rfl ?_
    refine XS.iloadN X2.here hx rfl (hb hby d16_15) rfl ?_
    refine XS.aloadN X2.here hx rfl (hb hby d16_16) rfl rfl ?_
    refine AV.len ha0 X2 hx hZ e2 (hb hby d16_17) ?_
    exact kZ
  obtain ⟨_, _, ⟨T3, L3, k3, n3⟩, -, X3, ⟨Lc3, hQ3, l3, y3, z3⟩, st3⟩ := Jvm.LawKit.callS X2 hx (y := y19) hown (wz hZ hw 99 rfl) (wz hZ hw 100 rfl) (wz hZ hw 97 rfl) (wz hZ hw 101 rfl) (by decide) (backOf (W := 0) (rm19 l Z a0 hw [] (3 : Int32) (3 : Int32) h0 n0 Z0 ) hZ (wq hw 101 rfl) (wq hw 97 rfl) (by decide) (by decide)) (g := (mkF m 18 #[sR o0, sI 46, sI 0, sI 3] [(.int 3), (.int 3)])) rfl (by rw [hml]; rfl) (argsL := [(.int 3), (.int 3)]) (rest := []) (lenOf pd_10 rfl) rfl (leW rfl) (hb hby d16_18) (fun _ _ => ⟨rfl, e2, (by decide : 0 + 0 + 0 + 0 ≤ _), (by decide : 0 + 0 + 0 + 0 ≤ _)⟩)
  dsimp only [Pt.U, Pt.locs, Pt.cells, Pt.slots] at X3 l3 y3 z3 st3 hQ3
  subst l3 y3 z3
  obtain ⟨rfl, N3q, e3⟩ := hQ3
  have hv3 : (f19 (3 : Int32) (3 : Int32)) = (3 : Int32) := by unfold f19; decide
  rw [hv3] at st3
  have N3 := Fr.app N2 N3q
  refine Go.via st3 ?_
  refine Vi (T3.setTop (mkF m 33 #[sR o0, sI 46, sI 0, sI 3] [(.int 3), (.int 0), (.int 46), (.ref o0)])) (fun tZ kZ => ?_) ?_
  · refine XS.istoreN X3.here hx rfl (hb hby d16_21) rfl (l' := #[sR o0, sI 46, sI 0, sI 3]) rfl ?_
    refine XS.iloadN X3.here hx rfl (hb hby d16_22) rfl ?_
    refine XS.iloadN X3.here hx rfl (hb hby d16_23) rfl ?_
    refine XS.icmpYes X3.here hx rfl (pc0 := 24) (pc' := 29) rfl (hb hby d16_24) rfl (tlt (by decide)).1 (by decide) (by decide) ?_
    refine XS.aloadN X3.here hx rfl (hb hby d16_29) rfl rfl ?_
    refine XS.iloadN X3.here hx rfl (hb hby d16_30) rfl ?_
    refine XS.iloadN X3.here hx rfl (hb hby d16_31) rfl ?_
    refine XS.iloadN X3.here hx rfl (hb hby d16_32) rfl ?_
    exact kZ
  obtain ⟨_, _, ⟨T4, L4, k4, n4⟩, -, X4, ⟨Lc4, hQ4, l4, y4, z4⟩, st4⟩ := Jvm.LawKit.callS X3 hx (y := y23) hown (wz hZ hw 113 rfl) (wz hZ hw 114 rfl) (wz hZ hw 90 rfl) (wz hZ hw 115 rfl) (by decide) (backOf (W := 0) (rm23n3 l Z a0 hw [] o0 fF h0 n0 Z0 ha0) hZ (wq hw 115 rfl) (wq hw 90 rfl) (by decide) (by decide)) (g := (mkF m 33 #[sR o0, sI 46, sI 0, sI 3] [(.int 3), (.int 0), (.int 46), (.ref o0)])) rfl (by rw [hml]; rfl) (argsL := [(.ref o0), (.int 46), (.int 0), (.int 3)]) (rest := []) (lenOf pd_14 rfl) rfl (leW rfl) (hb hby d16_33) (fun _ _ => ⟨rfl, e3, (by decide : 0 + 0 + 0 + 0 + 0 ≤ _), (by decide : 0 + 0 + 0 + 0 + 0 ≤ _)⟩)
  dsimp only [Pt.U, Pt.locs, Pt.cells, Pt.slots] at X4 l4 y4 z4 st4 hQ4
  subst l4 y4 z4
  obtain ⟨rfl, N4q, e4⟩ := hQ4
  have N4 := Fr.app N3 N4q
  refine Go.via st4 ?_
  refine Go.retI X4 hx Bd.notSynchronized Bd.returns (hb hby d16_36) (by decide) (by decide) ?_
  refine ⟨?_, N4, e4⟩
  show some ((.int (f23n3 o0 fF)) : Value) = some (.int (f16n3 o0 fF))
  rfl
def f12n3 (o0 : Addr) (b0 : Addr) (fF : Nat → Int32) (cs : Int32) : Int32 := (f16n3 b0 fF)
def Q12n3 (o0 : Addr) (b0 : Addr) (fF : Nat → Int32) (cs : Int32) (h0 : Heap) (n0 : Nat) (v : Option Value) (h : Heap) (L : List Loc) : Prop := v = some (.int (f12n3 o0 b0 fF cs)) ∧ Fr n0 L ∧ h = h0
theorem rm12n3 (l : Launch) (Z : State) (a0 : Array Value) (hw : HW a0 Z) (ws : List Jvm.Cond) (o0 : Addr) (b0 : Addr) (fF : Nat → Int32) (cs : Int32) (h0 : Heap) (n0 : Nat) (Z0 : n0 ≤ h0.size) (ha0 : Exa Z h0 o0 "java/lang/String") (ha1 : Fld Z h0 o0 "java/lang/String" "coder" "B" (.int 0)) (ha2 : Fld Z h0 o0 "java/lang/String" "value" "[B" (.ref b0)) (ha3 : AV Z h0 b0 .byte 3 (fun k => .int (fF k))) (ha4 : Sta Z h0 "java/lang/String" "COMPACT_STRINGS" "Z" (.int cs)) (hcs : ¬ cs = 0) :
    MetFree l y12 (head1 (Jvm.Cond.code y12 jdk_42_method_80_code 3 (some .int) :: ws) RM_2_0_0_32) (fun a U => a = #[(.ref o0), (.int 46), (.int 0)] ∧ Z.Warmed39 U.vm ∧ U.heap = h0) (fun _ _ _ _ _ => True) (fun _ U o U' => ∃ v L, o = .returned v ∧ Q12n3 o0 b0 fF cs h0 n0 v U'.heap L ∧ FrameEnd U o U' L RM_2_0_0_32.cells RM_2_0_0_32.slots) := by
  refine MetFree.of_bodySF (plainFor_of_name pn_0) hisR ?_
  intro p e s m args below meth c s₁ Bd hml0 hP hK
  obtain ⟨rfl, hZ, hh⟩ := hP
  have hx := Bd.exec
  have hby := Bd.bytes
  have hml : c.maxLocals = 3 := hml0
  have hown : s.vm.findClass "java/lang/String" = some m.cls := findClass_of_methodNamed Bd.named
  have X0 : Stand p l e RM_2_0_0_32 s m _ below meth c s₁ [] 0 0 := Stand.of_body Bd
  have e0 : s₁.heap = h0 := by rw [← hh, Bd.state]; rfl
  have N0 := Fr.nil n0
  refine Go.into (P := fun oo uu => ∃ v L, oo = .returned v ∧ Q12n3 o0 b0 fF cs h0 n0 v uu.heap L ∧ FrameEnd s oo uu L RM_2_0_0_32.cells RM_2_0_0_32.slots) (ef_12_aaa m o0 (46 : Int32) (0 : Int32)) ?_
  show Go p e below _ (s₁.setTop (mkF m 0 #[sR o0, sI 46, sI 0] []))
  refine Vi (s₁.setTop (mkF m 1 #[sR o0, sI 46, sI 0] [(.ref o0)])) (fun tZ kZ => ?_) ?_
  · refine XS.aloadN X0.here hx rfl (hb hby d12_0) rfl rfl ?_
    exact kZ
  obtain ⟨cq1, kq1, q1a, q1b, q1c⟩ := isOf hZ e0 ha0
  obtain ⟨_, _, ⟨T1, L1, k1, n1⟩, -, X1, ⟨Lc1, hQ1, l1, y1, z1⟩, st1⟩ := X0.virtualBack hx (y := y13) (z := y13) hown (wz hZ hw 72 rfl) (wz hZ hw 73 rfl) (notFace_of_selects (args := #[]) (wz hZ hw 75 rfl)) (wz hZ hw 75 rfl) (wz hZ hw 74 rfl) (by decide) (backOf (W := 0) (rm13 l Z a0 hw [] o0 cs h0 n0 Z0 ha1 ha4 hcs) hZ (wq hw 76 rfl) (wq hw 10 rfl) (by decide) (by decide)) q1a q1c (g := (mkF m 1 #[sR o0, sI 46, sI 0] [(.ref o0)])) rfl (by rw [hml]; rfl) (Steps.refl _) (argsL := []) (rest := []) (lenOf pd_11 rfl) rfl (leW rfl) (hb hby d12_1) (fun _ _ => ⟨rfl, e0, (by decide : 0 + 0 ≤ _), (by decide : 0 + 0 ≤ _)⟩)
  dsimp only [Pt.U, Pt.locs, Pt.cells, Pt.slots] at X1 l1 y1 z1 st1 hQ1
  subst l1 y1 z1
  obtain ⟨rfl, N1q, e1⟩ := hQ1
  have hv1 : (f13 o0 cs) = (1 : Int32) := by unfold f13; decide
  rw [hv1] at st1
  have N1 := Fr.app N0 N1q
  refine Go.via (fun t k => st1.trans k) ?_
  refine Vi (T1.setTop (mkF m 8 #[sR o0, sI 46, sI 0] [(.ref o0)])) (fun tZ kZ => ?_) ?_
  · refine XS.ifNo X1.here hx rfl (hb hby d12_4) rfl ((if0 _ _).trans (feq (by decide)).1) ?_
    refine XS.aloadN X1.here hx rfl (hb hby d12_7) rfl rfl ?_
    exact kZ
  obtain ⟨T2, X2, e2, st2⟩ := getF X1 hx hZ hown (host := "") (Or.inl (wq hw 28 rfl)) Via.refl e1 ha2 (g := (mkF m 8 #[sR o0, sI 46, sI 0] [(.ref o0)])) rfl rfl (hb hby d12_8)
  refine Go.via st2 ?_
  refine Vi (T2.setTop (mkF m 14 #[sR o0, sI 46, sI 0] [(.ref o0), (.int 0), (.int 46), (.ref b0)])) (fun tZ kZ => ?_) ?_
  · refine XS.iloadN X2.here hx rfl (hb hby d12_11) rfl ?_
    refine XS.iloadN X2.here hx rfl (hb hby d12_12) rfl ?_
    refine XS.aloadN X2.here hx rfl (hb hby d12_13) rfl rfl ?_
    exact kZ
  obtain ⟨cq3, kq3, q3a, q3b, q3c⟩ := isOf hZ e2 ha0
  obtain ⟨_, _, ⟨T3, L3, k3, n3⟩, -, X3, ⟨Lc3, hQ3, l3, y3, z3⟩, st3⟩ := X2.virtualBack hx (y := y14) (z := y14) hown (wz hZ hw 78 rfl) (wz hZ hw 79 rfl) (notFace_of_selects (args := #[]) (wz hZ hw 81 rfl)) (wz hZ hw 81 rfl) (wz hZ hw 80 rfl) (by decide) (backOf (W := 3) (rm14 l Z a0 hw [] o0 b0 3 fF cs h0 n0 Z0 ha0 ha1 ha2 ha3 ha4 hcs) hZ (wq hw 82 rfl) (wq hw 10 rfl) (by decide) (by decide)) q3a q3c (g := (mkF m 14 #[sR o0, sI 46, sI 0] [(.ref o0), (.int 0), (.int 46), (.ref b0)])) rfl (by rw [hml]; rfl) (Steps.refl _) (argsL := []) (rest := [(.int 0), (.int 46), (.ref b0)]) (lenOf pd_12 rfl) rfl (leW rfl) (hb hby d12_14) (fun _ _ => ⟨rfl, e2, (by decide : 0 + 0 + 0 ≤ _), (by decide : 0 + 0 + 0 ≤ _)⟩)
  dsimp only [Pt.U, Pt.locs, Pt.cells, Pt.slots] at X3 l3 y3 z3 st3 hQ3
  subst l3 y3 z3
  obtain ⟨rfl, N3q, e3⟩ := hQ3
  have hv3 : (f14 o0 b0 3 fF cs) = (Int32.ofNat 3) := by unfold f14; exact own_sh0 _
  rw [hv3] at st3
  have N3 := Fr.app N1 N3q
  refine Go.via (fun t k => st3.trans k) ?_
  obtain ⟨_, _, ⟨T4, L4, k4, n4⟩, -, X4, ⟨Lc4, hQ4, l4, y4, z4⟩, st4⟩ := Jvm.LawKit.callS X3 hx (y := y16) hown (wz hZ hw 88 rfl) (wz hZ hw 89 rfl) (wz hZ hw 90 rfl) (wz hZ hw 91 rfl) (by decide) (backOf (W := 0) (rm16n3 l Z a0 hw [] b0 fF h0 n0 Z0 ha3) hZ (wq hw 91 rfl) (wq hw 90 rfl) (by decide) (by decide)) (g := (mkF m 17 #[sR o0, sI 46, sI 0] [(.int 3), (.int 0), (.int 46), (.ref b0)])) rfl (by rw [hml]; rfl) (argsL := [(.ref b0), (.int 46), (.int 0), (.int 3)]) (rest := []) (lenOf pd_14 rfl) rfl (leW rfl) (hb hby d12_17) (fun _ _ => ⟨rfl, e3, (by decide : 0 + 0 + 0 + 0 ≤ _), (by decide : 0 + 0 + 0 + 0 ≤ _)⟩)
  dsimp only [Pt.U, Pt.locs, Pt.cells, Pt.slots] at X4 l4 y4 z4 st4 hQ4
  subst l4 y4 z4
  obtain ⟨rfl, N4q, e4⟩ := hQ4
  have N4 := Fr.app N3 N4q
  refine Go.via st4 ?_
  refine Vi (T4.setTop (mkF m 36 #[sR o0, sI 46, sI 0] [(.int (f16n3 b0 fF))])) (fun tZ kZ => ?_) ?_
  · refine XS.goto X4.here hx rfl (pc0 := 20) (pc' := 36) rfl (hb hby d12_20) (by decide) (by decide) ?_
    exact kZ
  refine Go.retI X4 hx Bd.notSynchronized Bd.returns (hb hby d12_36) (by decide) (by decide) ?_
  refine ⟨?_, N4, e4⟩
  show some ((.int (f16n3 b0 fF)) : Value) = some (.int (f12n3 o0 b0 fF cs))
  rfl
def f11n3 (o0 : Addr) (b0 : Addr) (fF : Nat → Int32) (cs : Int32) : Int32 := (f12n3 o0 b0 fF cs)
def Q11n3 (o0 : Addr) (b0 : Addr) (fF : Nat → Int32) (cs : Int32) (h0 : Heap) (n0 : Nat) (v : Option Value) (h : Heap) (L : List Loc) : Prop := v = some (.int (f11n3 o0 b0 fF cs)) ∧ Fr n0 L ∧ h = h0
theorem rm11n3 (l : Launch) (Z : State) (a0 : Array Value) (hw : HW a0 Z) (ws : List Jvm.Cond) (o0 : Addr) (b0 : Addr) (fF : Nat → Int32) (cs : Int32) (h0 : Heap) (n0 : Nat) (Z0 : n0 ≤ h0.size) (ha0 : Exa Z h0 o0 "java/lang/String") (ha1 : Fld Z h0 o0 "java/lang/String" "coder" "B" (.int 0)) (ha2 : Fld Z h0 o0 "java/lang/String" "value" "[B" (.ref b0)) (ha3 : AV Z h0 b0 .byte 3 (fun k => .int (fF k))) (ha4 : Sta Z h0 "java/lang/String" "COMPACT_STRINGS" "Z" (.int cs)) (hcs : ¬ cs = 0) :
    MetFree l y11 (head1 (Jvm.Cond.code y11 jdk_42_method_79_code 2 (some .int) :: ws) RM_3_0_0_46) (fun a U => a = #[(.ref o0), (.int 46)] ∧ Z.Warmed39 U.vm ∧ U.heap = h0) (fun _ _ _ _ _ => True) (fun _ U o U' => ∃ v L, o = .returned v ∧ Q11n3 o0 b0 fF cs h0 n0 v U'.heap L ∧ FrameEnd U o U' L RM_3_0_0_46.cells RM_3_0_0_46.slots) := by
  refine MetFree.of_bodySF (plainFor_of_name pn_0) hisR ?_
  intro p e s m args below meth c s₁ Bd hml0 hP hK
  obtain ⟨rfl, hZ, hh⟩ := hP
  have hx := Bd.exec
  have hby := Bd.bytes
  have hml : c.maxLocals = 2 := hml0
  have hown : s.vm.findClass "java/lang/String" = some m.cls := findClass_of_methodNamed Bd.named
  have X0 : Stand p l e RM_3_0_0_46 s m _ below meth c s₁ [] 0 0 := Stand.of_body Bd
  have e0 : s₁.heap = h0 := by rw [← hh, Bd.state]; rfl
  have N0 := Fr.nil n0
  refine Go.into (P := fun oo uu => ∃ v L, oo = .returned v ∧ Q11n3 o0 b0 fF cs h0 n0 v uu.heap L ∧ FrameEnd s oo uu L RM_3_0_0_46.cells RM_3_0_0_46.slots) (ef_11_aa m o0 (46 : Int32)) ?_
  show Go p e below _ (s₁.setTop (mkF m 0 #[sR o0, sI 46] []))
  refine Vi (s₁.setTop (mkF m 3 #[sR o0, sI 46] [(.int 0), (.int 46), (.ref o0)])) (fun tZ kZ => ?_) ?_
  · refine XS.aloadN X0.here hx rfl (hb hby d11_0) rfl rfl ?_
    refine XS.iloadN X0.here hx rfl (hb hby d11_1) rfl ?_
    refine XS.iconst X0.here hx rfl (hb hby d11_2) ?_
    exact kZ
  obtain ⟨cq1, kq1, q1a, q1b, q1c⟩ := isOf hZ e0 ha0
  obtain ⟨_, _, ⟨T1, L1, k1, n1⟩, -, X1, ⟨Lc1, hQ1, l1, y1, z1⟩, st1⟩ := X0.virtualBack hx (y := y12) (z := y12) hown (wz hZ hw 67 rfl) (wz hZ hw 68 rfl) (notFace_of_selects (args := #[]) (wz hZ hw 70 rfl)) (wz hZ hw 70 rfl) (wz hZ hw 69 rfl) (by decide) (backOf (W := 0) (rm12n3 l Z a0 hw [] o0 b0 fF cs h0 n0 Z0 ha0 ha1 ha2 ha3 ha4 hcs) hZ (wq hw 71 rfl) (wq hw 10 rfl) (by decide) (by decide)) q1a q1c (g := (mkF m 3 #[sR o0, sI 46] [(.int 0), (.int 46), (.ref o0)])) rfl (by rw [hml]; rfl) (Steps.refl _) (argsL := [(.int 46), (.int 0)]) (rest := []) (lenOf pd_10 rfl) rfl (leW rfl) (hb hby d11_3) (fun _ _ => ⟨rfl, e0, (by decide : 0 + 0 ≤ _), (by decide : 0 + 0 ≤ _)⟩)
  dsimp only [Pt.U, Pt.locs, Pt.cells, Pt.slots] at X1 l1 y1 z1 st1 hQ1
  subst l1 y1 z1
  obtain ⟨rfl, N1q, e1⟩ := hQ1
  have N1 := Fr.app N0 N1q
  refine Go.via (fun t k => st1.trans k) ?_
  refine Go.retI X1 hx Bd.notSynchronized Bd.returns (hb hby d11_6) (by decide) (by decide) ?_
  refine ⟨?_, N1, e1⟩
  show some ((.int (f12n3 o0 b0 fF cs)) : Value) = some (.int (f11n3 o0 b0 fF cs))
  rfl
theorem own_l3_0 (sn b0 : Addr) (fF : Nat → Int32) (cs : Int32) (h0 : ¬ fF (0 : Int32).toNatClampNeg = ((46 : Int32).toInt8.toInt32)) (h1 : ¬ fF (1 : Int32).toNatClampNeg = ((46 : Int32).toInt8.toInt32)) (h2 : ¬ fF (2 : Int32).toNatClampNeg = ((46 : Int32).toInt8.toInt32)) : (f11n3 sn b0 fF cs) = (-1 : Int32) := by unfold f11n3 f12n3 f16n3; unfold f23n3; rw [if_neg h0, if_neg h1, if_neg h2]; try rfl
theorem own_l3_1 (sn b0 : Addr) (fF : Nat → Int32) (cs : Int32) (h0 : fF (0 : Int32).toNatClampNeg = ((46 : Int32).toInt8.toInt32)) : (f11n3 sn b0 fF cs) = (Int32.ofNat 0) := by unfold f11n3 f12n3 f16n3; unfold f23n3; rw [if_pos h0]; try rfl
theorem own_l3_2 (sn b0 : Addr) (fF : Nat → Int32) (cs : Int32) (h0 : ¬ fF (0 : Int32).toNatClampNeg = ((46 : Int32).toInt8.toInt32)) (h1 : fF (1 : Int32).toNatClampNeg = ((46 : Int32).toInt8.toInt32)) : (f11n3 sn b0 fF cs) = (Int32.ofNat 1) := by unfold f11n3 f12n3 f16n3; unfold f23n3; rw [if_neg h0, if_pos h1]; try rfl
theorem own_l3_3 (sn b0 : Addr) (fF : Nat → Int32) (cs : Int32) (h0 : ¬ fF (0 : Int32).toNatClampNeg = ((46 : Int32).toInt8.toInt32)) (h1 : ¬ fF (1 : Int32).toNatClampNeg = ((46 : Int32).toInt8.toInt32)) (h2 : fF (2 : Int32).toNatClampNeg = ((46 : Int32).toInt8.toInt32)) : (f11n3 sn b0 fF cs) = (Int32.ofNat 2) := by unfold f11n3 f12n3 f16n3; unfold f23n3; rw [if_neg h0, if_neg h1, if_pos h2]; try rfl
def Q21n4 (Z : State) (o0 : Addr) (o2 : Addr) (cF : Nat → Int32) (bF : Nat → Int32) (h0 : Heap) (n0 : Nat) (v : Option Value) (h : Heap) (L : List Loc) : Prop := v = some (.int 4) ∧ Fr n0 L ∧ Keep h0 h [o2] ∧ AV Z h o0 .char 4 (fun k => .int (cF k)) ∧ AV Z h o2 .byte 4 (fun k => .int ((up (up (up (up bF (0 : Int32).toNatClampNeg (nar .byte ((cF (0 : Int32).toNatClampNeg).toInt8.toInt32))) (1 : Int32).toNatClampNeg (nar .byte ((cF (1 : Int32).toNatClampNeg).toInt8.toInt32))) (2 : Int32).toNatClampNeg (nar .byte ((cF (2 : Int32).toNatClampNeg).toInt8.toInt32))) (3 : Int32).toNatClampNeg (nar .byte ((cF (3 : Int32).toNatClampNeg).toInt8.toInt32))) k))
theorem rm21n4 (l : Launch) (Z : State) (a0 : Array Value) (hw : HW a0 Z) (ws : List Jvm.Cond) (o0 : Addr) (o2 : Addr) (cF : Nat → Int32) (bF : Nat → Int32) (h0 : Heap) (n0 : Nat) (Z0 : n0 ≤ h0.size) (ha0 : AV Z h0 o0 .char 4 (fun k => .int (cF k))) (ha1 : AV Z h0 o2 .byte 4 (fun k => .int (bF k))) (ha2 : n0 ≤ o2) (hne_o0_o2 : o0 ≠ o2) (hch0 : ¬ (255 : Int32) < (cF (0 : Int32).toNatClampNeg)) (hch1 : ¬ (255 : Int32) < (cF (1 : Int32).toNatClampNeg)) (hch2 : ¬ (255 : Int32) < (cF (2 : Int32).toNatClampNeg)) (hch3 : ¬ (255 : Int32) < (cF (3 : Int32).toNatClampNeg)) :
    MetFree l y21 (head1 (Jvm.Cond.code y21 jdk_52_method_21_code 7 (some .int) :: ws) RM_0_0_0_0) (fun a U => a = #[(.ref o0), (.int 0), (.ref o2), (.int 0), (.int 4)] ∧ Z.Warmed39 U.vm ∧ U.heap = h0) (fun _ _ _ _ _ => True) (fun _ U o U' => ∃ v L, o = .returned v ∧ Q21n4 Z o0 o2 cF bF h0 n0 v U'.heap L ∧ FrameEnd U o U' L RM_0_0_0_0.cells RM_0_0_0_0.slots) := by
  refine MetFree.of_bodySF (plainFor_of_name pn_7) hisR ?_
  intro p e s m args below meth c s₁ Bd hml0 hP hK
  obtain ⟨rfl, hZ, hh⟩ := hP
  have hx := Bd.exec
  have hby := Bd.bytes
  have hml : c.maxLocals = 7 := hml0
  have hown : s.vm.findClass "java/lang/StringUTF16" = some m.cls := findClass_of_methodNamed Bd.named
  have X0 : Stand p l e RM_0_0_0_0 s m _ below meth c s₁ [] 0 0 := Stand.of_body Bd
  have e0 : s₁.heap = h0 := by rw [← hh, Bd.state]; rfl
  have N0 := Fr.nil n0
  refine Go.into (P := fun oo uu => ∃ v L, oo = .returned v ∧ Q21n4 Z o0 o2 cF bF h0 n0 v uu.heap L ∧ FrameEnd s oo uu L RM_0_0_0_0.cells RM_0_0_0_0.slots) (ef_21_aaaaa m o0 (0 : Int32) o2 (0 : Int32) (4 : Int32)) ?_
  show Go p e below _ (s₁.setTop (mkF m 0 #[sR o0, sI 0, sR o2, sI 0, sI 4, .unset, .unset] []))
  refine Vi (s₁.setTop (mkF m 31 #[sR o0, sI 0, sR o2, sI 0, sI 4, sI 0, sI (cF (0 : Int32).toNatClampNeg)] [(.int ((cF (0 : Int32).toNatClampNeg).toInt8.toInt32)), (.int 0), (.ref o2)])) (fun tZ kZ => ?_) ?_
  · refine XS.iconst X0.here hx rfl (hb hby d21_0) ?_
    refine XS.istore X0.here hx rfl (hb hby d21_1) rfl (l' := #[sR o0, sI 0, sR o2, sI 0, sI 4, sI 0, .unset]) rfl ?_
    refine XS.iload X0.here hx rfl (hb hby d21_3) rfl ?_
    refine XS.iload X0.here hx rfl (hb hby d21_5) rfl ?_
    refine XS.icmpNo X0.here hx rfl (hb hby d21_7) rfl (tlt (by decide)).2.1 ?_
    refine XS.aloadN X0.here hx rfl (hb hby d21_10) rfl rfl ?_
    refine XS.iloadN X0.here hx rfl (hb hby d21_11) rfl ?_
    refine AV.caload ha0 X0 hx hZ e0 (j := (0 : Int32)) (by decide) (hb hby d21_12) ?_
    refine XS.istore X0.here hx rfl (hb hby d21_13) rfl (l' := #[sR o0, sI 0, sR o2, sI 0, sI 4, sI 0, sI (cF (0 : Int32).toNatClampNeg)]) rfl ?_
    refine XS.iload X0.here hx rfl (hb hby d21_15) rfl ?_
    refine XS.sipush X0.here hx rfl (hb hby d21_17) ?_
    refine XS.icmpYes X0.here hx rfl (pc0 := 20) (pc' := 26) rfl (hb hby d21_20) rfl (flt hch0).2.2.2 (by decide) (by decide) ?_
    refine XS.aloadN X0.here hx rfl (hb hby d21_26) rfl rfl ?_
    refine XS.iloadN X0.here hx rfl (hb hby d21_27) rfl ?_
    refine XS.iload X0.here hx rfl (hb hby d21_28) rfl ?_
    refine XS.i2b X0.here hx rfl (hb hby d21_30) rfl ?_
    exact kZ
  obtain ⟨T1, h1, X1, e1, W1, V1, st1⟩ := AV.bastoreB ha1 X0 hx hZ e0 (j := (0 : Int32)) (by decide) (Ls := #[sR o0, sI 0, sR o2, sI 0, sI 4, sI 0, sI (cF (0 : Int32).toNatClampNeg)]) (rest := []) (hb hby d21_31) (x := ((cF (0 : Int32).toNatClampNeg).toInt8.toInt32))
  have N1 := Fr.snoc X1 N0 ha2
  have c2_0 := ha0.other W1 hne_o0_o2
  have K1 : Keep h0 h1 [o2] := (Keep.refl h0 [o2]).wr W1 (Or.inl (by simp))
  have Z1 := Nat.le_trans Z0 (Keep.of_wr W1).1
  refine Go.via st1 ?_
  refine Vi (T1.setTop (mkF m 31 #[sR o0, sI 1, sR o2, sI 1, sI 4, sI 1, sI (cF (1 : Int32).toNatClampNeg)] [(.int ((cF (1 : Int32).toNatClampNeg).toInt8.toInt32)), (.int 1), (.ref o2)])) (fun tZ kZ => ?_) ?_
  · refine XS.iinc X1.here hx rfl (hb hby d21_32) rfl (l' := #[sR o0, sI 1, sR o2, sI 0, sI 4, sI 0, sI (cF (0 : Int32).toNatClampNeg)]) rfl ?_
    refine XS.iinc X1.here hx rfl (hb hby d21_35) rfl (l' := #[sR o0, sI 1, sR o2, sI 1, sI 4, sI 0, sI (cF (0 : Int32).toNatClampNeg)]) rfl ?_
    refine XS.iinc X1.here hx rfl (hb hby d21_38) rfl (l' := #[sR o0, sI 1, sR o2, sI 1, sI 4, sI 1, sI (cF (0 : Int32).toNatClampNeg)]) rfl ?_
    refine XS.goto X1.here hx rfl (pc0 := 41) (pc' := 3) rfl (hb hby d21_41) (by decide) (by decide) ?_
    refine XS.iload X1.here hx rfl (hb hby d21_3) rfl ?_
    refine XS.iload X1.here hx rfl (hb hby d21_5) rfl ?_
    refine XS.icmpNo X1.here hx rfl (hb hby d21_7) rfl (tlt (by decide)).2.1 ?_
    refine XS.aloadN X1.here hx rfl (hb hby d21_10) rfl rfl ?_
    refine XS.iloadN X1.here hx rfl (hb hby d21_11) rfl ?_
    refine AV.caload c2_0 X1 hx hZ e1 (j := (1 : Int32)) (by decide) (hb hby d21_12) ?_
    refine XS.istore X1.here hx rfl (hb hby d21_13) rfl (l' := #[sR o0, sI 1, sR o2, sI 1, sI 4, sI 1, sI (cF (1 : Int32).toNatClampNeg)]) rfl ?_
    refine XS.iload X1.here hx rfl (hb hby d21_15) rfl ?_
    refine XS.sipush X1.here hx rfl (hb hby d21_17) ?_
    refine XS.icmpYes X1.here hx rfl (pc0 := 20) (pc' := 26) rfl (hb hby d21_20) rfl (flt hch1).2.2.2 (by decide) (by decide) ?_
    refine XS.aloadN X1.here hx rfl (hb hby d21_26) rfl rfl ?_
    refine XS.iloadN X1.here hx rfl (hb hby d21_27) rfl ?_
    refine XS.iload X1.here hx rfl (hb hby d21_28) rfl ?_
    refine XS.i2b X1.here hx rfl (hb hby d21_30) rfl ?_
    exact kZ
  obtain ⟨T3, h3, X3, e3, W3, V3, st3⟩ := AV.bastoreB V1 X1 hx hZ e1 (j := (1 : Int32)) (by decide) (Ls := #[sR o0, sI 1, sR o2, sI 1, sI 4, sI 1, sI (cF (1 : Int32).toNatClampNeg)]) (rest := []) (hb hby d21_31) (x := ((cF (1 : Int32).toNatClampNeg).toInt8.toInt32))
  have N3 := Fr.snoc X3 N1 ha2
  have c4_0 := c2_0.other W3 hne_o0_o2
  have K3 : Keep h0 h3 [o2] := K1.wr W3 (Or.inl (by simp))
  have Z3 := Nat.le_trans Z1 (Keep.of_wr W3).1
  refine Go.via st3 ?_
  refine Vi (T3.setTop (mkF m 31 #[sR o0, sI 2, sR o2, sI 2, sI 4, sI 2, sI (cF (2 : Int32).toNatClampNeg)] [(.int ((cF (2 : Int32).toNatClampNeg).toInt8.toInt32)), (.int 2), (.ref o2)])) (fun tZ kZ => ?_) ?_
  · refine XS.iinc X3.here hx rfl (hb hby d21_32) rfl (l' := #[sR o0, sI 2, sR o2, sI 1, sI 4, sI 1, sI (cF (1 : Int32).toNatClampNeg)]) rfl ?_
    refine XS.iinc X3.here hx rfl (hb hby d21_35) rfl (l' := #[sR o0, sI 2, sR o2, sI 2, sI 4, sI 1, sI (cF (1 : Int32).toNatClampNeg)]) rfl ?_
    refine XS.iinc X3.here hx rfl (hb hby d21_38) rfl (l' := #[sR o0, sI 2, sR o2, sI 2, sI 4, sI 2, sI (cF (1 : Int32).toNatClampNeg)]) rfl ?_
    refine XS.goto X3.here hx rfl (pc0 := 41) (pc' := 3) rfl (hb hby d21_41) (by decide) (by decide) ?_
    refine XS.iload X3.here hx rfl (hb hby d21_3) rfl ?_
    refine XS.iload X3.here hx rfl (hb hby d21_5) rfl ?_
    refine XS.icmpNo X3.here hx rfl (hb hby d21_7) rfl (tlt (by decide)).2.1 ?_
    refine XS.aloadN X3.here hx rfl (hb hby d21_10) rfl rfl ?_
    refine XS.iloadN X3.here hx rfl (hb hby d21_11) rfl ?_
    refine AV.caload c4_0 X3 hx hZ e3 (j := (2 : Int32)) (by decide) (hb hby d21_12) ?_
    refine XS.istore X3.here hx rfl (hb hby d21_13) rfl (l' := #[sR o0, sI 2, sR o2, sI 2, sI 4, sI 2, sI (cF (2 : Int32).toNatClampNeg)]) rfl ?_
    refine XS.iload X3.here hx rfl (hb hby d21_15) rfl ?_
    refine XS.sipush X3.here hx rfl (hb hby d21_17) ?_
    refine XS.icmpYes X3.here hx rfl (pc0 := 20) (pc' := 26) rfl (hb hby d21_20) rfl (flt hch2).2.2.2 (by decide) (by decide) ?_
    refine XS.aloadN X3.here hx rfl (hb hby d21_26) rfl rfl ?_
    refine XS.iloadN X3.here hx rfl (hb hby d21_27) rfl ?_
    refine XS.iload X3.here hx rfl (hb hby d21_28) rfl ?_
    refine XS.i2b X3.here hx rfl (hb hby d21_30) rfl ?_
    exact kZ
  obtain ⟨T5, h5, X5, e5, W5, V5, st5⟩ := AV.bastoreB V3 X3 hx hZ e3 (j := (2 : Int32)) (by decide) (Ls := #[sR o0, sI 2, sR o2, sI 2, sI 4, sI 2, sI (cF (2 : Int32).toNatClampNeg)]) (rest := []) (hb hby d21_31) (x := ((cF (2 : Int32).toNatClampNeg).toInt8.toInt32))
  have N5 := Fr.snoc X5 N3 ha2
  have c6_0 := c4_0.other W5 hne_o0_o2
  have K5 : Keep h0 h5 [o2] := K3.wr W5 (Or.inl (by simp))
  have Z5 := Nat.le_trans Z3 (Keep.of_wr W5).1
  refine Go.via st5 ?_
  refine Vi (T5.setTop (mkF m 31 #[sR o0, sI 3, sR o2, sI 3, sI 4, sI 3, sI (cF (3 : Int32).toNatClampNeg)] [(.int ((cF (3 : Int32).toNatClampNeg).toInt8.toInt32)), (.int 3), (.ref o2)])) (fun tZ kZ => ?_) ?_
  · refine XS.iinc X5.here hx rfl (hb hby d21_32) rfl (l' := #[sR o0, sI 3, sR o2, sI 2, sI 4, sI 2, sI (cF (2 : Int32).toNatClampNeg)]) rfl ?_
    refine XS.iinc X5.here hx rfl (hb hby d21_35) rfl (l' := #[sR o0, sI 3, sR o2, sI 3, sI 4, sI 2, sI (cF (2 : Int32).toNatClampNeg)]) rfl ?_
    refine XS.iinc X5.here hx rfl (hb hby d21_38) rfl (l' := #[sR o0, sI 3, sR o2, sI 3, sI 4, sI 3, sI (cF (2 : Int32).toNatClampNeg)]) rfl ?_
    refine XS.goto X5.here hx rfl (pc0 := 41) (pc' := 3) rfl (hb hby d21_41) (by decide) (by decide) ?_
    refine XS.iload X5.here hx rfl (hb hby d21_3) rfl ?_
    refine XS.iload X5.here hx rfl (hb hby d21_5) rfl ?_
    refine XS.icmpNo X5.here hx rfl (hb hby d21_7) rfl (tlt (by decide)).2.1 ?_
    refine XS.aloadN X5.here hx rfl (hb hby d21_10) rfl rfl ?_
    refine XS.iloadN X5.here hx rfl (hb hby d21_11) rfl ?_
    refine AV.caload c6_0 X5 hx hZ e5 (j := (3 : Int32)) (by decide) (hb hby d21_12) ?_
    refine XS.istore X5.here hx rfl (hb hby d21_13) rfl (l' := #[sR o0, sI 3, sR o2, sI 3, sI 4, sI 3, sI (cF (3 : Int32).toNatClampNeg)]) rfl ?_
    refine XS.iload X5.here hx rfl (hb hby d21_15) rfl ?_
    refine XS.sipush X5.here hx rfl (hb hby d21_17) ?_
    refine XS.icmpYes X5.here hx rfl (pc0 := 20) (pc' := 26) rfl (hb hby d21_20) rfl (flt hch3).2.2.2 (by decide) (by decide) ?_
    refine XS.aloadN X5.here hx rfl (hb hby d21_26) rfl rfl ?_
    refine XS.iloadN X5.here hx rfl (hb hby d21_27) rfl ?_
    refine XS.iload X5.here hx rfl (hb hby d21_28) rfl ?_
    refine XS.i2b X5.here hx rfl (hb hby d21_30) rfl ?_
    exact kZ
  obtain ⟨T7, h7, X7, e7, W7, V7, st7⟩ := AV.bastoreB V5 X5 hx hZ e5 (j := (3 : Int32)) (by decide) (Ls := #[sR o0, sI 3, sR o2, sI 3, sI 4, sI 3, sI (cF (3 : Int32).toNatClampNeg)]) (rest := []) (hb hby d21_31) (x := ((cF (3 : Int32).toNatClampNeg).toInt8.toInt32))
  have N7 := Fr.snoc X7 N5 ha2
  have c8_0 := c6_0.other W7 hne_o0_o2
  have K7 : Keep h0 h7 [o2] := K5.wr W7 (Or.inl (by simp))
  have Z7 := Nat.le_trans Z5 (Keep.of_wr W7).1
  refine Go.via st7 ?_
  refine Vi (T7.setTop (mkF m 46 #[sR o0, sI 4, sR o2, sI 4, sI 4, sI 4, sI (cF (3 : Int32).toNatClampNeg)] [(.int 4)])) (fun tZ kZ => ?_) ?_
  · refine XS.iinc X7.here hx rfl (hb hby d21_32) rfl (l' := #[sR o0, sI 4, sR o2, sI 3, sI 4, sI 3, sI (cF (3 : Int32).toNatClampNeg)]) rfl ?_
    refine XS.iinc X7.here hx rfl (hb hby d21_35) rfl (l' := #[sR o0, sI 4, sR o2, sI 4, sI 4, sI 3, sI (cF (3 : Int32).toNatClampNeg)]) rfl ?_
    refine XS.iinc X7.here hx rfl (hb hby d21_38) rfl (l' := #[sR o0, sI 4, sR o2, sI 4, sI 4, sI 4, sI (cF (3 : Int32).toNatClampNeg)]) rfl ?_
    refine XS.goto X7.here hx rfl (pc0 := 41) (pc' := 3) rfl (hb hby d21_41) (by decide) (by decide) ?_
    refine XS.iload X7.here hx rfl (hb hby d21_3) rfl ?_
    refine XS.iload X7.here hx rfl (hb hby d21_5) rfl ?_
    refine XS.icmpYes X7.here hx rfl (pc0 := 7) (pc' := 44) rfl (hb hby d21_7) rfl (flt (by decide)).2.1 (by decide) (by decide) ?_
    refine XS.iload X7.here hx rfl (hb hby d21_44) rfl ?_
    exact kZ
  refine Go.retI X7 hx Bd.notSynchronized Bd.returns (hb hby d21_46) (by decide) (by decide) ?_
  rw [e7]
  exact ⟨rfl, N7, K7, c8_0, V7⟩
def Q20n4 (Z : State) (o0 : Addr) (cF : Nat → Int32) (h0 : Heap) (n0 : Nat) (v : Option Value) (h : Heap) (L : List Loc) : Prop := ∃ b1 : Addr, v = some (.ref b1) ∧ Fr n0 L ∧ Keep h0 h [] ∧ h0.size ≤ b1 ∧ AV Z h o0 .char 4 (fun k => .int (cF k)) ∧ AV Z h b1 .byte 4 (fun k => .int ((up (up (up (up (fun _ => (0 : Int32)) (0 : Int32).toNatClampNeg (nar .byte ((cF (0 : Int32).toNatClampNeg).toInt8.toInt32))) (1 : Int32).toNatClampNeg (nar .byte ((cF (1 : Int32).toNatClampNeg).toInt8.toInt32))) (2 : Int32).toNatClampNeg (nar .byte ((cF (2 : Int32).toNatClampNeg).toInt8.toInt32))) (3 : Int32).toNatClampNeg (nar .byte ((cF (3 : Int32).toNatClampNeg).toInt8.toInt32))) k))
abbrev RM_1_1_4_18 : Room := { frames := 1, cells := 1, slots := 4, locals := 18 }
theorem rm20n4 (l : Launch) (Z : State) (a0 : Array Value) (hw : HW a0 Z) (ws : List Jvm.Cond) (o0 : Addr) (cF : Nat → Int32) (h0 : Heap) (n0 : Nat) (Z0 : n0 ≤ h0.size) (ha0 : AV Z h0 o0 .char 4 (fun k => .int (cF k))) (hch0 : ¬ (255 : Int32) < (cF (0 : Int32).toNatClampNeg)) (hch1 : ¬ (255 : Int32) < (cF (1 : Int32).toNatClampNeg)) (hch2 : ¬ (255 : Int32) < (cF (2 : Int32).toNatClampNeg)) (hch3 : ¬ (255 : Int32) < (cF (3 : Int32).toNatClampNeg)) :
    MetFree l y20 (head1 (Jvm.Cond.code y20 jdk_52_method_16_code 6 (some (.array .byte)) :: ws) RM_1_1_4_18) (fun a U => a = #[(.ref o0), (.int 0), (.int 4)] ∧ Z.Warmed39 U.vm ∧ U.heap = h0) (fun _ _ _ _ _ => True) (fun _ U o U' => ∃ v L, o = .returned v ∧ Q20n4 Z o0 cF h0 n0 v U'.heap L ∧ FrameEnd U o U' L RM_1_1_4_18.cells RM_1_1_4_18.slots) := by
  refine MetFree.of_bodySF (plainFor_of_name pn_7) hisR ?_
  intro p e s m args below meth c s₁ Bd hml0 hP hK
  obtain ⟨rfl, hZ, hh⟩ := hP
  have hx := Bd.exec
  have hby := Bd.bytes
  have hml : c.maxLocals = 6 := hml0
  have hown : s.vm.findClass "java/lang/StringUTF16" = some m.cls := findClass_of_methodNamed Bd.named
  have X0 : Stand p l e RM_1_1_4_18 s m _ below meth c s₁ [] 0 0 := Stand.of_body Bd
  have e0 : s₁.heap = h0 := by rw [← hh, Bd.state]; rfl
  have N0 := Fr.nil n0
  refine Go.into (P := fun oo uu => ∃ v L, oo = .returned v ∧ Q20n4 Z o0 cF h0 n0 v uu.heap L ∧ FrameEnd s oo uu L RM_1_1_4_18.cells RM_1_1_4_18.slots) (ef_20_aaa m o0 (0 : Int32) (4 : Int32)) ?_
  show Go p e below _ (s₁.setTop (mkF m 0 #[sR o0, sI 0, sI 4, .unset, .unset, .unset] []))
  refine Vi (s₁.setTop (mkF m 1 #[sR o0, sI 0, sI 4, .unset, .unset, .unset] [(.int 4)])) (fun tZ kZ => ?_) ?_
  · refine XS.iloadN X0.here hx rfl (hb hby d20_0) rfl ?_
    exact kZ
  obtain ⟨T1, h1, k1, X1, e1, E1, A1, B1, st1⟩ := newPE X0 hx hZ (wq hw 23 rfl) e0 (g := (mkF m 1 #[sR o0, sI 0, sI 4, .unset, .unset, .unset] [(.int 4)])) rfl (hb hby d20_1) rfl (by decide) (cap := 4) (by decide) (by decide) (by decide) (by decide) (ad := "[B") rfl
  obtain ⟨b1, g1⟩ : ∃ z, z = h0.size := ⟨_, rfl⟩
  rw [← g1] at A1 B1 st1
  have g_b1 : n0 ≤ b1 := Nat.le_trans Z0 (Nat.le_of_eq g1.symm)
  have sz_b1 : h0.size ≤ b1 := Nat.le_trans ((Keep.refl h0 [])).1 (Nat.le_of_eq g1.symm)
  have ne_o0_b1 : o0 ≠ b1 := Nat.ne_of_lt (Nat.lt_of_lt_of_le ha0.lt (Nat.le_of_eq g1.symm))
  have c2_0 := ha0.ext E1
  have K1 : Keep h0 h1 [] := (Keep.refl h0 []).ext E1
  have Z1 := Nat.le_trans Z0 E1.1
  have V1 : AV Z h1 b1 .byte 4 (fun k => .int ((fun _ => (0 : Int32)) k)) := by have q := AV.new A1; exact q
  refine Go.via st1 ?_
  refine Vi (T1.setTop (mkF m 9 #[sR o0, sI 0, sI 4, sR b1, .unset, .unset] [(.int 4), (.int 0), (.ref b1), (.int 0), (.ref o0)])) (fun tZ kZ => ?_) ?_
  · refine XS.astoreN X1.here hx rfl (hb hby d20_3) rfl rfl (l' := #[sR o0, sI 0, sI 4, sR b1, .unset, .unset]) rfl ?_
    refine XS.aloadN X1.here hx rfl (hb hby d20_4) rfl rfl ?_
    refine XS.iloadN X1.here hx rfl (hb hby d20_5) rfl ?_
    refine XS.aloadN X1.here hx rfl (hb hby d20_6) rfl rfl ?_
    refine XS.iconst X1.here hx rfl (hb hby d20_7) ?_
    refine XS.iloadN X1.here hx rfl (hb hby d20_8) rfl ?_
    exact kZ
  obtain ⟨_, _, ⟨T3, L3, k3, n3⟩, -, X3, ⟨Lc3, hQ3, l3, y3, z3⟩, st3⟩ := Jvm.LawKit.callS X1 hx (y := y21) hown (wz hZ hw 107 rfl) (wz hZ hw 108 rfl) (wz hZ hw 105 rfl) (wz hZ hw 109 rfl) (by decide) (backOf (W := 0) (rm21n4 l Z a0 hw [] o0 b1 cF (fun _ => (0 : Int32)) h1 n0 Z1 c2_0 V1 g_b1 ne_o0_b1 hch0 hch1 hch2 hch3) hZ (wq hw 109 rfl) (wq hw 105 rfl) (by decide) (by decide)) (g := (mkF m 9 #[sR o0, sI 0, sI 4, sR b1, .unset, .unset] [(.int 4), (.int 0), (.ref b1), (.int 0), (.ref o0)])) rfl (by rw [hml]; rfl) (argsL := [(.ref o0), (.int 0), (.ref b1), (.int 0), (.int 4)]) (rest := []) (lenOf pd_17 rfl) rfl (leW rfl) (hb hby d20_9) (fun _ _ => ⟨rfl, e1, (by decide : 0 + 1 + 0 ≤ _), (by decide : 0 + 4 + 0 ≤ _)⟩)
  dsimp only [Pt.U, Pt.locs, Pt.cells, Pt.slots] at X3 l3 y3 z3 st3 hQ3
  subst l3 y3 z3
  obtain ⟨rfl, N3q, Kq3, f3_0, f3_1⟩ := hQ3
  have K3 : Keep h0 T3.heap [] := K1.trans Kq3 (allS (Or.inr sz_b1) all0)
  have Z3 := Nat.le_trans Z1 Kq3.1
  have N3 := Fr.app N0 N3q
  refine Go.via st3 ?_
  refine Vi (T3.setTop (mkF m 58 #[sR o0, sI 0, sI 4, sR b1, sI 4, .unset] [(.ref b1)])) (fun tZ kZ => ?_) ?_
  · refine XS.istore X3.here hx rfl (hb hby d20_12) rfl (l' := #[sR o0, sI 0, sI 4, sR b1, sI 4, .unset]) rfl ?_
    refine XS.iload X3.here hx rfl (hb hby d20_14) rfl ?_
    refine XS.iloadN X3.here hx rfl (hb hby d20_16) rfl ?_
    refine XS.icmpYes X3.here hx rfl (pc0 := 17) (pc' := 57) rfl (hb hby d20_17) rfl (teq (by decide)).1 (by decide) (by decide) ?_
    refine XS.aloadN X3.here hx rfl (hb hby d20_57) rfl rfl ?_
    exact kZ
  refine Go.retR X3 hx Bd.notSynchronized Bd.returns rfl rfl (hb hby d20_58) (by decide) (by decide) ?_
  exact ⟨b1, rfl, N3, K3, sz_b1, f3_0, f3_1⟩
def f22n4 (o0 : Addr) (bF : Nat → Int32) : Int32 := (nar .byte ((((0 : Int32).toUInt32 >>> ((31 : Int32) &&& 31).toUInt32).toInt32).toInt8.toInt32))
def Q22n4 (o0 : Addr) (bF : Nat → Int32) (h0 : Heap) (n0 : Nat) (v : Option Value) (h : Heap) (L : List Loc) : Prop := v = some (.int (f22n4 o0 bF)) ∧ Fr n0 L ∧ h = h0
theorem rm22n4 (l : Launch) (Z : State) (a0 : Array Value) (hw : HW a0 Z) (ws : List Jvm.Cond) (o0 : Addr) (bF : Nat → Int32) (h0 : Heap) (n0 : Nat) (Z0 : n0 ≤ h0.size) (ha0 : AV Z h0 o0 .byte 4 (fun k => .int (bF k))) :
    MetFree l y22 (head1 (Jvm.Cond.code y22 jdk_52_method_15_code 2 (some .byte) :: ws) RM_0_0_0_0) (fun a U => a = #[(.ref o0), (.int 4)] ∧ Z.Warmed39 U.vm ∧ U.heap = h0) (fun _ _ _ _ _ => True) (fun _ U o U' => ∃ v L, o = .returned v ∧ Q22n4 o0 bF h0 n0 v U'.heap L ∧ FrameEnd U o U' L RM_0_0_0_0.cells RM_0_0_0_0.slots) := by
  refine MetFree.of_bodySF (plainFor_of_name pn_7) hisR ?_
  intro p e s m args below meth c s₁ Bd hml0 hP hK
  obtain ⟨rfl, hZ, hh⟩ := hP
  have hx := Bd.exec
  have hby := Bd.bytes
  have hml : c.maxLocals = 2 := hml0
  have hown : s.vm.findClass "java/lang/StringUTF16" = some m.cls := findClass_of_methodNamed Bd.named
  have X0 : Stand p l e RM_0_0_0_0 s m _ below meth c s₁ [] 0 0 := Stand.of_body Bd
  have e0 : s₁.heap = h0 := by rw [← hh, Bd.state]; rfl
  have N0 := Fr.nil n0
  refine Go.into (P := fun oo uu => ∃ v L, oo = .returned v ∧ Q22n4 o0 bF h0 n0 v uu.heap L ∧ FrameEnd s oo uu L RM_0_0_0_0.cells RM_0_0_0_0.slots) (ef_22_aa m o0 (4 : Int32)) ?_
  show Go p e below _ (s₁.setTop (mkF m 0 #[sR o0, sI 4] []))
  refine Vi (s₁.setTop (mkF m 8 #[sR o0, sI 4] [(.int ((((0 : Int32).toUInt32 >>> ((31 : Int32) &&& 31).toUInt32).toInt32).toInt8.toInt32))])) (fun tZ kZ => ?_) ?_
  · refine XS.iloadN X0.here hx rfl (hb hby d22_0) rfl ?_
    refine XS.aloadN X0.here hx rfl (hb hby d22_1) rfl rfl ?_
    refine AV.len ha0 X0 hx hZ e0 (hb hby d22_2) ?_
    refine XS.isub X0.here hx rfl (hb hby d22_3) rfl ?_
    refine XS.bipush X0.here hx rfl (hb hby d22_4) ?_
    refine XS.iushr X0.here hx rfl (hb hby d22_6) rfl ?_
    refine XS.i2b X0.here hx rfl (hb hby d22_7) rfl ?_
    exact kZ
  refine Go.retN X0 hx Bd.notSynchronized (t := .byte) Bd.returns (by simp) (hb hby d22_8) (by decide) (by decide) ?_
  refine ⟨?_, N0, e0⟩
  show some ((Value.int (nar .byte ((((0 : Int32).toUInt32 >>> ((31 : Int32) &&& 31).toUInt32).toInt32).toInt8.toInt32))) : Value) = some (.int (f22n4 o0 bF))
  rfl
def Q4n4 (Z : State) (o0 : Addr) (o1 : Addr) (cF : Nat → Int32) (cs : Int32) (h0 : Heap) (n0 : Nat) (v : Option Value) (h : Heap) (L : List Loc) : Prop := ∃ b3_0 : Addr, v = none ∧ Fr n0 L ∧ Keep h0 h [o0] ∧ h0.size ≤ b3_0 ∧ Exa Z h o0 "java/lang/String" ∧ Fld Z h o0 "java/lang/String" "value" "[B" (.ref b3_0) ∧ Fld Z h o0 "java/lang/String" "coder" "B" (.int 0) ∧ AV Z h o1 .char 4 (fun k => .int (cF k)) ∧ Sta Z h "java/lang/String" "COMPACT_STRINGS" "Z" (.int cs) ∧ AV Z h b3_0 .byte 4 (fun k => .int ((up (up (up (up (fun _ => (0 : Int32)) (0 : Int32).toNatClampNeg (nar .byte ((cF (0 : Int32).toNatClampNeg).toInt8.toInt32))) (1 : Int32).toNatClampNeg (nar .byte ((cF (1 : Int32).toNatClampNeg).toInt8.toInt32))) (2 : Int32).toNatClampNeg (nar .byte ((cF (2 : Int32).toNatClampNeg).toInt8.toInt32))) (3 : Int32).toNatClampNeg (nar .byte ((cF (3 : Int32).toNatClampNeg).toInt8.toInt32))) k))
abbrev RM_2_1_4_35 : Room := { frames := 2, cells := 1, slots := 4, locals := 35 }
theorem rm4n4 (l : Launch) (Z : State) (a0 : Array Value) (hw : HW a0 Z) (ws : List Jvm.Cond) (o0 : Addr) (o1 : Addr) (cF : Nat → Int32) (cs : Int32) (h0 : Heap) (n0 : Nat) (Z0 : n0 ≤ h0.size) (ha0 : Exa Z h0 o0 "java/lang/String") (ha1 : Fld Z h0 o0 "java/lang/String" "value" "[B" .null) (ha2 : Fld Z h0 o0 "java/lang/String" "coder" "B" (.int 0)) (ha3 : n0 ≤ o0) (ha4 : AV Z h0 o1 .char 4 (fun k => .int (cF k))) (ha5 : Sta Z h0 "java/lang/String" "COMPACT_STRINGS" "Z" (.int cs)) (hne_o1_o0 : o1 ≠ o0) (hch0 : ¬ (255 : Int32) < (cF (0 : Int32).toNatClampNeg)) (hch1 : ¬ (255 : Int32) < (cF (1 : Int32).toNatClampNeg)) (hch2 : ¬ (255 : Int32) < (cF (2 : Int32).toNatClampNeg)) (hch3 : ¬ (255 : Int32) < (cF (3 : Int32).toNatClampNeg)) (hcs : ¬ cs = 0) :
    MetFree l y4 (head1 (Jvm.Cond.code y4 jdk_42_method_149_code 6 none :: ws) RM_2_1_4_35) (fun a U => a = #[(.ref o0), (.ref o1), (.int 0), (.int 4), .null] ∧ Z.Warmed39 U.vm ∧ U.heap = h0) (fun _ _ _ _ _ => True) (fun _ U o U' => ∃ v L, o = .returned v ∧ Q4n4 Z o0 o1 cF cs h0 n0 v U'.heap L ∧ FrameEnd U o U' L RM_2_1_4_35.cells RM_2_1_4_35.slots) := by
  refine MetFree.of_bodySF (plainFor_of_name pn_0) hisR ?_
  intro p e s m args below meth c s₁ Bd hml0 hP hK
  obtain ⟨rfl, hZ, hh⟩ := hP
  have hx := Bd.exec
  have hby := Bd.bytes
  have hml : c.maxLocals = 6 := hml0
  have hown : s.vm.findClass "java/lang/String" = some m.cls := findClass_of_methodNamed Bd.named
  have hnm := (name_of_methodNamed Bd.named Bd.method).1
  have X0 : Stand p l e RM_2_1_4_35 s m _ below meth c s₁ [] 0 0 := Stand.of_body Bd
  have e0 : s₁.heap = h0 := by rw [← hh, Bd.state]; rfl
  have N0 := Fr.nil n0
  refine Go.into (P := fun oo uu => ∃ v L, oo = .returned v ∧ Q4n4 Z o0 o1 cF cs h0 n0 v uu.heap L ∧ FrameEnd s oo uu L RM_2_1_4_35.cells RM_2_1_4_35.slots) (ef_4_aaaan m o0 o1 (0 : Int32) (4 : Int32)) ?_
  show Go p e below _ (s₁.setTop (mkF m 0 #[sR o0, sR o1, sI 0, sI 4, .val .null, .unset] []))
  refine Vi (s₁.setTop (mkF m 1 #[sR o0, sR o1, sI 0, sI 4, .val .null, .unset] [(.ref o0)])) (fun tZ kZ => ?_) ?_
  · refine XS.aloadN X0.here hx rfl (hb hby d4_0) rfl rfl ?_
    exact kZ
  obtain ⟨T1, X1, e1, st1⟩ := initO X0 hx hZ hown (wq hw 19 rfl) (wq hw 20 rfl) (wq hw 21 rfl) e0 (g := (mkF m 1 #[sR o0, sR o1, sI 0, sI 4, .val .null, .unset] [(.ref o0)])) rfl (by rw [hml]; rfl) rfl (hb hby d4_1) (by decide) (W := 0) (by show 2 * 0 + _ ≤ _; exact Nat.le_of_eq rfl) (by decide)
  refine Go.via st1 ?_
  refine Vi (T1.setTop (mkF m 27 #[sR o0, sR o1, sI 0, sI 4, .val .null, .unset] [])) (fun tZ kZ => ?_) ?_
  · refine XS.iloadN X1.here hx rfl (hb hby d4_4) rfl ?_
    refine XS.ifYes X1.here hx rfl (pc0 := 5) (pc' := 27) rfl (hb hby d4_5) rfl ((if0 _ _).trans (feq (by decide)).2) (by decide) (by decide) ?_
    exact kZ
  obtain ⟨T2, X2, e2, st2⟩ := getS2 X1 hx hZ hown (host := "") (Or.inl (wq hw 77 rfl)) Via.refl e1 ha5 (g := (mkF m 27 #[sR o0, sR o1, sI 0, sI 4, .val .null, .unset] [])) rfl (hb hby d4_27)
  refine Go.via st2 ?_
  refine Vi (T2.setTop (mkF m 36 #[sR o0, sR o1, sI 0, sI 4, .val .null, .unset] [(.int 4), (.int 0), (.ref o1)])) (fun tZ kZ => ?_) ?_
  · refine XS.ifNo X2.here hx rfl (hb hby d4_30) rfl ((if0 _ _).trans (feq hcs).1) ?_
    refine XS.aloadN X2.here hx rfl (hb hby d4_33) rfl rfl ?_
    refine XS.iloadN X2.here hx rfl (hb hby d4_34) rfl ?_
    refine XS.iloadN X2.here hx rfl (hb hby d4_35) rfl ?_
    exact kZ
  obtain ⟨_, _, ⟨T3, L3, k3, n3⟩, -, X3, ⟨Lc3, hQ3, l3, y3, z3⟩, st3⟩ := Jvm.LawKit.callS X2 hx (y := y20) hown (wz hZ hw 103 rfl) (wz hZ hw 104 rfl) (wz hZ hw 105 rfl) (wz hZ hw 106 rfl) (by decide) (backOf (W := 0) (rm20n4 l Z a0 hw [] o1 cF h0 n0 Z0 ha4 hch0 hch1 hch2 hch3) hZ (wq hw 106 rfl) (wq hw 105 rfl) (by decide) (by decide)) (g := (mkF m 36 #[sR o0, sR o1, sI 0, sI 4, .val .null, .unset] [(.int 4), (.int 0), (.ref o1)])) rfl (by rw [hml]; rfl) (argsL := [(.ref o1), (.int 0), (.int 4)]) (rest := []) (lenOf pd_16 rfl) rfl (leW rfl) (hb hby d4_36) (fun _ _ => ⟨rfl, e2, (by decide : 0 + 1 ≤ _), (by decide : 0 + 4 ≤ _)⟩)
  dsimp only [Pt.U, Pt.locs, Pt.cells, Pt.slots] at X3 l3 y3 z3 st3 hQ3
  subst l3 y3 z3
  obtain ⟨b3_0, rfl, N3q, Kq3, hz_b3_0, f3_0, f3_1⟩ := hQ3
  have g_b3_0 : n0 ≤ b3_0 := Nat.le_trans Z0 hz_b3_0
  have sz_b3_0 : h0.size ≤ b3_0 := Nat.le_trans ((Keep.refl h0 [o0])).1 hz_b3_0
  have ne_o0_b3_0 : o0 ≠ b3_0 := Nat.ne_of_lt (Nat.lt_of_lt_of_le ha0.lt hz_b3_0)
  have ne_o1_b3_0 : o1 ≠ b3_0 := Nat.ne_of_lt (Nat.lt_of_lt_of_le ha4.lt hz_b3_0)
  have c4_0 := ha0.keep Kq3
  have c4_1 := ha1.keep Kq3 nin0
  have c4_2 := ha2.keep Kq3 nin0
  have c4_5 := own_sk ha5 Kq3 (fun _ _ _ _ => nin0)
  have K3 : Keep h0 T3.heap [o0] := (Keep.refl h0 [o0]).trans Kq3 all0
  have Z3 := Nat.le_trans Z0 Kq3.1
  have N3 := Fr.app N0 N3q
  refine Go.via st3 ?_
  refine Vi (T3.setTop (mkF m 45 #[sR o0, sR o1, sI 0, sI 4, .val .null, sR b3_0] [(.int 4), (.ref b3_0), (.ref o0)])) (fun tZ kZ => ?_) ?_
  · refine XS.astore X3.here hx rfl (hb hby d4_39) rfl rfl (l' := #[sR o0, sR o1, sI 0, sI 4, .val .null, sR b3_0]) rfl ?_
    refine XS.aloadN X3.here hx rfl (hb hby d4_41) rfl rfl ?_
    refine XS.aload X3.here hx rfl (hb hby d4_42) rfl rfl ?_
    refine XS.iloadN X3.here hx rfl (hb hby d4_44) rfl ?_
    exact kZ
  obtain ⟨_, _, ⟨T5, L5, k5, n5⟩, -, X5, ⟨Lc5, hQ5, l5, y5, z5⟩, st5⟩ := Jvm.LawKit.callS X3 hx (y := y22) hown (wz hZ hw 110 rfl) (wz hZ hw 111 rfl) (wz hZ hw 105 rfl) (wz hZ hw 112 rfl) (by decide) (backOf (W := 1) (rm22n4 l Z a0 hw [] b3_0 (up (up (up (up (fun _ => (0 : Int32)) (0 : Int32).toNatClampNeg (nar .byte ((cF (0 : Int32).toNatClampNeg).toInt8.toInt32))) (1 : Int32).toNatClampNeg (nar .byte ((cF (1 : Int32).toNatClampNeg).toInt8.toInt32))) (2 : Int32).toNatClampNeg (nar .byte ((cF (2 : Int32).toNatClampNeg).toInt8.toInt32))) (3 : Int32).toNatClampNeg (nar .byte ((cF (3 : Int32).toNatClampNeg).toInt8.toInt32))) T3.heap n0 Z3 f3_1) hZ (wq hw 112 rfl) (wq hw 105 rfl) (by decide) (by decide)) (g := (mkF m 45 #[sR o0, sR o1, sI 0, sI 4, .val .null, sR b3_0] [(.int 4), (.ref b3_0), (.ref o0)])) rfl (by rw [hml]; rfl) (argsL := [(.ref b3_0), (.int 4)]) (rest := [(.ref o0)]) (lenOf pd_18 rfl) rfl (leW rfl) (hb hby d4_45) (fun _ _ => ⟨rfl, rfl, (by decide : 0 + 1 + 0 ≤ _), (by decide : 0 + 4 + 0 ≤ _)⟩)
  dsimp only [Pt.U, Pt.locs, Pt.cells, Pt.slots] at X5 l5 y5 z5 st5 hQ5
  subst l5 y5 z5
  obtain ⟨rfl, N5q, e5⟩ := hQ5
  have hv5 : (f22n4 b3_0 (up (up (up (up (fun _ => (0 : Int32)) (0 : Int32).toNatClampNeg (nar .byte ((cF (0 : Int32).toNatClampNeg).toInt8.toInt32))) (1 : Int32).toNatClampNeg (nar .byte ((cF (1 : Int32).toNatClampNeg).toInt8.toInt32))) (2 : Int32).toNatClampNeg (nar .byte ((cF (2 : Int32).toNatClampNeg).toInt8.toInt32))) (3 : Int32).toNatClampNeg (nar .byte ((cF (3 : Int32).toNatClampNeg).toInt8.toInt32)))) = (0 : Int32) := by unfold f22n4; decide
  rw [hv5] at st5
  have N5 := Fr.app N3 N5q
  refine Go.via st5 ?_
  obtain ⟨T6, h6, X6, e6, W6, st6⟩ := putFN X5 hx hZ hown (wq hw 29 rfl) Via.refl e5 c4_2 c4_0 (Or.inr ⟨(wq hw 25 rfl), rfl, hnm⟩) (wq hw 9 rfl) (ty := .byte) (v' := (.int (nar .byte (0 : Int32)))) (by decide) rfl (fits_nar_byte _) (g := (mkF m 48 #[sR o0, sR o1, sI 0, sI 4, .val .null, sR b3_0] [(.int 0), (.ref o0)])) rfl rfl (hb hby d4_48)
  have N6 := Fr.snoc X6 N5 ha3
  have c7_0 := c4_0.wr W6
  have c7_1 := c4_1.other W6 (Or.inr (slot_ne (Or.inr (wq hw 24 rfl)) (Or.inr (wq hw 25 rfl)) (by decide) (t := (.array .byte)) (t' := .byte) (by decide) (by decide)))
  have c7_4 := f3_0.other W6 hne_o1_o0
  have c7_5 := c4_5.wr W6
  have c7_6 := f3_1.other W6 (Ne.symm ne_o0_b3_0)
  have K6 : Keep h0 h6 [o0] := K3.wr W6 (Or.inl (by simp))
  have Z6 := Nat.le_trans Z3 (Keep.of_wr W6).1
  have Fw6 : Fld Z h6 o0 "java/lang/String" "coder" "B" (.int 0) := c4_2.same W6
  refine Go.via st6 ?_
  refine Vi (T6.setTop (mkF m 54 #[sR o0, sR o1, sI 0, sI 4, .val .null, sR b3_0] [(.ref b3_0), (.ref o0)])) (fun tZ kZ => ?_) ?_
  · refine XS.aloadN X6.here hx rfl (hb hby d4_51) rfl rfl ?_
    refine XS.aload X6.here hx rfl (hb hby d4_52) rfl rfl ?_
    exact kZ
  obtain ⟨T8, h8, X8, e8, W8, st8⟩ := putF X6 hx hZ hown (host := "") (Or.inl (wq hw 28 rfl)) Via.refl e6 c7_1 c7_0 (Or.inr ⟨(wq hw 24 rfl), rfl, hnm⟩) (wq hw 9 rfl) (ty := (.array .byte)) (by decide) rfl rfl (g := (mkF m 54 #[sR o0, sR o1, sI 0, sI 4, .val .null, sR b3_0] [(.ref b3_0), (.ref o0)])) rfl rfl (hb hby d4_54)
  have N8 := Fr.snoc X8 N6 ha3
  have c9_0 := c7_0.wr W8
  have c9_2 := Fw6.other W8 (Or.inr (slot_ne (Or.inr (wq hw 25 rfl)) (Or.inr (wq hw 24 rfl)) (by decide) (t := .byte) (t' := (.array .byte)) (by decide) (by decide)))
  have c9_4 := c7_4.other W8 hne_o1_o0
  have c9_5 := c7_5.wr W8
  have c9_6 := c7_6.other W8 (Ne.symm ne_o0_b3_0)
  have K8 : Keep h0 h8 [o0] := K6.wr W8 (Or.inl (by simp))
  have Z8 := Nat.le_trans Z6 (Keep.of_wr W8).1
  have Fw8 := c7_1.same W8
  refine Go.via st8 ?_
  refine Go.retV X8 hx Bd.notSynchronized Bd.returns (hb hby d4_57) (by decide) (by decide) ?_
  rw [e8]
  exact ⟨b3_0, rfl, N8, K8, sz_b3_0, c9_0, Fw8, c9_2, c9_4, c9_5, c9_6⟩
def Q3n4 (Z : State) (o0 : Addr) (o1 : Addr) (cF : Nat → Int32) (cs : Int32) (h0 : Heap) (n0 : Nat) (v : Option Value) (h : Heap) (L : List Loc) : Prop := ∃ b1_0 : Addr, v = none ∧ Fr n0 L ∧ Keep h0 h [o0] ∧ h0.size ≤ b1_0 ∧ Exa Z h o0 "java/lang/String" ∧ Fld Z h o0 "java/lang/String" "value" "[B" (.ref b1_0) ∧ Fld Z h o0 "java/lang/String" "coder" "B" (.int 0) ∧ AV Z h o1 .char 4 (fun k => .int (cF k)) ∧ Sta Z h "java/lang/String" "COMPACT_STRINGS" "Z" (.int cs) ∧ AV Z h b1_0 .byte 4 (fun k => .int ((up (up (up (up (fun _ => (0 : Int32)) (0 : Int32).toNatClampNeg (nar .byte ((cF (0 : Int32).toNatClampNeg).toInt8.toInt32))) (1 : Int32).toNatClampNeg (nar .byte ((cF (1 : Int32).toNatClampNeg).toInt8.toInt32))) (2 : Int32).toNatClampNeg (nar .byte ((cF (2 : Int32).toNatClampNeg).toInt8.toInt32))) (3 : Int32).toNatClampNeg (nar .byte ((cF (3 : Int32).toNatClampNeg).toInt8.toInt32))) k))
abbrev RM_3_1_4_52 : Room := { frames := 3, cells := 1, slots := 4, locals := 52 }
theorem rm3n4 (l : Launch) (Z : State) (a0 : Array Value) (hw : HW a0 Z) (ws : List Jvm.Cond) (o0 : Addr) (o1 : Addr) (cF : Nat → Int32) (cs : Int32) (h0 : Heap) (n0 : Nat) (Z0 : n0 ≤ h0.size) (ha0 : Exa Z h0 o0 "java/lang/String") (ha1 : Fld Z h0 o0 "java/lang/String" "value" "[B" .null) (ha2 : Fld Z h0 o0 "java/lang/String" "coder" "B" (.int 0)) (ha3 : n0 ≤ o0) (ha4 : AV Z h0 o1 .char 4 (fun k => .int (cF k))) (ha5 : Sta Z h0 "java/lang/String" "COMPACT_STRINGS" "Z" (.int cs)) (hne_o1_o0 : o1 ≠ o0) (hch0 : ¬ (255 : Int32) < (cF (0 : Int32).toNatClampNeg)) (hch1 : ¬ (255 : Int32) < (cF (1 : Int32).toNatClampNeg)) (hch2 : ¬ (255 : Int32) < (cF (2 : Int32).toNatClampNeg)) (hch3 : ¬ (255 : Int32) < (cF (3 : Int32).toNatClampNeg)) (hcs : ¬ cs = 0) :
    MetFree l y3 (head1 (Jvm.Cond.code y3 jdk_42_method_3_code 2 none :: ws) RM_3_1_4_52) (fun a U => a = #[(.ref o0), (.ref o1)] ∧ Z.Warmed39 U.vm ∧ U.heap = h0) (fun _ _ _ _ _ => True) (fun _ U o U' => ∃ v L, o = .returned v ∧ Q3n4 Z o0 o1 cF cs h0 n0 v U'.heap L ∧ FrameEnd U o U' L RM_3_1_4_52.cells RM_3_1_4_52.slots) := by
  refine MetFree.of_bodySF (plainFor_of_name pn_0) hisR ?_
  intro p e s m args below meth c s₁ Bd hml0 hP hK
  obtain ⟨rfl, hZ, hh⟩ := hP
  have hx := Bd.exec
  have hby := Bd.bytes
  have hml : c.maxLocals = 2 := hml0
  have hown : s.vm.findClass "java/lang/String" = some m.cls := findClass_of_methodNamed Bd.named
  have X0 : Stand p l e RM_3_1_4_52 s m _ below meth c s₁ [] 0 0 := Stand.of_body Bd
  have e0 : s₁.heap = h0 := by rw [← hh, Bd.state]; rfl
  have N0 := Fr.nil n0
  refine Go.into (P := fun oo uu => ∃ v L, oo = .returned v ∧ Q3n4 Z o0 o1 cF cs h0 n0 v uu.heap L ∧ FrameEnd s oo uu L RM_3_1_4_52.cells RM_3_1_4_52.slots) (ef_3_aa m o0 o1) ?_
  show Go p e below _ (s₁.setTop (mkF m 0 #[sR o0, sR o1] []))
  refine Vi (s₁.setTop (mkF m 6 #[sR o0, sR o1] [.null, (.int 4), (.int 0), (.ref o1), (.ref o0)])) (fun tZ kZ => ?_) ?_
  · refine XS.aloadN X0.here hx rfl (hb hby d3_0) rfl rfl ?_
    refine XS.aloadN X0.here hx rfl (hb hby d3_1) rfl rfl ?_
    refine XS.iconst X0.here hx rfl (hb hby d3_2) ?_
    refine XS.aloadN X0.here hx rfl (hb hby d3_3) rfl rfl ?_
    refine AV.len ha4 X0 hx hZ e0 (hb hby d3_4) ?_
    refine XS.aconstNull X0.here hx rfl (hb hby d3_5) ?_
    exact kZ
  obtain ⟨_, _, ⟨T1, L1, k1, n1⟩, -, X1, ⟨Lc1, hQ1, l1, y1, z1⟩, st1⟩ := X0.specialBack hx (y := y4) rfl hown (wz hZ hw 15 rfl) (wz hZ hw 16 rfl) (wz hZ hw 18 rfl) (by decide) (backOf (W := 0) (rm4n4 l Z a0 hw [] o0 o1 cF cs h0 n0 Z0 ha0 ha1 ha2 ha3 ha4 ha5 hne_o1_o0 hch0 hch1 hch2 hch3 hcs) hZ (wq hw 18 rfl) (wq hw 10 rfl) (by decide) (by decide)) (g := (mkF m 6 #[sR o0, sR o1] [.null, (.int 4), (.int 0), (.ref o1), (.ref o0)])) rfl (by rw [hml]; rfl) (Steps.refl _) (a := o0) (argsL := [(.ref o1), (.int 0), (.int 4), .null]) (rest := []) (lenOf pd_3 rfl) rfl (leW rfl) (hb hby d3_6) (fun _ _ => ⟨rfl, e0, (by decide : 0 + 1 ≤ _), (by decide : 0 + 4 ≤ _)⟩)
  dsimp only [Pt.U, Pt.locs, Pt.cells, Pt.slots] at X1 l1 y1 z1 st1 hQ1
  subst l1 y1 z1
  obtain ⟨b1_0, rfl, N1q, Kq1, hz_b1_0, f1_0, f1_1, f1_2, f1_3, f1_4, f1_5⟩ := hQ1
  have g_b1_0 : n0 ≤ b1_0 := Nat.le_trans Z0 hz_b1_0
  have sz_b1_0 : h0.size ≤ b1_0 := Nat.le_trans ((Keep.refl h0 [o0])).1 hz_b1_0
  have ne_o0_b1_0 : o0 ≠ b1_0 := Nat.ne_of_lt (Nat.lt_of_lt_of_le ha0.lt hz_b1_0)
  have ne_o1_b1_0 : o1 ≠ b1_0 := Nat.ne_of_lt (Nat.lt_of_lt_of_le ha4.lt hz_b1_0)
  have K1 : Keep h0 T1.heap [o0] := (Keep.refl h0 [o0]).trans Kq1 (allS (Or.inl (by simp)) all0)
  have Z1 := Nat.le_trans Z0 Kq1.1
  have N1 := Fr.app N0 N1q
  refine Go.via (fun t k => st1.trans k) ?_
  refine Go.retV X1 hx Bd.notSynchronized Bd.returns (hb hby d3_9) (by decide) (by decide) ?_
  exact ⟨b1_0, rfl, N1, K1, sz_b1_0, f1_0, f1_1, f1_2, f1_3, f1_4, f1_5⟩
theorem d2_87 : decode B2 87 = .ok (.new 32, 3) := by decide +kernel
theorem d2_90 : decode B2 90 = .ok (.dup, 1) := by decide +kernel
theorem d2_91 : decode B2 91 = .ok (.iconst 4, 1) := by decide +kernel
theorem d2_92 : decode B2 92 = .ok (.newarray .char, 2) := by decide +kernel
theorem d2_94 : decode B2 94 = .ok (.dup, 1) := by decide +kernel
theorem d2_95 : decode B2 95 = .ok (.iconst 0, 1) := by decide +kernel
theorem d2_96 : decode B2 96 = .ok (.iload_n 1, 1) := by decide +kernel
theorem d2_97 : decode B2 97 = .ok (.castore, 1) := by decide +kernel
theorem d2_98 : decode B2 98 = .ok (.dup, 1) := by decide +kernel
theorem d2_99 : decode B2 99 = .ok (.iconst 1, 1) := by decide +kernel
theorem d2_100 : decode B2 100 = .ok (.iload_n 2, 1) := by decide +kernel
theorem d2_101 : decode B2 101 = .ok (.castore, 1) := by decide +kernel
theorem d2_102 : decode B2 102 = .ok (.dup, 1) := by decide +kernel
theorem d2_103 : decode B2 103 = .ok (.iconst 2, 1) := by decide +kernel
theorem d2_104 : decode B2 104 = .ok (.iload_n 3, 1) := by decide +kernel
theorem d2_105 : decode B2 105 = .ok (.castore, 1) := by decide +kernel
theorem d2_106 : decode B2 106 = .ok (.dup, 1) := by decide +kernel
theorem d2_107 : decode B2 107 = .ok (.iconst 3, 1) := by decide +kernel
theorem d2_108 : decode B2 108 = .ok (.iload 4, 2) := by decide +kernel
theorem d2_110 : decode B2 110 = .ok (.castore, 1) := by decide +kernel
theorem d2_111 : decode B2 111 = .ok (.invokespecial 41, 3) := by decide +kernel
theorem d2_114 : decode B2 114 = .ok (.areturn, 1) := by decide +kernel
def Q2n4 (Z : State) (p1 : Int32) (p2 : Int32) (p3 : Int32) (p4 : Int32) (cs : Int32) (h0 : Heap) (n0 : Nat) (v : Option Value) (h : Heap) (L : List Loc) : Prop := ∃ b1 : Addr, ∃ b13_0 : Addr, v = some (.ref b1) ∧ Fr n0 L ∧ Keep h0 h [] ∧ h0.size ≤ b1 ∧ h0.size ≤ b13_0 ∧ Sta Z h "java/lang/String" "COMPACT_STRINGS" "Z" (.int cs) ∧ Exa Z h b1 "java/lang/String" ∧ Fld Z h b1 "java/lang/String" "value" "[B" (.ref b13_0) ∧ Fld Z h b1 "java/lang/String" "coder" "B" (.int 0) ∧ AV Z h b13_0 .byte 4 (fun k => .int ((up (up (up (up (fun _ => (0 : Int32)) (0 : Int32).toNatClampNeg (nar .byte (((up (up (up (up (fun _ => (0 : Int32)) (0 : Int32).toNatClampNeg (nar .char p1)) (1 : Int32).toNatClampNeg (nar .char p2)) (2 : Int32).toNatClampNeg (nar .char p3)) (3 : Int32).toNatClampNeg (nar .char p4)) (0 : Int32).toNatClampNeg).toInt8.toInt32))) (1 : Int32).toNatClampNeg (nar .byte (((up (up (up (up (fun _ => (0 : Int32)) (0 : Int32).toNatClampNeg (nar .char p1)) (1 : Int32).toNatClampNeg (nar .char p2)) (2 : Int32).toNatClampNeg (nar .char p3)) (3 : Int32).toNatClampNeg (nar .char p4)) (1 : Int32).toNatClampNeg).toInt8.toInt32))) (2 : Int32).toNatClampNeg (nar .byte (((up (up (up (up (fun _ => (0 : Int32)) (0 : Int32).toNatClampNeg (nar .char p1)) (1 : Int32).toNatClampNeg (nar .char p2)) (2 : Int32).toNatClampNeg (nar .char p3)) (3 : Int32).toNatClampNeg (nar .char p4)) (2 : Int32).toNatClampNeg).toInt8.toInt32))) (3 : Int32).toNatClampNeg (nar .byte (((up (up (up (up (fun _ => (0 : Int32)) (0 : Int32).toNatClampNeg (nar .char p1)) (1 : Int32).toNatClampNeg (nar .char p2)) (2 : Int32).toNatClampNeg (nar .char p3)) (3 : Int32).toNatClampNeg (nar .char p4)) (3 : Int32).toNatClampNeg).toInt8.toInt32))) k))
abbrev RM_4_3_12_66 : Room := { frames := 4, cells := 3, slots := 12, locals := 66 }
theorem rm2n4 (l : Launch) (Z : State) (a0 : Array Value) (hw : HW a0 Z) (ws : List Jvm.Cond) (p1 : Int32) (p2 : Int32) (p3 : Int32) (p4 : Int32) (cs : Int32) (h0 : Heap) (n0 : Nat) (Z0 : n0 ≤ h0.size) (ha0 : Sta Z h0 "java/lang/String" "COMPACT_STRINGS" "Z" (.int cs)) (hx0 : own_ch p1) (hx1 : own_ch p2) (hx2 : own_ch p3) (hx3 : own_ch p4) (hcs : ¬ cs = 0) :
    MetFree l y2 (head1 (Jvm.Cond.code y2 method_4_code 5 (some (.object "java/lang/String")) :: ws) RM_4_3_12_66) (fun a U => a = #[(.int 4), (.int p1), (.int p2), (.int p3), (.int p4)] ∧ Z.Warmed39 U.vm ∧ U.heap = h0) (fun _ _ _ _ _ => True) (fun _ U o U' => ∃ v L, o = .returned v ∧ Q2n4 Z p1 p2 p3 p4 cs h0 n0 v U'.heap L ∧ FrameEnd U o U' L RM_4_3_12_66.cells RM_4_3_12_66.slots) := by
  refine MetFree.of_bodySF (plainFor_of_name pn_6) hisR ?_
  intro p e s m args below meth c s₁ Bd hml0 hP hK
  obtain ⟨rfl, hZ, hh⟩ := hP
  have hx := Bd.exec
  have hby := Bd.bytes
  have hml : c.maxLocals = 5 := hml0
  have hown : s.vm.findClass "com/example/bindery/bindery/compiler/JavaTypeOuterNamePinLaw" = some m.cls := findClass_of_methodNamed Bd.named
  have X0 : Stand p l e RM_4_3_12_66 s m _ below meth c s₁ [] 0 0 := Stand.of_body Bd
  have e0 : s₁.heap = h0 := by rw [← hh, Bd.state]; rfl
  have N0 := Fr.nil n0
  refine Go.into (P := fun oo uu => ∃ v L, oo = .returned v ∧ Q2n4 Z p1 p2 p3 p4 cs h0 n0 v uu.heap L ∧ FrameEnd s oo uu L RM_4_3_12_66.cells RM_4_3_12_66.slots) (ef_2_aaaaa m (4 : Int32) p1 p2 p3 p4) ?_
  show Go p e below _ (s₁.setTop (mkF m 0 #[sI 4, sI p1, sI p2, sI p3, sI p4] []))
  refine Vi (s₁.setTop (mkF m 87 #[sI 4, sI p1, sI p2, sI p3, sI p4] [])) (fun tZ kZ => ?_) ?_
  · refine XS.iloadN X0.here hx rfl (hb hby d2_0) rfl ?_
    refine XS.ifYes X0.here hx rfl (pc0 := 1) (pc' := 15) rfl (hb hby d2_1) rfl ((if0 _ _).trans (feq (by decide)).2) (by decide) (by decide) ?_
    refine XS.iloadN X0.here hx rfl (hb hby d2_15) rfl ?_
    refine XS.iconst X0.here hx rfl (hb hby d2_16) ?_
    refine XS.icmpYes X0.here hx rfl (pc0 := 17) (pc' := 35) rfl (hb hby d2_17) rfl (feq (by decide)).2 (by decide) (by decide) ?_
    refine XS.iloadN X0.here hx rfl (hb hby d2_35) rfl ?_
    refine XS.iconst X0.here hx rfl (hb hby d2_36) ?_
    refine XS.icmpYes X0.here hx rfl (pc0 := 37) (pc' := 59) rfl (hb hby d2_37) rfl (feq (by decide)).2 (by decide) (by decide) ?_
    refine XS.iloadN X0.here hx rfl (hb hby d2_59) rfl ?_
    refine XS.iconst X0.here hx rfl (hb hby d2_60) ?_
    refine XS.icmpYes X0.here hx rfl (pc0 := 61) (pc' := 87) rfl (hb hby d2_61) rfl (feq (by decide)).2 (by decide) (by decide) ?_
    exact kZ
  obtain ⟨T1, h1, X1, e1, E1, A1, D1, -, st1⟩ := newO X0 hx hZ hown (wq hw 8 rfl) (wq hw 9 rfl) (wq hw 10 rfl) e0 (g := (mkF m 87 #[sI 4, sI p1, sI p2, sI p3, sI p4] [])) rfl (hb hby d2_87) (by decide) (by decide)
  obtain ⟨b1, g1⟩ : ∃ z, z = h0.size := ⟨_, rfl⟩
  rw [← g1] at A1 D1 st1
  have g_b1 : n0 ≤ b1 := Nat.le_trans Z0 (Nat.le_of_eq g1.symm)
  have sz_b1 : h0.size ≤ b1 := Nat.le_trans ((Keep.refl h0 [])).1 (Nat.le_of_eq g1.symm)
  have c2_0 := ha0.ext E1
  have K1 : Keep h0 h1 [] := (Keep.refl h0 []).ext E1
  have Z1 := Nat.le_trans Z0 E1.1
  have F1_value : Fld Z h1 b1 "java/lang/String" "value" "[B" .null := D1 (Or.inr (wq hw 24 rfl)) (ty := (.array .byte)) (by decide)
  have F1_coder : Fld Z h1 b1 "java/lang/String" "coder" "B" (.int 0) := D1 (Or.inr (wq hw 25 rfl)) (ty := .byte) (by decide)
  refine Go.via st1 ?_
  refine Vi (T1.setTop (mkF m 92 #[sI 4, sI p1, sI p2, sI p3, sI p4] [(.int 4), (.ref b1), (.ref b1)])) (fun tZ kZ => ?_) ?_
  · refine XS.dup X1.here hx rfl (hb hby d2_90) rfl rfl ?_
    refine XS.iconst X1.here hx rfl (hb hby d2_91) ?_
    exact kZ
  obtain ⟨T3, h3, k3, X3, e3, E3, A3, B3, st3⟩ := newPE X1 hx hZ (wq hw 11 rfl) e1 (g := (mkF m 92 #[sI 4, sI p1, sI p2, sI p3, sI p4] [(.int 4), (.ref b1), (.ref b1)])) rfl (hb hby d2_92) rfl (by decide) (cap := 4) (by decide) (by decide) (by decide) (by decide) (ad := "[C") rfl
  obtain ⟨b3, g3⟩ : ∃ z, z = h1.size := ⟨_, rfl⟩
  rw [← g3] at A3 B3 st3
  have g_b3 : n0 ≤ b3 := Nat.le_trans Z1 (Nat.le_of_eq g3.symm)
  have sz_b3 : h0.size ≤ b3 := Nat.le_trans (K1).1 (Nat.le_of_eq g3.symm)
  have ne_b1_b3 : b1 ≠ b3 := Nat.ne_of_lt (Nat.lt_of_lt_of_le A1.lt (Nat.le_of_eq g3.symm))
  have c4_0 := c2_0.ext E3
  have c4_2 := A1.ext E3
  have c4_3 := F1_value.ext E3
  have c4_4 := F1_coder.ext E3
  have K3 : Keep h0 h3 [] := K1.ext E3
  have Z3 := Nat.le_trans Z1 E3.1
  have V3 : AV Z h3 b3 .char 4 (fun k => .int ((fun _ => (0 : Int32)) k)) := by have q := AV.new A3; exact q
  refine Go.via st3 ?_
  refine Vi (T3.setTop (mkF m 97 #[sI 4, sI p1, sI p2, sI p3, sI p4] [(.int p1), (.int 0), (.ref b3), (.ref b3), (.ref b1), (.ref b1)])) (fun tZ kZ => ?_) ?_
  · refine XS.dup X3.here hx rfl (hb hby d2_94) rfl rfl ?_
    refine XS.iconst X3.here hx rfl (hb hby d2_95) ?_
    refine XS.iloadN X3.here hx rfl (hb hby d2_96) rfl ?_
    exact kZ
  obtain ⟨T5, h5, X5, e5, W5, V5, st5⟩ := AV.castore V3 X3 hx hZ e3 (j := (0 : Int32)) (by decide) (Ls := #[sI 4, sI p1, sI p2, sI p3, sI p4]) (rest := [(.ref b3), (.ref b1), (.ref b1)]) (hb hby d2_97) (x := p1)
  have N5 := Fr.snoc X5 N0 g_b3
  have c6_0 := c4_0.wr W5
  have c6_2 := c4_2.wr W5
  have c6_3 := c4_3.other W5 (Or.inl ne_b1_b3)
  have c6_4 := c4_4.other W5 (Or.inl ne_b1_b3)
  have K5 : Keep h0 h5 [] := K3.wr W5 (Or.inr sz_b3)
  have Z5 := Nat.le_trans Z3 (Keep.of_wr W5).1
  refine Go.via st5 ?_
  refine Vi (T5.setTop (mkF m 101 #[sI 4, sI p1, sI p2, sI p3, sI p4] [(.int p2), (.int 1), (.ref b3), (.ref b3), (.ref b1), (.ref b1)])) (fun tZ kZ => ?_) ?_
  · refine XS.dup X5.here hx rfl (hb hby d2_98) rfl rfl ?_
    refine XS.iconst X5.here hx rfl (hb hby d2_99) ?_
    refine XS.iloadN X5.here hx rfl (hb hby d2_100) rfl ?_
    exact kZ
  obtain ⟨T7, h7, X7, e7, W7, V7, st7⟩ := AV.castore V5 X5 hx hZ e5 (j := (1 : Int32)) (by decide) (Ls := #[sI 4, sI p1, sI p2, sI p3, sI p4]) (rest := [(.ref b3), (.ref b1), (.ref b1)]) (hb hby d2_101) (x := p2)
  have N7 := Fr.snoc X7 N5 g_b3
  have c8_0 := c6_0.wr W7
  have c8_2 := c6_2.wr W7
  have c8_3 := c6_3.other W7 (Or.inl ne_b1_b3)
  have c8_4 := c6_4.other W7 (Or.inl ne_b1_b3)
  have K7 : Keep h0 h7 [] := K5.wr W7 (Or.inr sz_b3)
  have Z7 := Nat.le_trans Z5 (Keep.of_wr W7).1
  refine Go.via st7 ?_
  refine Vi (T7.setTop (mkF m 105 #[sI 4, sI p1, sI p2, sI p3, sI p4] [(.int p3), (.int 2), (.ref b3), (.ref b3), (.ref b1), (.ref b1)])) (fun tZ kZ => ?_) ?_
  · refine XS.dup X7.here hx rfl (hb hby d2_102) rfl rfl ?_
    refine XS.iconst X7.here hx rfl (hb hby d2_103) ?_
    refine XS.iloadN X7.here hx rfl (hb hby d2_104) rfl ?_
    exact kZ
  obtain ⟨T9, h9, X9, e9, W9, V9, st9⟩ := AV.castore V7 X7 hx hZ e7 (j := (2 : Int32)) (by decide) (Ls := #[sI 4, sI p1, sI p2, sI p3, sI p4]) (rest := [(.ref b3), (.ref b1), (.ref b1)]) (hb hby d2_105) (x := p3)
  have N9 := Fr.snoc X9 N7 g_b3
  have c10_0 := c8_0.wr W9
  have c10_2 := c8_2.wr W9
  have c10_3 := c8_3.other W9 (Or.inl ne_b1_b3)
  have c10_4 := c8_4.other W9 (Or.inl ne_b1_b3)
  have K9 : Keep h0 h9 [] := K7.wr W9 (Or.inr sz_b3)
  have Z9 := Nat.le_trans Z7 (Keep.of_wr W9).1
  refine Go.via st9 ?_
  refine Vi (T9.setTop (mkF m 110 #[sI 4, sI p1, sI p2, sI p3, sI p4] [(.int p4), (.int 3), (.ref b3), (.ref b3), (.ref b1), (.ref b1)])) (fun tZ kZ => ?_) ?_
  · refine XS.dup X9.here hx rfl (hb hby d2_106) rfl rfl ?_
    refine XS.iconst X9.here hx rfl (hb hby d2_107) ?_
    refine XS.iload X9.here hx rfl (hb hby d2_108) rfl ?_
    exact kZ
  obtain ⟨T11, h11, X11, e11, W11, V11, st11⟩ := AV.castore V9 X9 hx hZ e9 (j := (3 : Int32)) (by decide) (Ls := #[sI 4, sI p1, sI p2, sI p3, sI p4]) (rest := [(.ref b3), (.ref b1), (.ref b1)]) (hb hby d2_110) (x := p4)
  have N11 := Fr.snoc X11 N9 g_b3
  have c12_0 := c10_0.wr W11
  have c12_2 := c10_2.wr W11
  have c12_3 := c10_3.other W11 (Or.inl ne_b1_b3)
  have c12_4 := c10_4.other W11 (Or.inl ne_b1_b3)
  have K11 : Keep h0 h11 [] := K9.wr W11 (Or.inr sz_b3)
  have Z11 := Nat.le_trans Z9 (Keep.of_wr W11).1
  refine Go.via st11 ?_
  obtain ⟨_, _, ⟨T13, L13, k13, n13⟩, -, X13, ⟨Lc13, hQ13, l13, y13, z13⟩, st13⟩ := X11.specialBack hx (y := y3) rfl hown (wz hZ hw 12 rfl) (wz hZ hw 13 rfl) (wz hZ hw 14 rfl) (by decide) (backOf (W := 1) (rm3n4 l Z a0 hw [] b1 b3 (up (up (up (up (fun _ => (0 : Int32)) (0 : Int32).toNatClampNeg (nar .char p1)) (1 : Int32).toNatClampNeg (nar .char p2)) (2 : Int32).toNatClampNeg (nar .char p3)) (3 : Int32).toNatClampNeg (nar .char p4)) cs h11 n0 Z11 c12_2 c12_3 c12_4 g_b1 V11 c12_0 (Ne.symm ne_b1_b3) (own_hch hx0) (own_hch hx1) (own_hch hx2) (own_hch hx3) hcs) hZ (wq hw 14 rfl) (wq hw 10 rfl) (by decide) (by decide)) (g := (mkF m 111 #[sI 4, sI p1, sI p2, sI p3, sI p4] [(.ref b3), (.ref b1), (.ref b1)])) rfl (by rw [hml]; rfl) (Steps.refl _) (a := b1) (argsL := [(.ref b3)]) (rest := [(.ref b1)]) (lenOf pd_2 rfl) rfl (leW rfl) (hb hby d2_111) (fun _ _ => ⟨rfl, e11, (by decide : 0 + 1 + 1 + 1 ≤ _), (by decide : 0 + 4 + 4 + 4 ≤ _)⟩)
  dsimp only [Pt.U, Pt.locs, Pt.cells, Pt.slots] at X13 l13 y13 z13 st13 hQ13
  subst l13 y13 z13
  obtain ⟨b13_0, rfl, N13q, Kq13, hz_b13_0, f13_0, f13_1, f13_2, f13_3, f13_4, f13_5⟩ := hQ13
  have g_b13_0 : n0 ≤ b13_0 := Nat.le_trans Z11 hz_b13_0
  have sz_b13_0 : h0.size ≤ b13_0 := Nat.le_trans (K11).1 hz_b13_0
  have ne_b1_b13_0 : b1 ≠ b13_0 := Nat.ne_of_lt (Nat.lt_of_lt_of_le c12_2.lt hz_b13_0)
  have ne_b3_b13_0 : b3 ≠ b13_0 := Nat.ne_of_lt (Nat.lt_of_lt_of_le V11.lt hz_b13_0)
  have K13 : Keep h0 T13.heap [] := K11.trans Kq13 (allS (Or.inr sz_b1) all0)
  have Z13 := Nat.le_trans Z11 Kq13.1
  have N13 := Fr.app N11 N13q
  refine Go.via (fun t k => st13.trans k) ?_
  refine Go.retR X13 hx Bd.notSynchronized Bd.returns rfl rfl (hb hby d2_114) (by decide) (by decide) ?_
  exact ⟨b1, b13_0, rfl, N13, K13, sz_b1, sz_b13_0, f13_4, f13_0, f13_1, f13_2, f13_5⟩
def f23n4 (o0 : Addr) (fF : Nat → Int32) : Int32 := (if (fF (0 : Int32).toNatClampNeg) = ((46 : Int32).toInt8.toInt32) then (0 : Int32) else (if (fF (1 : Int32).toNatClampNeg) = ((46 : Int32).toInt8.toInt32) then (1 : Int32) else (if (fF (2 : Int32).toNatClampNeg) = ((46 : Int32).toInt8.toInt32) then (2 : Int32) else (if (fF (3 : Int32).toNatClampNeg) = ((46 : Int32).toInt8.toInt32) then (3 : Int32) else (-1 : Int32)))))
def Q23n4 (o0 : Addr) (fF : Nat → Int32) (h0 : Heap) (n0 : Nat) (v : Option Value) (h : Heap) (L : List Loc) : Prop := v = some (.int (f23n4 o0 fF)) ∧ Fr n0 L ∧ h = h0
theorem rm23n4 (l : Launch) (Z : State) (a0 : Array Value) (hw : HW a0 Z) (ws : List Jvm.Cond) (o0 : Addr) (fF : Nat → Int32) (h0 : Heap) (n0 : Nat) (Z0 : n0 ≤ h0.size) (ha0 : AV Z h0 o0 .byte 4 (fun k => .int (fF k))) :
    MetFree l y23 (head1 (Jvm.Cond.code y23 jdk_43_method_23_code 6 (some .int) :: ws) RM_0_0_0_0) (fun a U => a = #[(.ref o0), (.int 46), (.int 0), (.int 4)] ∧ Z.Warmed39 U.vm ∧ U.heap = h0) (fun _ _ _ _ _ => True) (fun _ U o U' => ∃ v L, o = .returned v ∧ Q23n4 o0 fF h0 n0 v U'.heap L ∧ FrameEnd U o U' L RM_0_0_0_0.cells RM_0_0_0_0.slots) := by
  refine MetFree.of_bodySF (plainFor_of_name pn_1) hisR ?_
  intro p e s m args below meth c s₁ Bd hml0 hP hK
  obtain ⟨rfl, hZ, hh⟩ := hP
  have hx := Bd.exec
  have hby := Bd.bytes
  have hml : c.maxLocals = 6 := hml0
  have hown : s.vm.findClass "java/lang/StringLatin1" = some m.cls := findClass_of_methodNamed Bd.named
  have X0 : Stand p l e RM_0_0_0_0 s m _ below meth c s₁ [] 0 0 := Stand.of_body Bd
  have e0 : s₁.heap = h0 := by rw [← hh, Bd.state]; rfl
  have N0 := Fr.nil n0
  refine Go.into (P := fun oo uu => ∃ v L, oo = .returned v ∧ Q23n4 o0 fF h0 n0 v uu.heap L ∧ FrameEnd s oo uu L RM_0_0_0_0.cells RM_0_0_0_0.slots) (ef_23_aaaa m o0 (46 : Int32) (0 : Int32) (4 : Int32)) ?_
  show Go p e below _ (s₁.setTop (mkF m 0 #[sR o0, sI 46, sI 0, sI 4, .unset, .unset] []))
  refine Vi (s₁.setTop (mkF m 19 #[sR o0, sI 46, sI 0, sI 4, sI ((46 : Int32).toInt8.toInt32), sI 0] [(.int ((46 : Int32).toInt8.toInt32)), (.int (fF (0 : Int32).toNatClampNeg))])) (fun tZ kZ => ?_) ?_
  · refine XS.iloadN X0.here hx rfl (hb hby d23_0) rfl ?_
    refine XS.i2b X0.here hx rfl (hb hby d23_1) rfl ?_
    refine XS.istore X0.here hx rfl (hb hby d23_2) rfl (l' := #[sR o0, sI 46, sI 0, sI 4, sI ((46 : Int32).toInt8.toInt32), .unset]) rfl ?_
    refine XS.iloadN X0.here hx rfl (hb hby d23_4) rfl ?_
    refine XS.istore X0.here hx rfl (hb hby d23_5) rfl (l' := #[sR o0, sI 46, sI 0, sI 4, sI ((46 : Int32).toInt8.toInt32), sI 0]) rfl ?_
    refine XS.iload X0.here hx rfl (hb hby d23_7) rfl ?_
    refine XS.iloadN X0.here hx rfl (hb hby d23_9) rfl ?_
    refine XS.icmpNo X0.here hx rfl (hb hby d23_10) rfl (tlt (by decide)).2.1 ?_
    refine XS.aloadN X0.here hx rfl (hb hby d23_13) rfl rfl ?_
    refine XS.iload X0.here hx rfl (hb hby d23_14) rfl ?_
    refine AV.baload ha0 X0 hx hZ e0 (j := (0 : Int32)) (by decide) (hb hby d23_16) ?_
    refine XS.iload X0.here hx rfl (hb hby d23_17) rfl ?_
    exact kZ
  by_cases hc19 : (fF (0 : Int32).toNatClampNeg) = ((46 : Int32).toInt8.toInt32)
  · refine Vi (s₁.setTop (mkF m 22 #[sR o0, sI 46, sI 0, sI 4, sI ((46 : Int32).toInt8.toInt32), sI 0] [])) (fun tZ kZ => ?_) ?_
    · show Steps p.tables e below (s₁.setTop (mkF m 19 #[sR o0, sI 46, sI 0, sI 4, sI ((46 : Int32).toInt8.toInt32), sI 0] [(.int ((46 : Int32).toInt8.toInt32)), (.int (fF (0 : Int32).toNatClampNeg))])) _
      refine XS.icmpNo X0.here hx rfl (hb hby d23_19) rfl (teq hc19).2 ?_
      exact kZ
    refine Vi (s₁.setTop (mkF m 24 #[sR o0, sI 46, sI 0, sI 4, sI ((46 : Int32).toInt8.toInt32), sI 0] [(.int 0)])) (fun tZ kZ => ?_) ?_
    · refine XS.iload X0.here hx rfl (hb hby d23_22) rfl ?_
      exact kZ
    refine Go.retI X0 hx Bd.notSynchronized Bd.returns (hb hby d23_24) (by decide) (by decide) ?_
    refine ⟨?_, N0, e0⟩
    show some ((.int 0) : Value) = some (.int (f23n4 o0 fF))
    unfold f23n4; rw [if_pos hc19] <;> rfl
  · refine Vi (s₁.setTop (mkF m 25 #[sR o0, sI 46, sI 0, sI 4, sI ((46 : Int32).toInt8.toInt32), sI 0] [])) (fun tZ kZ => ?_) ?_
    · show Steps p.tables e below (s₁.setTop (mkF m 19 #[sR o0, sI 46, sI 0, sI 4, sI ((46 : Int32).toInt8.toInt32), sI 0] [(.int ((46 : Int32).toInt8.toInt32)), (.int (fF (0 : Int32).toNatClampNeg))])) _
      refine XS.icmpYes X0.here hx rfl (pc0 := 19) (pc' := 25) rfl (hb hby d23_19) rfl (feq hc19).2 (by decide) (by decide) ?_
      exact kZ
    refine Vi (s₁.setTop (mkF m 19 #[sR o0, sI 46, sI 0, sI 4, sI ((46 : Int32).toInt8.toInt32), sI 1] [(.int ((46 : Int32).toInt8.toInt32)), (.int (fF (1 : Int32).toNatClampNeg))])) (fun tZ kZ => ?_) ?_
    · refine XS.iinc X0.here hx rfl (hb hby d23_25) rfl (l' := #[sR o0, sI 46, sI 0, sI 4, sI ((46 : Int32).toInt8.toInt32), sI 1]) rfl ?_
      refine XS.goto X0.here hx rfl (pc0 := 28) (pc' := 7) rfl (hb hby d23_28) (by decide) (by decide) ?_
      refine XS.iload X0.here hx rfl (hb hby d23_7) rfl ?_
      refine XS.iloadN X0.here hx rfl (hb hby d23_9) rfl ?_
      refine XS.icmpNo X0.here hx rfl (hb hby d23_10) rfl (tlt (by decide)).2.1 ?_
      refine XS.aloadN X0.here hx rfl (hb hby d23_13) rfl rfl ?_
      refine XS.iload X0.here hx rfl (hb hby d23_14) rfl ?_
      refine AV.baload ha0 X0 hx hZ e0 (j := (1 : Int32)) (by decide) (hb hby d23_16) ?_
      refine XS.iload X0.here hx rfl (hb hby d23_17) rfl ?_
      exact kZ
    by_cases hc19_1 : (fF (1 : Int32).toNatClampNeg) = ((46 : Int32).toInt8.toInt32)
    · refine Vi (s₁.setTop (mkF m 22 #[sR o0, sI 46, sI 0, sI 4, sI ((46 : Int32).toInt8.toInt32), sI 1] [])) (fun tZ kZ => ?_) ?_
      · show Steps p.tables e below (s₁.setTop (mkF m 19 #[sR o0, sI 46, sI 0, sI 4, sI ((46 : Int32).toInt8.toInt32), sI 1] [(.int ((46 : Int32).toInt8.toInt32)), (.int (fF (1 : Int32).toNatClampNeg))])) _
        refine XS.icmpNo X0.here hx rfl (hb hby d23_19) rfl (teq hc19_1).2 ?_
        exact kZ
      refine Vi (s₁.setTop (mkF m 24 #[sR o0, sI 46, sI 0, sI 4, sI ((46 : Int32).toInt8.toInt32), sI 1] [(.int 1)])) (fun tZ kZ => ?_) ?_
      · refine XS.iload X0.here hx rfl (hb hby d23_22) rfl ?_
        exact kZ
      refine Go.retI X0 hx Bd.notSynchronized Bd.returns (hb hby d23_24) (by decide) (by decide) ?_
      refine ⟨?_, N0, e0⟩
      show some ((.int 1) : Value) = some (.int (f23n4 o0 fF))
      unfold f23n4; rw [if_neg hc19, if_pos hc19_1] <;> rfl
    · refine Vi (s₁.setTop (mkF m 25 #[sR o0, sI 46, sI 0, sI 4, sI ((46 : Int32).toInt8.toInt32), sI 1] [])) (fun tZ kZ => ?_) ?_
      · show Steps p.tables e below (s₁.setTop (mkF m 19 #[sR o0, sI 46, sI 0, sI 4, sI ((46 : Int32).toInt8.toInt32), sI 1] [(.int ((46 : Int32).toInt8.toInt32)), (.int (fF (1 : Int32).toNatClampNeg))])) _
        refine XS.icmpYes X0.here hx rfl (pc0 := 19) (pc' := 25) rfl (hb hby d23_19) rfl (feq hc19_1).2 (by decide) (by decide) ?_
        exact kZ
      refine Vi (s₁.setTop (mkF m 19 #[sR o0, sI 46, sI 0, sI 4, sI ((46 : Int32).toInt8.toInt32), sI 2] [(.int ((46 : Int32).toInt8.toInt32)), (.int (fF (2 : Int32).toNatClampNeg))])) (fun tZ kZ => ?_) ?_
      · refine XS.iinc X0.here hx rfl (hb hby d23_25) rfl (l' := #[sR o0, sI 46, sI 0, sI 4, sI ((46 : Int32).toInt8.toInt32), sI 2]) rfl ?_
        refine XS.goto X0.here hx rfl (pc0 := 28) (pc' := 7) rfl (hb hby d23_28) (by decide) (by decide) ?_
        refine XS.iload X0.here hx rfl (hb hby d23_7) rfl ?_
        refine XS.iloadN X0.here hx rfl (hb hby d23_9) rfl ?_
        refine XS.icmpNo X0.here hx rfl (hb hby d23_10) rfl (tlt (by decide)).2.1 ?_
        refine XS.aloadN X0.here hx rfl (hb hby d23_13) rfl rfl ?_
        refine XS.iload X0.here hx rfl (hb hby d23_14) rfl ?_
        refine AV.baload ha0 X0 hx hZ e0 (j := (2 : Int32)) (by decide) (hb hby d23_16) ?_
        refine XS.iload X0.here hx rfl (hb hby d23_17) rfl ?_
        exact kZ
      by_cases hc19_2 : (fF (2 : Int32).toNatClampNeg) = ((46 : Int32).toInt8.toInt32)
      · refine Vi (s₁.setTop (mkF m 22 #[sR o0, sI 46, sI 0, sI 4, sI ((46 : Int32).toInt8.toInt32), sI 2] [])) (fun tZ kZ => ?_) ?_
        · show Steps p.tables e below (s₁.setTop (mkF m 19 #[sR o0, sI 46, sI 0, sI 4, sI ((46 : Int32).toInt8.toInt32), sI 2] [(.int ((46 : Int32).toInt8.toInt32)), (.int (fF (2 : Int32).toNatClampNeg))])) _
          refine XS.icmpNo X0.here hx rfl (hb hby d23_19) rfl (teq hc19_2).2 ?_
          exact kZ
        refine Vi (s₁.setTop (mkF m 24 #[sR o0, sI 46, sI 0, sI 4, sI ((46 : Int32).toInt8.toInt32), sI 2] [(.int 2)])) (fun tZ kZ => ?_) ?_
        · refine XS.iload X0.here hx rfl (hb hby d23_22) rfl ?_
          exact kZ
        refine Go.retI X0 hx Bd.notSynchronized Bd.returns (hb hby d23_24) (by decide) (by decide) ?_
        refine ⟨?_, N0, e0⟩
        show some ((.int 2) : Value) = some (.int (f23n4 o0 fF))
        unfold f23n4; rw [if_neg hc19, if_neg hc19_1, if_pos hc19_2] <;> rfl
      · refine Vi (s₁.setTop (mkF m 25 #[sR o0, sI 46, sI 0, sI 4, sI ((46 : Int32).toInt8.toInt32), sI 2] [])) (fun tZ kZ => ?_) ?_
        · show Steps p.tables e below (s₁.setTop (mkF m 19 #[sR o0, sI 46, sI 0, sI 4, sI ((46 : Int32).toInt8.toInt32), sI 2] [(.int ((46 : Int32).toInt8.toInt32)), (.int (fF (2 : Int32).toNatClampNeg))])) _
          refine XS.icmpYes X0.here hx rfl (pc0 := 19) (pc' := 25) rfl (hb hby d23_19) rfl (feq hc19_2).2 (by decide) (by decide) ?_
          exact kZ
        refine Vi (s₁.setTop (mkF m 19 #[sR o0, sI 46, sI 0, sI 4, sI ((46 : Int32).toInt8.toInt32), sI 3] [(.int ((46 : Int32).toInt8.toInt32)), (.int (fF (3 : Int32).toNatClampNeg))])) (fun tZ kZ => ?_) ?_
        · refine XS.iinc X0.here hx rfl (hb hby d23_25) rfl (l' := #[sR o0, sI 46, sI 0, sI 4, sI ((46 : Int32).toInt8.toInt32), sI 3]) rfl ?_
          refine XS.goto X0.here hx rfl (pc0 := 28) (pc' := 7) rfl (hb hby d23_28) (by decide) (by decide) ?_
          refine XS.iload X0.here hx rfl (hb hby d23_7) rfl ?_
          refine XS.iloadN X0.here hx rfl (hb hby d23_9) rfl ?_
          refine XS.icmpNo X0.here hx rfl (hb hby d23_10) rfl (tlt (by decide)).2.1 ?_
          refine XS.aloadN X0.here hx rfl (hb hby d23_13) rfl rfl ?_
          refine XS.iload X0.here hx rfl (hb hby d23_14) rfl ?_
          refine AV.baload ha0 X0 hx hZ e0 (j := (3 : Int32)) (by decide) (hb hby d23_16) ?_
          refine XS.iload X0.here hx rfl (hb hby d23_17) rfl ?_
          exact kZ
        by_cases hc19_3 : (fF (3 : Int32).toNatClampNeg) = ((46 : Int32).toInt8.toInt32)
        · refine Vi (s₁.setTop (mkF m 22 #[sR o0, sI 46, sI 0, sI 4, sI ((46 : Int32).toInt8.toInt32), sI 3] [])) (fun tZ kZ => ?_) ?_
          · show Steps p.tables e below (s₁.setTop (mkF m 19 #[sR o0, sI 46, sI 0, sI 4, sI ((46 : Int32).toInt8.toInt32), sI 3] [(.int ((46 : Int32).toInt8.toInt32)), (.int (fF (3 : Int32).toNatClampNeg))])) _
            refine XS.icmpNo X0.here hx rfl (hb hby d23_19) rfl (teq hc19_3).2 ?_
            exact kZ
          refine Vi (s₁.setTop (mkF m 24 #[sR o0, sI 46, sI 0, sI 4, sI ((46 : Int32).toInt8.toInt32), sI 3] [(.int 3)])) (fun tZ kZ => ?_) ?_
          · refine XS.iload X0.here hx rfl (hb hby d23_22) rfl ?_
            exact kZ
          refine Go.retI X0 hx Bd.notSynchronized Bd.returns (hb hby d23_24) (by decide) (by decide) ?_
          refine ⟨?_, N0, e0⟩
          show some ((.int 3) : Value) = some (.int (f23n4 o0 fF))
          unfold f23n4; rw [if_neg hc19, if_neg hc19_1, if_neg hc19_2, if_pos hc19_3] <;> rfl
        · refine Vi (s₁.setTop (mkF m 25 #[sR o0, sI 46, sI 0, sI 4, sI ((46 : Int32).toInt8.toInt32), sI 3] [])) (fun tZ kZ => ?_) ?_
          · show Steps p.tables e below (s₁.setTop (mkF m 19 #[sR o0, sI 46, sI 0, sI 4, sI ((46 : Int32).toInt8.toInt32), sI 3] [(.int ((46 : Int32).toInt8.toInt32)), (.int (fF (3 : Int32).toNatClampNeg))])) _
            refine XS.icmpYes X0.here hx rfl (pc0 := 19) (pc' := 25) rfl (hb hby d23_19) rfl (feq hc19_3).2 (by decide) (by decide) ?_
            exact kZ
          refine Vi (s₁.setTop (mkF m 32 #[sR o0, sI 46, sI 0, sI 4, sI ((46 : Int32).toInt8.toInt32), sI 4] [(.int (-1))])) (fun tZ kZ => ?_) ?_
          · refine XS.iinc X0.here hx rfl (hb hby d23_25) rfl (l' := #[sR o0, sI 46, sI 0, sI 4, sI ((46 : Int32).toInt8.toInt32), sI 4]) rfl ?_
            refine XS.goto X0.here hx rfl (pc0 := 28) (pc' := 7) rfl (hb hby d23_28) (by decide) (by decide) ?_
            refine XS.iload X0.here hx rfl (hb hby d23_7) rfl ?_
            refine XS.iloadN X0.here hx rfl (hb hby d23_9) rfl ?_
            refine XS.icmpYes X0.here hx rfl (pc0 := 10) (pc' := 31) rfl (hb hby d23_10) rfl (flt (by decide)).2.1 (by decide) (by decide) ?_
            refine XS.iconst X0.here hx rfl (hb hby d23_31) ?_
            exact kZ
          refine Go.retI X0 hx Bd.notSynchronized Bd.returns (hb hby d23_32) (by decide) (by decide) ?_
          refine ⟨?_, N0, e0⟩
          show some ((.int (-1)) : Value) = some (.int (f23n4 o0 fF))
          unfold f23n4; rw [if_neg hc19, if_neg hc19_1, if_neg hc19_2, if_neg hc19_3] <;> rfl
def f16n4 (o0 : Addr) (fF : Nat → Int32) : Int32 := (f23n4 o0 fF)
def Q16n4 (o0 : Addr) (fF : Nat → Int32) (h0 : Heap) (n0 : Nat) (v : Option Value) (h : Heap) (L : List Loc) : Prop := v = some (.int (f16n4 o0 fF)) ∧ Fr n0 L ∧ h = h0
theorem rm16n4 (l : Launch) (Z : State) (a0 : Array Value) (hw : HW a0 Z) (ws : List Jvm.Cond) (o0 : Addr) (fF : Nat → Int32) (h0 : Heap) (n0 : Nat) (Z0 : n0 ≤ h0.size) (ha0 : AV Z h0 o0 .byte 4 (fun k => .int (fF k))) :
    MetFree l y16 (head1 (Jvm.Cond.code y16 jdk_43_method_22_code 4 (some .int) :: ws) RM_1_0_0_17) (fun a U => a = #[(.ref o0), (.int 46), (.int 0), (.int 4)] ∧ Z.Warmed39 U.vm ∧ U.heap = h0) (fun _ _ _ _ _ => True) (fun _ U o U' => ∃ v L, o = .returned v ∧ Q16n4 o0 fF h0 n0 v U'.heap L ∧ FrameEnd U o U' L RM_1_0_0_17.cells RM_1_0_0_17.slots) := by
  refine MetFree.of_bodySF (plainFor_of_name pn_1) hisR ?_
  intro p e s m args below meth c s₁ Bd hml0 hP hK
  obtain ⟨rfl, hZ, hh⟩ := hP
  have hx := Bd.exec
  have hby := Bd.bytes
  have hml : c.maxLocals = 4 := hml0
  have hown : s.vm.findClass "java/lang/StringLatin1" = some m.cls := findClass_of_methodNamed Bd.named
  have X0 : Stand p l e RM_1_0_0_17 s m _ below meth c s₁ [] 0 0 := Stand.of_body Bd
  have e0 : s₁.heap = h0 := by rw [← hh, Bd.state]; rfl
  have N0 := Fr.nil n0
  refine Go.into (P := fun oo uu => ∃ v L, oo = .returned v ∧ Q16n4 o0 fF h0 n0 v uu.heap L ∧ FrameEnd s oo uu L RM_1_0_0_17.cells RM_1_0_0_17.slots) (ef_16_aaaa m o0 (46 : Int32) (0 : Int32) (4 : Int32)) ?_
  show Go p e below _ (s₁.setTop (mkF m 0 #[sR o0, sI 46, sI 0, sI 4] []))
  refine Vi (s₁.setTop (mkF m 1 #[sR o0, sI 46, sI 0, sI 4] [(.int 46)])) (fun tZ kZ => ?_) ?_
  · refine XS.iloadN X0.here hx rfl (hb hby d16_0) rfl ?_
    exact kZ
  obtain ⟨_, _, ⟨T1, L1, k1, n1⟩, -, X1, ⟨Lc1, hQ1, l1, y1, z1⟩, st1⟩ := Jvm.LawKit.callS X0 hx (y := y17) hown (wz hZ hw 92 rfl) (wz hZ hw 93 rfl) (wz hZ hw 90 rfl) (wz hZ hw 94 rfl) (by decide) (backOf (W := 0) (rm17 l Z a0 hw [] (46 : Int32) h0 n0 Z0 ) hZ (wq hw 94 rfl) (wq hw 90 rfl) (by decide) (by decide)) (g := (mkF m 1 #[sR o0, sI 46, sI 0, sI 4] [(.int 46)])) rfl (by rw [hml]; rfl) (argsL := [(.int 46)]) (rest := []) (lenOf pd_15 rfl) rfl (leW rfl) (hb hby d16_1) (fun _ _ => ⟨rfl, e0, (by decide : 0 + 0 ≤ _), (by decide : 0 + 0 ≤ _)⟩)
  dsimp only [Pt.U, Pt.locs, Pt.cells, Pt.slots] at X1 l1 y1 z1 st1 hQ1
  subst l1 y1 z1
  obtain ⟨rfl, N1q, e1⟩ := hQ1
  have hv1 : (f17 (46 : Int32)) = (1 : Int32) := by unfold f17; decide
  rw [hv1] at st1
  have N1 := Fr.app N0 N1q
  refine Go.via st1 ?_
  refine Vi (T1.setTop (mkF m 11 #[sR o0, sI 46, sI 0, sI 4] [(.int 0), (.int 0)])) (fun tZ kZ => ?_) ?_
  · refine XS.ifYes X1.here hx rfl (pc0 := 4) (pc' := 9) rfl (hb hby d16_4) rfl ((if0 _ _).trans (feq (by decide)).2) (by decide) (by decide) ?_
    refine XS.iloadN X1.here hx rfl (hb hby d16_9) rfl ?_
    refine XS.iconst X1.here hx rfl (hb hby d16_10) ?_
    exact kZ
  obtain ⟨_, _, ⟨T2, L2, k2, n2⟩, -, X2, ⟨Lc2, hQ2, l2, y2, z2⟩, st2⟩ := Jvm.LawKit.callS X1 hx (y := y18) hown (wz hZ hw 95 rfl) (wz hZ hw 96 rfl) (wz hZ hw 97 rfl) (wz hZ hw 98 rfl) (by decide) (backOf (W := 0) (rm18 l Z a0 hw [] (0 : Int32) (0 : Int32) h0 n0 Z0 ) hZ (wq hw 98 rfl) (wq hw 97 rfl) (by decide) (by decide)) (g := (mkF m 11 #[sR o0, sI 46, sI 0, sI 4] [(.int 0), (.int 0)])) rfl (by rw [hml]; rfl) (argsL := [(.int 0), (.int 0)]) (rest := []) (lenOf pd_10 rfl) rfl (leW rfl) (hb hby d16_11) (fun _ _ => ⟨rfl, e1, (by decide : 0 + 0 + 0 ≤ _), (by decide : 0 + 0 + 0 ≤ _)⟩)
  dsimp only [Pt.U, Pt.locs, Pt.cells, Pt.slots] at X2 l2 y2 z2 st2 hQ2
  subst l2 y2 z2
  obtain ⟨rfl, N2q, e2⟩ := hQ2
  have hv2 : (f18 (0 : Int32) (0 : Int32)) = (0 : Int32) := by unfold f18; decide
  rw [hv2] at st2
  have N2 := Fr.app N1 N2q
  refine Go.via st2 ?_
  refine Vi (T2.setTop (mkF m 18 #[sR o0, sI 46, sI 0, sI 4] [(.int 4), (.int 4)])) (fun tZ kZ => ?_) ?_
  · refine XS.istoreN X2.here hx rfl (hb hby d16_14) rfl (l' := #[sR o0, sI 46, sI 0, sI 4]) rfl ?_
    refine XS.iloadN X2.here hx rfl (hb hby d16_15) rfl ?_
    refine XS.aloadN X2.here hx rfl (hb hby d16_16) rfl rfl ?_
    refine AV.len ha0 X2 hx hZ e2 (hb hby d16_17) ?_
    exact kZ
  obtain ⟨_, _, ⟨T3, L3, k3, n3⟩, -, X3, ⟨Lc3, hQ3, l3, y3, z3⟩, st3⟩ := Jvm.LawKit.callS X2 hx (y := y19) hown (wz hZ hw 99 rfl) (wz hZ hw 100 rfl) (wz hZ hw 97 rfl) (wz hZ hw 101 rfl) (by decide) (backOf (W := 0) (rm19 l Z a0 hw [] (4 : Int32) (4 : Int32) h0 n0 Z0 ) hZ (wq hw 101 rfl) (wq hw 97 rfl) (by decide) (by decide)) (g := (mkF m 18 #[sR o0, sI 46, sI 0, sI 4] [(.int 4), (.int 4)])) rfl (by rw [hml]; rfl) (argsL := [(.int 4), (.int 4)]) (rest := []) (lenOf pd_10 rfl) rfl (leW rfl) (hb hby d16_18) (fun _ _ => ⟨rfl, e2, (by decide : 0 + 0 + 0 + 0 ≤ _), (by decide : 0 + 0 + 0 + 0 ≤ _)⟩)
  dsimp only [Pt.U, Pt.locs, Pt.cells, Pt.slots] at X3 l3 y3 z3 st3 hQ3
  subst l3 y3 z3
  obtain ⟨rfl, N3q, e3⟩ := hQ3
  have hv3 : (f19 (4 : Int32) (4 : Int32)) = (4 : Int32) := by unfold f19; decide
  rw [hv3] at st3
  have N3 := Fr.app N2 N3q
  refine Go.via st3 ?_
  refine Vi (T3.setTop (mkF m 33 #[sR o0, sI 46, sI 0, sI 4] [(.int 4), (.int 0), (.int 46), (.ref o0)])) (fun tZ kZ => ?_) ?_
  · refine XS.istoreN X3.here hx rfl (hb hby d16_21) rfl (l' := #[sR o0, sI 46, sI 0, sI 4]) rfl ?_
    refine XS.iloadN X3.here hx rfl (hb hby d16_22) rfl ?_
    refine XS.iloadN X3.here hx rfl (hb hby d16_23) rfl ?_
    refine XS.icmpYes X3.here hx rfl (pc0 := 24) (pc' := 29) rfl (hb hby d16_24) rfl (tlt (by decide)).1 (by decide) (by decide) ?_
    refine XS.aloadN X3.here hx rfl (hb hby d16_29) rfl rfl ?_
    refine XS.iloadN X3.here hx rfl (hb hby d16_30) rfl ?_
    refine XS.iloadN X3.here hx rfl (hb hby d16_31) rfl ?_
    refine XS.iloadN X3.here hx rfl (hb hby d16_32) rfl ?_
    exact kZ
  obtain ⟨_, _, ⟨T4, L4, k4, n4⟩, -, X4, ⟨Lc4, hQ4, l4, y4, z4⟩, st4⟩ := Jvm.LawKit.callS X3 hx (y := y23) hown (wz hZ hw 113 rfl) (wz hZ hw 114 rfl) (wz hZ hw 90 rfl) (wz hZ hw 115 rfl) (by decide) (backOf (W := 0) (rm23n4 l Z a0 hw [] o0 fF h0 n0 Z0 ha0) hZ (wq hw 115 rfl) (wq hw 90 rfl) (by decide) (by decide)) (g := (mkF m 33 #[sR o0, sI 46, sI 0, sI 4] [(.int 4), (.int 0), (.int 46), (.ref o0)])) rfl (by rw [hml]; rfl) (argsL := [(.ref o0), (.int 46), (.int 0), (.int 4)]) (rest := []) (lenOf pd_14 rfl) rfl (leW rfl) (hb hby d16_33) (fun _ _ => ⟨rfl, e3, (by decide : 0 + 0 + 0 + 0 + 0 ≤ _), (by decide : 0 + 0 + 0 + 0 + 0 ≤ _)⟩)
  dsimp only [Pt.U, Pt.locs, Pt.cells, Pt.slots] at X4 l4 y4 z4 st4 hQ4
  subst l4 y4 z4
  obtain ⟨rfl, N4q, e4⟩ := hQ4
  have N4 := Fr.app N3 N4q
  refine Go.via st4 ?_
  refine Go.retI X4 hx Bd.notSynchronized Bd.returns (hb hby d16_36) (by decide) (by decide) ?_
  refine ⟨?_, N4, e4⟩
  show some ((.int (f23n4 o0 fF)) : Value) = some (.int (f16n4 o0 fF))
  rfl
def f12n4 (o0 : Addr) (b0 : Addr) (fF : Nat → Int32) (cs : Int32) : Int32 := (f16n4 b0 fF)
def Q12n4 (o0 : Addr) (b0 : Addr) (fF : Nat → Int32) (cs : Int32) (h0 : Heap) (n0 : Nat) (v : Option Value) (h : Heap) (L : List Loc) : Prop := v = some (.int (f12n4 o0 b0 fF cs)) ∧ Fr n0 L ∧ h = h0
theorem rm12n4 (l : Launch) (Z : State) (a0 : Array Value) (hw : HW a0 Z) (ws : List Jvm.Cond) (o0 : Addr) (b0 : Addr) (fF : Nat → Int32) (cs : Int32) (h0 : Heap) (n0 : Nat) (Z0 : n0 ≤ h0.size) (ha0 : Exa Z h0 o0 "java/lang/String") (ha1 : Fld Z h0 o0 "java/lang/String" "coder" "B" (.int 0)) (ha2 : Fld Z h0 o0 "java/lang/String" "value" "[B" (.ref b0)) (ha3 : AV Z h0 b0 .byte 4 (fun k => .int (fF k))) (ha4 : Sta Z h0 "java/lang/String" "COMPACT_STRINGS" "Z" (.int cs)) (hcs : ¬ cs = 0) :
    MetFree l y12 (head1 (Jvm.Cond.code y12 jdk_42_method_80_code 3 (some .int) :: ws) RM_2_0_0_32) (fun a U => a = #[(.ref o0), (.int 46), (.int 0)] ∧ Z.Warmed39 U.vm ∧ U.heap = h0) (fun _ _ _ _ _ => True) (fun _ U o U' => ∃ v L, o = .returned v ∧ Q12n4 o0 b0 fF cs h0 n0 v U'.heap L ∧ FrameEnd U o U' L RM_2_0_0_32.cells RM_2_0_0_32.slots) := by
  refine MetFree.of_bodySF (plainFor_of_name pn_0) hisR ?_
  intro p e s m args below meth c s₁ Bd hml0 hP hK
  obtain ⟨rfl, hZ, hh⟩ := hP
  have hx := Bd.exec
  have hby := Bd.bytes
  have hml : c.maxLocals = 3 := hml0
  have hown : s.vm.findClass "java/lang/String" = some m.cls := findClass_of_methodNamed Bd.named
  have X0 : Stand p l e RM_2_0_0_32 s m _ below meth c s₁ [] 0 0 := Stand.of_body Bd
  have e0 : s₁.heap = h0 := by rw [← hh, Bd.state]; rfl
  have N0 := Fr.nil n0
  refine Go.into (P := fun oo uu => ∃ v L, oo = .returned v ∧ Q12n4 o0 b0 fF cs h0 n0 v uu.heap L ∧ FrameEnd s oo uu L RM_2_0_0_32.cells RM_2_0_0_32.slots) (ef_12_aaa m o0 (46 : Int32) (0 : Int32)) ?_
  show Go p e below _ (s₁.setTop (mkF m 0 #[sR o0, sI 46, sI 0] []))
  refine Vi (s₁.setTop (mkF m 1 #[sR o0, sI 46, sI 0] [(.ref o0)])) (fun tZ kZ => ?_) ?_
  · refine XS.aloadN X0.here hx rfl (hb hby d12_0) rfl rfl ?_
    exact kZ
  obtain ⟨cq1, kq1, q1a, q1b, q1c⟩ := isOf hZ e0 ha0
  obtain ⟨_, _, ⟨T1, L1, k1, n1⟩, -, X1, ⟨Lc1, hQ1, l1, y1, z1⟩, st1⟩ := X0.virtualBack hx (y := y13) (z := y13) hown (wz hZ hw 72 rfl) (wz hZ hw 73 rfl) (notFace_of_selects (args := #[]) (wz hZ hw 75 rfl)) (wz hZ hw 75 rfl) (wz hZ hw 74 rfl) (by decide) (backOf (W := 0) (rm13 l Z a0 hw [] o0 cs h0 n0 Z0 ha1 ha4 hcs) hZ (wq hw 76 rfl) (wq hw 10 rfl) (by decide) (by decide)) q1a q1c (g := (mkF m 1 #[sR o0, sI 46, sI 0] [(.ref o0)])) rfl (by rw [hml]; rfl) (Steps.refl _) (argsL := []) (rest := []) (lenOf pd_11 rfl) rfl (leW rfl) (hb hby d12_1) (fun _ _ => ⟨rfl, e0, (by decide : 0 + 0 ≤ _), (by decide : 0 + 0 ≤ _)⟩)
  dsimp only [Pt.U, Pt.locs, Pt.cells, Pt.slots] at X1 l1 y1 z1 st1 hQ1
  subst l1 y1 z1
  obtain ⟨rfl, N1q, e1⟩ := hQ1
  have hv1 : (f13 o0 cs) = (1 : Int32) := by unfold f13; decide
  rw [hv1] at st1
  have N1 := Fr.app N0 N1q
  refine Go.via (fun t k => st1.trans k) ?_
  refine Vi (T1.setTop (mkF m 8 #[sR o0, sI 46, sI 0] [(.ref o0)])) (fun tZ kZ => ?_) ?_
  · refine XS.ifNo X1.here hx rfl (hb hby d12_4) rfl ((if0 _ _).trans (feq (by decide)).1) ?_
    refine XS.aloadN X1.here hx rfl (hb hby d12_7) rfl rfl ?_
    exact kZ
  obtain ⟨T2, X2, e2, st2⟩ := getF X1 hx hZ hown (host := "") (Or.inl (wq hw 28 rfl)) Via.refl e1 ha2 (g := (mkF m 8 #[sR o0, sI 46, sI 0] [(.ref o0)])) rfl rfl (hb hby d12_8)
  refine Go.via st2 ?_
  refine Vi (T2.setTop (mkF m 14 #[sR o0, sI 46, sI 0] [(.ref o0), (.int 0), (.int 46), (.ref b0)])) (fun tZ kZ => ?_) ?_
  · refine XS.iloadN X2.here hx rfl (hb hby d12_11) rfl ?_
    refine XS.iloadN X2.here hx rfl (hb hby d12_12) rfl ?_
    refine XS.aloadN X2.here hx rfl (hb hby d12_13) rfl rfl ?_
    exact kZ
  obtain ⟨cq3, kq3, q3a, q3b, q3c⟩ := isOf hZ e2 ha0
  obtain ⟨_, _, ⟨T3, L3, k3, n3⟩, -, X3, ⟨Lc3, hQ3, l3, y3, z3⟩, st3⟩ := X2.virtualBack hx (y := y14) (z := y14) hown (wz hZ hw 78 rfl) (wz hZ hw 79 rfl) (notFace_of_selects (args := #[]) (wz hZ hw 81 rfl)) (wz hZ hw 81 rfl) (wz hZ hw 80 rfl) (by decide) (backOf (W := 3) (rm14 l Z a0 hw [] o0 b0 4 fF cs h0 n0 Z0 ha0 ha1 ha2 ha3 ha4 hcs) hZ (wq hw 82 rfl) (wq hw 10 rfl) (by decide) (by decide)) q3a q3c (g := (mkF m 14 #[sR o0, sI 46, sI 0] [(.ref o0), (.int 0), (.int 46), (.ref b0)])) rfl (by rw [hml]; rfl) (Steps.refl _) (argsL := []) (rest := [(.int 0), (.int 46), (.ref b0)]) (lenOf pd_12 rfl) rfl (leW rfl) (hb hby d12_14) (fun _ _ => ⟨rfl, e2, (by decide : 0 + 0 + 0 ≤ _), (by decide : 0 + 0 + 0 ≤ _)⟩)
  dsimp only [Pt.U, Pt.locs, Pt.cells, Pt.slots] at X3 l3 y3 z3 st3 hQ3
  subst l3 y3 z3
  obtain ⟨rfl, N3q, e3⟩ := hQ3
  have hv3 : (f14 o0 b0 4 fF cs) = (Int32.ofNat 4) := by unfold f14; exact own_sh0 _
  rw [hv3] at st3
  have N3 := Fr.app N1 N3q
  refine Go.via (fun t k => st3.trans k) ?_
  obtain ⟨_, _, ⟨T4, L4, k4, n4⟩, -, X4, ⟨Lc4, hQ4, l4, y4, z4⟩, st4⟩ := Jvm.LawKit.callS X3 hx (y := y16) hown (wz hZ hw 88 rfl) (wz hZ hw 89 rfl) (wz hZ hw 90 rfl) (wz hZ hw 91 rfl) (by decide) (backOf (W := 0) (rm16n4 l Z a0 hw [] b0 fF h0 n0 Z0 ha3) hZ (wq hw 91 rfl) (wq hw 90 rfl) (by decide) (by decide)) (g := (mkF m 17 #[sR o0, sI 46, sI 0] [(.int 4), (.int 0), (.int 46), (.ref b0)])) rfl (by rw [hml]; rfl) (argsL := [(.ref b0), (.int 46), (.int 0), (.int 4)]) (rest := []) (lenOf pd_14 rfl) rfl (leW rfl) (hb hby d12_17) (fun _ _ => ⟨rfl, e3, (by decide : 0 + 0 + 0 + 0 ≤ _), (by decide : 0 + 0 + 0 + 0 ≤ _)⟩)
  dsimp only [Pt.U, Pt.locs, Pt.cells, Pt.slots] at X4 l4 y4 z4 st4 hQ4
  subst l4 y4 z4
  obtain ⟨rfl, N4q, e4⟩ := hQ4
  have N4 := Fr.app N3 N4q
  refine Go.via st4 ?_
  refine Vi (T4.setTop (mkF m 36 #[sR o0, sI 46, sI 0] [(.int (f16n4 b0 fF))])) (fun tZ kZ => ?_) ?_
  · refine XS.goto X4.here hx rfl (pc0 := 20) (pc' := 36) rfl (hb hby d12_20) (by decide) (by decide) ?_
    exact kZ
  refine Go.retI X4 hx Bd.notSynchronized Bd.returns (hb hby d12_36) (by decide) (by decide) ?_
  refine ⟨?_, N4, e4⟩
  show some ((.int (f16n4 b0 fF)) : Value) = some (.int (f12n4 o0 b0 fF cs))
  rfl
def f11n4 (o0 : Addr) (b0 : Addr) (fF : Nat → Int32) (cs : Int32) : Int32 := (f12n4 o0 b0 fF cs)
def Q11n4 (o0 : Addr) (b0 : Addr) (fF : Nat → Int32) (cs : Int32) (h0 : Heap) (n0 : Nat) (v : Option Value) (h : Heap) (L : List Loc) : Prop := v = some (.int (f11n4 o0 b0 fF cs)) ∧ Fr n0 L ∧ h = h0
theorem rm11n4 (l : Launch) (Z : State) (a0 : Array Value) (hw : HW a0 Z) (ws : List Jvm.Cond) (o0 : Addr) (b0 : Addr) (fF : Nat → Int32) (cs : Int32) (h0 : Heap) (n0 : Nat) (Z0 : n0 ≤ h0.size) (ha0 : Exa Z h0 o0 "java/lang/String") (ha1 : Fld Z h0 o0 "java/lang/String" "coder" "B" (.int 0)) (ha2 : Fld Z h0 o0 "java/lang/String" "value" "[B" (.ref b0)) (ha3 : AV Z h0 b0 .byte 4 (fun k => .int (fF k))) (ha4 : Sta Z h0 "java/lang/String" "COMPACT_STRINGS" "Z" (.int cs)) (hcs : ¬ cs = 0) :
    MetFree l y11 (head1 (Jvm.Cond.code y11 jdk_42_method_79_code 2 (some .int) :: ws) RM_3_0_0_46) (fun a U => a = #[(.ref o0), (.int 46)] ∧ Z.Warmed39 U.vm ∧ U.heap = h0) (fun _ _ _ _ _ => True) (fun _ U o U' => ∃ v L, o = .returned v ∧ Q11n4 o0 b0 fF cs h0 n0 v U'.heap L ∧ FrameEnd U o U' L RM_3_0_0_46.cells RM_3_0_0_46.slots) := by
  refine MetFree.of_bodySF (plainFor_of_name pn_0) hisR ?_
  intro p e s m args below meth c s₁ Bd hml0 hP hK
  obtain ⟨rfl, hZ, hh⟩ := hP
  have hx := Bd.exec
  have hby := Bd.bytes
  have hml : c.maxLocals = 2 := hml0
  have hown : s.vm.findClass "java/lang/String" = some m.cls := findClass_of_methodNamed Bd.named
  have X0 : Stand p l e RM_3_0_0_46 s m _ below meth c s₁ [] 0 0 := Stand.of_body Bd
  have e0 : s₁.heap = h0 := by rw [← hh, Bd.state]; rfl
  have N0 := Fr.nil n0
  refine Go.into (P := fun oo uu => ∃ v L, oo = .returned v ∧ Q11n4 o0 b0 fF cs h0 n0 v uu.heap L ∧ FrameEnd s oo uu L RM_3_0_0_46.cells RM_3_0_0_46.slots) (ef_11_aa m o0 (46 : Int32)) ?_
  show Go p e below _ (s₁.setTop (mkF m 0 #[sR o0, sI 46] []))
  refine Vi (s₁.setTop (mkF m 3 #[sR o0, sI 46] [(.int 0), (.int 46), (.ref o0)])) (fun tZ kZ => ?_) ?_
  · refine XS.aloadN X0.here hx rfl (hb hby d11_0) rfl rfl ?_
    refine XS.iloadN X0.here hx rfl (hb hby d11_1) rfl ?_
    refine XS.iconst X0.here hx rfl (hb hby d11_2) ?_
    exact kZ
  obtain ⟨cq1, kq1, q1a, q1b, q1c⟩ := isOf hZ e0 ha0
  obtain ⟨_, _, ⟨T1, L1, k1, n1⟩, -, X1, ⟨Lc1, hQ1, l1, y1, z1⟩, st1⟩ := X0.virtualBack hx (y := y12) (z := y12) hown (wz hZ hw 67 rfl) (wz hZ hw 68 rfl) (notFace_of_selects (args := #[]) (wz hZ hw 70 rfl)) (wz hZ hw 70 rfl) (wz hZ hw 69 rfl) (by decide) (backOf (W := 0) (rm12n4 l Z a0 hw [] o0 b0 fF cs h0 n0 Z0 ha0 ha1 ha2 ha3 ha4 hcs) hZ (wq hw 71 rfl) (wq hw 10 rfl) (by decide) (by decide)) q1a q1c (g := (mkF m 3 #[sR o0, sI 46] [(.int 0), (.int 46), (.ref o0)])) rfl (by rw [hml]; rfl) (Steps.refl _) (argsL := [(.int 46), (.int 0)]) (rest := []) (lenOf pd_10 rfl) rfl (leW rfl) (hb hby d11_3) (fun _ _ => ⟨rfl, e0, (by decide : 0 + 0 ≤ _), (by decide : 0 + 0 ≤ _)⟩)
  dsimp only [Pt.U, Pt.locs, Pt.cells, Pt.slots] at X1 l1 y1 z1 st1 hQ1
  subst l1 y1 z1
  obtain ⟨rfl, N1q, e1⟩ := hQ1
  have N1 := Fr.app N0 N1q
  refine Go.via (fun t k => st1.trans k) ?_
  refine Go.retI X1 hx Bd.notSynchronized Bd.returns (hb hby d11_6) (by decide) (by decide) ?_
  refine ⟨?_, N1, e1⟩
  show some ((.int (f12n4 o0 b0 fF cs)) : Value) = some (.int (f11n4 o0 b0 fF cs))
  rfl
theorem own_l4_0 (sn b0 : Addr) (fF : Nat → Int32) (cs : Int32) (h0 : ¬ fF (0 : Int32).toNatClampNeg = ((46 : Int32).toInt8.toInt32)) (h1 : ¬ fF (1 : Int32).toNatClampNeg = ((46 : Int32).toInt8.toInt32)) (h2 : ¬ fF (2 : Int32).toNatClampNeg = ((46 : Int32).toInt8.toInt32)) (h3 : ¬ fF (3 : Int32).toNatClampNeg = ((46 : Int32).toInt8.toInt32)) : (f11n4 sn b0 fF cs) = (-1 : Int32) := by unfold f11n4 f12n4 f16n4; unfold f23n4; rw [if_neg h0, if_neg h1, if_neg h2, if_neg h3]; try rfl
theorem own_l4_1 (sn b0 : Addr) (fF : Nat → Int32) (cs : Int32) (h0 : fF (0 : Int32).toNatClampNeg = ((46 : Int32).toInt8.toInt32)) : (f11n4 sn b0 fF cs) = (Int32.ofNat 0) := by unfold f11n4 f12n4 f16n4; unfold f23n4; rw [if_pos h0]; try rfl
theorem own_l4_2 (sn b0 : Addr) (fF : Nat → Int32) (cs : Int32) (h0 : ¬ fF (0 : Int32).toNatClampNeg = ((46 : Int32).toInt8.toInt32)) (h1 : fF (1 : Int32).toNatClampNeg = ((46 : Int32).toInt8.toInt32)) : (f11n4 sn b0 fF cs) = (Int32.ofNat 1) := by unfold f11n4 f12n4 f16n4; unfold f23n4; rw [if_neg h0, if_pos h1]; try rfl
theorem own_l4_3 (sn b0 : Addr) (fF : Nat → Int32) (cs : Int32) (h0 : ¬ fF (0 : Int32).toNatClampNeg = ((46 : Int32).toInt8.toInt32)) (h1 : ¬ fF (1 : Int32).toNatClampNeg = ((46 : Int32).toInt8.toInt32)) (h2 : fF (2 : Int32).toNatClampNeg = ((46 : Int32).toInt8.toInt32)) : (f11n4 sn b0 fF cs) = (Int32.ofNat 2) := by unfold f11n4 f12n4 f16n4; unfold f23n4; rw [if_neg h0, if_neg h1, if_pos h2]; try rfl
theorem own_l4_4 (sn b0 : Addr) (fF : Nat → Int32) (cs : Int32) (h0 : ¬ fF (0 : Int32).toNatClampNeg = ((46 : Int32).toInt8.toInt32)) (h1 : ¬ fF (1 : Int32).toNatClampNeg = ((46 : Int32).toInt8.toInt32)) (h2 : ¬ fF (2 : Int32).toNatClampNeg = ((46 : Int32).toInt8.toInt32)) (h3 : fF (3 : Int32).toNatClampNeg = ((46 : Int32).toInt8.toInt32)) : (f11n4 sn b0 fF cs) = (Int32.ofNat 3) := by unfold f11n4 f12n4 f16n4; unfold f23n4; rw [if_neg h0, if_neg h1, if_neg h2, if_pos h3]; try rfl
theorem d10_0 : decode B10 0 = .ok (.aload_n 0, 1) := by decide +kernel
theorem d10_1 : decode B10 1 = .ok (.getfield 13, 3) := by decide +kernel
theorem d10_4 : decode B10 4 = .ok (.bipush 46, 2) := by decide +kernel
theorem pd_9 : parseMethodDescriptor "(I)I" = some ⟨[.int], some .int⟩ := by decide +kernel
theorem d10_6 : decode B10 6 = .ok (.invokevirtual 57, 3) := by decide +kernel
theorem d10_9 : decode B10 9 = .ok (.istore_n 1, 1) := by decide +kernel
theorem d10_10 : decode B10 10 = .ok (.iload_n 1, 1) := by decide +kernel
theorem d10_11 : decode B10 11 = .ok (.ifCond .ge 10, 3) := by decide +kernel
theorem d10_14 : decode B10 14 = .ok (.aload_n 0, 1) := by decide +kernel
theorem d10_15 : decode B10 15 = .ok (.getfield 13, 3) := by decide +kernel
theorem d10_18 : decode B10 18 = .ok (.goto 12, 3) := by decide +kernel
theorem d10_30 : decode B10 30 = .ok (.areturn, 1) := by decide +kernel
def Q10n0A (Z : State) (o0 : Addr) (sn : Addr) (b0 : Addr) (fF : Nat → Int32) (cs : Int32) (sv : Value) (h0 : Heap) (n0 : Nat) (v : Option Value) (h : Heap) (L : List Loc) : Prop := v = some (.ref sn) ∧ Fr n0 L ∧ h = h0
abbrev RM_4_0_0_55 : Room := { frames := 4, cells := 0, slots := 0, locals := 55 }
theorem ef_10_a (m : MethodId) (x0 : Addr) : entryFrame m #[(.ref x0)] 2 = mkF m 0 #[.val (.ref x0), .unset] [] := by first | (simp [entryFrame, mkF, argsToLocals, Value.category]; done) | rfl
theorem rm10n0A (l : Launch) (Z : State) (a0 : Array Value) (hw : HW a0 Z) (ws : List Jvm.Cond) (o0 : Addr) (sn : Addr) (b0 : Addr) (fF : Nat → Int32) (cs : Int32) (sv : Value) (h0 : Heap) (n0 : Nat) (Z0 : n0 ≤ h0.size) (ha0 : Exa Z h0 o0 "com/example/bindery/bindery/compiler/JavaType") (ha1 : Fld Z h0 o0 "com/example/bindery/bindery/compiler/JavaType" "name" "Ljava/lang/String;" (.ref sn)) (ha2 : Exa Z h0 sn "java/lang/String") (ha3 : Fld Z h0 sn "java/lang/String" "coder" "B" (.int 0)) (ha4 : Fld Z h0 sn "java/lang/String" "value" "[B" (.ref b0)) (ha5 : AV Z h0 b0 .byte 0 (fun k => .int (fF k))) (ha6 : Sta Z h0 "java/lang/String" "COMPACT_STRINGS" "Z" (.int cs)) (ha7 : Sta Z h0 "jdk/internal/util/Preconditions" "SIOOBE_FORMATTER" "Ljava/util/function/BiFunction;" sv) (hcs : ¬ cs = 0) (hsv : sv.isRef = true) (hld : (f11n0 sn b0 fF cs) = (-1 : Int32)) :
    MetFree l y10 (head1 (Jvm.Cond.code y10 prog_5_method_9_code 2 (some (.object "java/lang/String")) :: ws) RM_4_0_0_55) (fun a U => a = #[(.ref o0)] ∧ Z.Warmed39 U.vm ∧ U.heap = h0) (fun _ _ _ _ _ => True) (fun _ U o U' => ∃ v L, o = .returned v ∧ Q10n0A Z o0 sn b0 fF cs sv h0 n0 v U'.heap L ∧ FrameEnd U o U' L RM_4_0_0_55.cells RM_4_0_0_55.slots) := by
  refine MetFree.of_bodySF (plainFor_of_name pn_5) hisR ?_
  intro p e s m args below meth c s₁ Bd hml0 hP hK
  obtain ⟨rfl, hZ, hh⟩ := hP
  have hx := Bd.exec
  have hby := Bd.bytes
  have hml : c.maxLocals = 2 := hml0
  have hown : s.vm.findClass "com/example/bindery/bindery/compiler/JavaType" = some m.cls := findClass_of_methodNamed Bd.named
  have X0 : Stand p l e RM_4_0_0_55 s m _ below meth c s₁ [] 0 0 := Stand.of_body Bd
  have e0 : s₁.heap = h0 := by rw [← hh, Bd.state]; rfl
  have N0 := Fr.nil n0
  refine Go.into (P := fun oo uu => ∃ v L, oo = .returned v ∧ Q10n0A Z o0 sn b0 fF cs sv h0 n0 v uu.heap L ∧ FrameEnd s oo uu L RM_4_0_0_55.cells RM_4_0_0_55.slots) (ef_10_a m o0) ?_
  show Go p e below _ (s₁.setTop (mkF m 0 #[sR o0, .unset] []))
  refine Vi (s₁.setTop (mkF m 1 #[sR o0, .unset] [(.ref o0)])) (fun tZ kZ => ?_) ?_
  · refine XS.aloadN X0.here hx rfl (hb hby d10_0) rfl rfl ?_
    exact kZ
  obtain ⟨T1, X1, e1, st1⟩ := getF X0 hx hZ hown (host := "") (Or.inl (wq hw 53 rfl)) Via.refl e0 ha1 (g := (mkF m 1 #[sR o0, .unset] [(.ref o0)])) rfl rfl (hb hby d10_1)
  refine Go.via st1 ?_
  refine Vi (T1.setTop (mkF m 6 #[sR o0, .unset] [(.int 46), (.ref sn)])) (fun tZ kZ => ?_) ?_
  · refine XS.bipush X1.here hx rfl (hb hby d10_4) ?_
    exact kZ
  obtain ⟨cq2, kq2, q2a, q2b, q2c⟩ := isOf hZ e1 ha2
  obtain ⟨_, _, ⟨T2, L2, k2, n2⟩, -, X2, ⟨Lc2, hQ2, l2, y2, z2⟩, st2⟩ := X1.virtualBack hx (y := y11) (z := y11) hown (wz hZ hw 62 rfl) (wz hZ hw 63 rfl) (notFace_of_selects (args := #[]) (wz hZ hw 65 rfl)) (wz hZ hw 65 rfl) (wz hZ hw 64 rfl) (by decide) (backOf (W := 0) (rm11n0 l Z a0 hw [] sn b0 fF cs h0 n0 Z0 ha2 ha3 ha4 ha5 ha6 hcs) hZ (wq hw 66 rfl) (wq hw 10 rfl) (by decide) (by decide)) q2a q2c (g := (mkF m 6 #[sR o0, .unset] [(.int 46), (.ref sn)])) rfl (by rw [hml]; rfl) (Steps.refl _) (argsL := [(.int 46)]) (rest := []) (lenOf pd_9 rfl) rfl (leW rfl) (hb hby d10_6) (fun _ _ => ⟨rfl, e1, (by decide : 0 + 0 ≤ _), (by decide : 0 + 0 ≤ _)⟩)
  dsimp only [Pt.U, Pt.locs, Pt.cells, Pt.slots] at X2 l2 y2 z2 st2 hQ2
  subst l2 y2 z2
  obtain ⟨rfl, N2q, e2⟩ := hQ2
  have N2 := Fr.app N0 N2q
  refine Go.via (fun t k => st2.trans k) ?_
  rw [hld]
  show Go p e below _ (T2.setTop (mkF m 9 #[sR o0, .unset] [(.int (-1))]))
  refine Vi (T2.setTop (mkF m 15 #[sR o0, sI (-1)] [(.ref o0)])) (fun tZ kZ => ?_) ?_
  · refine XS.istoreN X2.here hx rfl (hb hby d10_9) rfl (l' := #[sR o0, sI (-1)]) rfl ?_
    refine XS.iloadN X2.here hx rfl (hb hby d10_10) rfl ?_
    refine XS.ifNo X2.here hx rfl (hb hby d10_11) rfl ((if0 _ _).trans (tlt (by decide)).2.1) ?_
    refine XS.aloadN X2.here hx rfl (hb hby d10_14) rfl rfl ?_
    exact kZ
  obtain ⟨T3, X3, e3, st3⟩ := getF X2 hx hZ hown (host := "") (Or.inl (wq hw 53 rfl)) Via.refl e2 ha1 (g := (mkF m 15 #[sR o0, sI (-1)] [(.ref o0)])) rfl rfl (hb hby d10_15)
  refine Go.via st3 ?_
  refine Vi (T3.setTop (mkF m 30 #[sR o0, sI (-1)] [(.ref sn)])) (fun tZ kZ => ?_) ?_
  · refine XS.goto X3.here hx rfl (pc0 := 18) (pc' := 30) rfl (hb hby d10_18) (by decide) (by decide) ?_
    exact kZ
  refine Go.retR X3 hx Bd.notSynchronized Bd.returns rfl rfl (hb hby d10_30) (by decide) (by decide) ?_
  rw [e3]
  exact ⟨rfl, N2, rfl⟩
def Q10n1A (Z : State) (o0 : Addr) (sn : Addr) (b0 : Addr) (fF : Nat → Int32) (cs : Int32) (sv : Value) (h0 : Heap) (n0 : Nat) (v : Option Value) (h : Heap) (L : List Loc) : Prop := v = some (.ref sn) ∧ Fr n0 L ∧ h = h0
abbrev RM_4_0_0_59 : Room := { frames := 4, cells := 0, slots := 0, locals := 59 }
theorem rm10n1A (l : Launch) (Z : State) (a0 : Array Value) (hw : HW a0 Z) (ws : List Jvm.Cond) (o0 : Addr) (sn : Addr) (b0 : Addr) (fF : Nat → Int32) (cs : Int32) (sv : Value) (h0 : Heap) (n0 : Nat) (Z0 : n0 ≤ h0.size) (ha0 : Exa Z h0 o0 "com/example/bindery/bindery/compiler/JavaType") (ha1 : Fld Z h0 o0 "com/example/bindery/bindery/compiler/JavaType" "name" "Ljava/lang/String;" (.ref sn)) (ha2 : Exa Z h0 sn "java/lang/String") (ha3 : Fld Z h0 sn "java/lang/String" "coder" "B" (.int 0)) (ha4 : Fld Z h0 sn "java/lang/String" "value" "[B" (.ref b0)) (ha5 : AV Z h0 b0 .byte 1 (fun k => .int (fF k))) (ha6 : Sta Z h0 "java/lang/String" "COMPACT_STRINGS" "Z" (.int cs)) (ha7 : Sta Z h0 "jdk/internal/util/Preconditions" "SIOOBE_FORMATTER" "Ljava/util/function/BiFunction;" sv) (hcs : ¬ cs = 0) (hsv : sv.isRef = true) (hld : (f11n1 sn b0 fF cs) = (-1 : Int32)) :
    MetFree l y10 (head1 (Jvm.Cond.code y10 prog_5_method_9_code 2 (some (.object "java/lang/String")) :: ws) RM_4_0_0_59) (fun a U => a = #[(.ref o0)] ∧ Z.Warmed39 U.vm ∧ U.heap = h0) (fun _ _ _ _ _ => True) (fun _ U o U' => ∃ v L, o = .returned v ∧ Q10n1A Z o0 sn b0 fF cs sv h0 n0 v U'.heap L ∧ FrameEnd U o U' L RM_4_0_0_59.cells RM_4_0_0_59.slots) := by
  refine MetFree.of_bodySF (plainFor_of_name pn_5) hisR ?_
  intro p e s m args below meth c s₁ Bd hml0 hP hK
  obtain ⟨rfl, hZ, hh⟩ := hP
  have hx := Bd.exec
  have hby := Bd.bytes
  have hml : c.maxLocals = 2 := hml0
  have hown : s.vm.findClass "com/example/bindery/bindery/compiler/JavaType" = some m.cls := findClass_of_methodNamed Bd.named
  have X0 : Stand p l e RM_4_0_0_59 s m _ below meth c s₁ [] 0 0 := Stand.of_body Bd
  have e0 : s₁.heap = h0 := by rw [← hh, Bd.state]; rfl
  have N0 := Fr.nil n0
  refine Go.into (P := fun oo uu => ∃ v L, oo = .returned v ∧ Q10n1A Z o0 sn b0 fF cs sv h0 n0 v uu.heap L ∧ FrameEnd s oo uu L RM_4_0_0_59.cells RM_4_0_0_59.slots) (ef_10_a m o0) ?_
  show Go p e below _ (s₁.setTop (mkF m 0 #[sR o0, .unset] []))
  refine Vi (s₁.setTop (mkF m 1 #[sR o0, .unset] [(.ref o0)])) (fun tZ kZ => ?_) ?_
  · refine XS.aloadN X0.here hx rfl (hb hby d10_0) rfl rfl ?_
    exact kZ
  obtain ⟨T1, X1, e1, st1⟩ := getF X0 hx hZ hown (host := "") (Or.inl (wq hw 53 rfl)) Via.refl e0 ha1 (g := (mkF m 1 #[sR o0, .unset] [(.ref o0)])) rfl rfl (hb hby d10_1)
  refine Go.via st1 ?_
  refine Vi (T1.setTop (mkF m 6 #[sR o0, .unset] [(.int 46), (.ref sn)])) (fun tZ kZ => ?_) ?_
  · refine XS.bipush X1.here hx rfl (hb hby d10_4) ?_
    exact kZ
  obtain ⟨cq2, kq2, q2a, q2b, q2c⟩ := isOf hZ e1 ha2
  obtain ⟨_, _, ⟨T2, L2, k2, n2⟩, -, X2, ⟨Lc2, hQ2, l2, y2, z2⟩, st2⟩ := X1.virtualBack hx (y := y11) (z := y11) hown (wz hZ hw 62 rfl) (wz hZ hw 63 rfl) (notFace_of_selects (args := #[]) (wz hZ hw 65 rfl)) (wz hZ hw 65 rfl) (wz hZ hw 64 rfl) (by decide) (backOf (W := 0) (rm11n1 l Z a0 hw [] sn b0 fF cs h0 n0 Z0 ha2 ha3 ha4 ha5 ha6 hcs) hZ (wq hw 66 rfl) (wq hw 10 rfl) (by decide) (by decide)) q2a q2c (g := (mkF m 6 #[sR o0, .unset] [(.int 46), (.ref sn)])) rfl (by rw [hml]; rfl) (Steps.refl _) (argsL := [(.int 46)]) (rest := []) (lenOf pd_9 rfl) rfl (leW rfl) (hb hby d10_6) (fun _ _ => ⟨rfl, e1, (by decide : 0 + 0 ≤ _), (by decide : 0 + 0 ≤ _)⟩)
  dsimp only [Pt.U, Pt.locs, Pt.cells, Pt.slots] at X2 l2 y2 z2 st2 hQ2
  subst l2 y2 z2
  obtain ⟨rfl, N2q, e2⟩ := hQ2
  have N2 := Fr.app N0 N2q
  refine Go.via (fun t k => st2.trans k) ?_
  rw [hld]
  show Go p e below _ (T2.setTop (mkF m 9 #[sR o0, .unset] [(.int (-1))]))
  refine Vi (T2.setTop (mkF m 15 #[sR o0, sI (-1)] [(.ref o0)])) (fun tZ kZ => ?_) ?_
  · refine XS.istoreN X2.here hx rfl (hb hby d10_9) rfl (l' := #[sR o0, sI (-1)]) rfl ?_
    refine XS.iloadN X2.here hx rfl (hb hby d10_10) rfl ?_
    refine XS.ifNo X2.here hx rfl (hb hby d10_11) rfl ((if0 _ _).trans (tlt (by decide)).2.1) ?_
    refine XS.aloadN X2.here hx rfl (hb hby d10_14) rfl rfl ?_
    exact kZ
  obtain ⟨T3, X3, e3, st3⟩ := getF X2 hx hZ hown (host := "") (Or.inl (wq hw 53 rfl)) Via.refl e2 ha1 (g := (mkF m 15 #[sR o0, sI (-1)] [(.ref o0)])) rfl rfl (hb hby d10_15)
  refine Go.via st3 ?_
  refine Vi (T3.setTop (mkF m 30 #[sR o0, sI (-1)] [(.ref sn)])) (fun tZ kZ => ?_) ?_
  · refine XS.goto X3.here hx rfl (pc0 := 18) (pc' := 30) rfl (hb hby d10_18) (by decide) (by decide) ?_
    exact kZ
  refine Go.retR X3 hx Bd.notSynchronized Bd.returns rfl rfl (hb hby d10_30) (by decide) (by decide) ?_
  rw [e3]
  exact ⟨rfl, N2, rfl⟩
def Q10n2A (Z : State) (o0 : Addr) (sn : Addr) (b0 : Addr) (fF : Nat → Int32) (cs : Int32) (sv : Value) (h0 : Heap) (n0 : Nat) (v : Option Value) (h : Heap) (L : List Loc) : Prop := v = some (.ref sn) ∧ Fr n0 L ∧ h = h0
theorem rm10n2A (l : Launch) (Z : State) (a0 : Array Value) (hw : HW a0 Z) (ws : List Jvm.Cond) (o0 : Addr) (sn : Addr) (b0 : Addr) (fF : Nat → Int32) (cs : Int32) (sv : Value) (h0 : Heap) (n0 : Nat) (Z0 : n0 ≤ h0.size) (ha0 : Exa Z h0 o0 "com/example/bindery/bindery/compiler/JavaType") (ha1 : Fld Z h0 o0 "com/example/bindery/bindery/compiler/JavaType" "name" "Ljava/lang/String;" (.ref sn)) (ha2 : Exa Z h0 sn "java/lang/String") (ha3 : Fld Z h0 sn "java/lang/String" "coder" "B" (.int 0)) (ha4 : Fld Z h0 sn "java/lang/String" "value" "[B" (.ref b0)) (ha5 : AV Z h0 b0 .byte 2 (fun k => .int (fF k))) (ha6 : Sta Z h0 "java/lang/String" "COMPACT_STRINGS" "Z" (.int cs)) (ha7 : Sta Z h0 "jdk/internal/util/Preconditions" "SIOOBE_FORMATTER" "Ljava/util/function/BiFunction;" sv) (hcs : ¬ cs = 0) (hsv : sv.isRef = true) (hld : (f11n2 sn b0 fF cs) = (-1 : Int32)) :
    MetFree l y10 (head1 (Jvm.Cond.code y10 prog_5_method_9_code 2 (some (.object "java/lang/String")) :: ws) RM_4_0_0_59) (fun a U => a = #[(.ref o0)] ∧ Z.Warmed39 U.vm ∧ U.heap = h0) (fun _ _ _ _ _ => True) (fun _ U o U' => ∃ v L, o = .returned v ∧ Q10n2A Z o0 sn b0 fF cs sv h0 n0 v U'.heap L ∧ FrameEnd U o U' L RM_4_0_0_59.cells RM_4_0_0_59.slots) := by
  refine MetFree.of_bodySF (plainFor_of_name pn_5) hisR ?_
  intro p e s m args below meth c s₁ Bd hml0 hP hK
  obtain ⟨rfl, hZ, hh⟩ := hP
  have hx := Bd.exec
  have hby := Bd.bytes
  have hml : c.maxLocals = 2 := hml0
  have hown : s.vm.findClass "com/example/bindery/bindery/compiler/JavaType" = some m.cls := findClass_of_methodNamed Bd.named
  have X0 : Stand p l e RM_4_0_0_59 s m _ below meth c s₁ [] 0 0 := Stand.of_body Bd
  have e0 : s₁.heap = h0 := by rw [← hh, Bd.state]; rfl
  have N0 := Fr.nil n0
  refine Go.into (P := fun oo uu => ∃ v L, oo = .returned v ∧ Q10n2A Z o0 sn b0 fF cs sv h0 n0 v uu.heap L ∧ FrameEnd s oo uu L RM_4_0_0_59.cells RM_4_0_0_59.slots) (ef_10_a m o0) ?_
  show Go p e below _ (s₁.setTop (mkF m 0 #[sR o0, .unset] []))
  refine Vi (s₁.setTop (mkF m 1 #[sR o0, .unset] [(.ref o0)])) (fun tZ kZ => ?_) ?_
  · refine XS.aloadN X0.here hx rfl (hb hby d10_0) rfl rfl ?_
    exact kZ
  obtain ⟨T1, X1, e1, st1⟩ := getF X0 hx hZ hown (host := "") (Or.inl (wq hw 53 rfl)) Via.refl e0 ha1 (g := (mkF m 1 #[sR o0, .unset] [(.ref o0)])) rfl rfl (hb hby d10_1)
  refine Go.via st1 ?_
  refine Vi (T1.setTop (mkF m 6 #[sR o0, .unset] [(.int 46), (.ref sn)])) (fun tZ kZ => ?_) ?_
  · refine XS.bipush X1.here hx rfl (hb hby d10_4) ?_
    exact kZ
  obtain ⟨cq2, kq2, q2a, q2b, q2c⟩ := isOf hZ e1 ha2
  obtain ⟨_, _, ⟨T2, L2, k2, n2⟩, -, X2, ⟨Lc2, hQ2, l2, y2, z2⟩, st2⟩ := X1.virtualBack hx (y := y11) (z := y11) hown (wz hZ hw 62 rfl) (wz hZ hw 63 rfl) (notFace_of_selects (args := #[]) (wz hZ hw 65 rfl)) (wz hZ hw 65 rfl) (wz hZ hw 64 rfl) (by decide) (backOf (W := 0) (rm11n2 l Z a0 hw [] sn b0 fF cs h0 n0 Z0 ha2 ha3 ha4 ha5 ha6 hcs) hZ (wq hw 66 rfl) (wq hw 10 rfl) (by decide) (by decide)) q2a q2c (g := (mkF m 6 #[sR o0, .unset] [(.int 46), (.ref sn)])) rfl (by rw [hml]; rfl) (Steps.refl _) (argsL := [(.int 46)]) (rest := []) (lenOf pd_9 rfl) rfl (leW rfl) (hb hby d10_6) (fun _ _ => ⟨rfl, e1, (by decide : 0 + 0 ≤ _), (by decide : 0 + 0 ≤ _)⟩)
  dsimp only [Pt.U, Pt.locs, Pt.cells, Pt.slots] at X2 l2 y2 z2 st2 hQ2
  subst l2 y2 z2
  obtain ⟨rfl, N2q, e2⟩ := hQ2
  have N2 := Fr.app N0 N2q
  refine Go.via (fun t k => st2.trans k) ?_
  rw [hld]
  show Go p e below _ (T2.setTop (mkF m 9 #[sR o0, .unset] [(.int (-1))]))
  refine Vi (T2.setTop (mkF m 15 #[sR o0, sI (-1)] [(.ref o0)])) (fun tZ kZ => ?_) ?_
  · refine XS.istoreN X2.here hx rfl (hb hby d10_9) rfl (l' := #[sR o0, sI (-1)]) rfl ?_
    refine XS.iloadN X2.here hx rfl (hb hby d10_10) rfl ?_
    refine XS.ifNo X2.here hx rfl (hb hby d10_11) rfl ((if0 _ _).trans (tlt (by decide)).2.1) ?_
    refine XS.aloadN X2.here hx rfl (hb hby d10_14) rfl rfl ?_
    exact kZ
  obtain ⟨T3, X3, e3, st3⟩ := getF X2 hx hZ hown (host := "") (Or.inl (wq hw 53 rfl)) Via.refl e2 ha1 (g := (mkF m 15 #[sR o0, sI (-1)] [(.ref o0)])) rfl rfl (hb hby d10_15)
  refine Go.via st3 ?_
  refine Vi (T3.setTop (mkF m 30 #[sR o0, sI (-1)] [(.ref sn)])) (fun tZ kZ => ?_) ?_
  · refine XS.goto X3.here hx rfl (pc0 := 18) (pc' := 30) rfl (hb hby d10_18) (by decide) (by decide) ?_
    exact kZ
  refine Go.retR X3 hx Bd.notSynchronized Bd.returns rfl rfl (hb hby d10_30) (by decide) (by decide) ?_
  rw [e3]
  exact ⟨rfl, N2, rfl⟩
def Q10n3A (Z : State) (o0 : Addr) (sn : Addr) (b0 : Addr) (fF : Nat → Int32) (cs : Int32) (sv : Value) (h0 : Heap) (n0 : Nat) (v : Option Value) (h : Heap) (L : List Loc) : Prop := v = some (.ref sn) ∧ Fr n0 L ∧ h = h0
theorem rm10n3A (l : Launch) (Z : State) (a0 : Array Value) (hw : HW a0 Z) (ws : List Jvm.Cond) (o0 : Addr) (sn : Addr) (b0 : Addr) (fF : Nat → Int32) (cs : Int32) (sv : Value) (h0 : Heap) (n0 : Nat) (Z0 : n0 ≤ h0.size) (ha0 : Exa Z h0 o0 "com/example/bindery/bindery/compiler/JavaType") (ha1 : Fld Z h0 o0 "com/example/bindery/bindery/compiler/JavaType" "name" "Ljava/lang/String;" (.ref sn)) (ha2 : Exa Z h0 sn "java/lang/String") (ha3 : Fld Z h0 sn "java/lang/String" "coder" "B" (.int 0)) (ha4 : Fld Z h0 sn "java/lang/String" "value" "[B" (.ref b0)) (ha5 : AV Z h0 b0 .byte 3 (fun k => .int (fF k))) (ha6 : Sta Z h0 "java/lang/String" "COMPACT_STRINGS" "Z" (.int cs)) (ha7 : Sta Z h0 "jdk/internal/util/Preconditions" "SIOOBE_FORMATTER" "Ljava/util/function/BiFunction;" sv) (hcs : ¬ cs = 0) (hsv : sv.isRef = true) (hld : (f11n3 sn b0 fF cs) = (-1 : Int32)) :
    MetFree l y10 (head1 (Jvm.Cond.code y10 prog_5_method_9_code 2 (some (.object "java/lang/String")) :: ws) RM_4_0_0_59) (fun a U => a = #[(.ref o0)] ∧ Z.Warmed39 U.vm ∧ U.heap = h0) (fun _ _ _ _ _ => True) (fun _ U o U' => ∃ v L, o = .returned v ∧ Q10n3A Z o0 sn b0 fF cs sv h0 n0 v U'.heap L ∧ FrameEnd U o U' L RM_4_0_0_59.cells RM_4_0_0_59.slots) := by
  refine MetFree.of_bodySF (plainFor_of_name pn_5) hisR ?_
  intro p e s m args below meth c s₁ Bd hml0 hP hK
  obtain ⟨rfl, hZ, hh⟩ := hP
  have hx := Bd.exec
  have hby := Bd.bytes
  have hml : c.maxLocals = 2 := hml0
  have hown : s.vm.findClass "com/example/bindery/bindery/compiler/JavaType" = some m.cls := findClass_of_methodNamed Bd.named
  have X0 : Stand p l e RM_4_0_0_59 s m _ below meth c s₁ [] 0 0 := Stand.of_body Bd
  have e0 : s₁.heap = h0 := by rw [← hh, Bd.state]; rfl
  have N0 := Fr.nil n0
  refine Go.into (P := fun oo uu => ∃ v L, oo = .returned v ∧ Q10n3A Z o0 sn b0 fF cs sv h0 n0 v uu.heap L ∧ FrameEnd s oo uu L RM_4_0_0_59.cells RM_4_0_0_59.slots) (ef_10_a m o0) ?_
  show Go p e below _ (s₁.setTop (mkF m 0 #[sR o0, .unset] []))
  refine Vi (s₁.setTop (mkF m 1 #[sR o0, .unset] [(.ref o0)])) (fun tZ kZ => ?_) ?_
  · refine XS.aloadN X0.here hx rfl (hb hby d10_0) rfl rfl ?_
    exact kZ
  obtain ⟨T1, X1, e1, st1⟩ := getF X0 hx hZ hown (host := "") (Or.inl (wq hw 53 rfl)) Via.refl e0 ha1 (g := (mkF m 1 #[sR o0, .unset] [(.ref o0)])) rfl rfl (hb hby d10_1)
  refine Go.via st1 ?_
  refine Vi (T1.setTop (mkF m 6 #[sR o0, .unset] [(.int 46), (.ref sn)])) (fun tZ kZ => ?_) ?_
  · refine XS.bipush X1.here hx rfl (hb hby d10_4) ?_
    exact kZ
  obtain ⟨cq2, kq2, q2a, q2b, q2c⟩ := isOf hZ e1 ha2
  obtain ⟨_, _, ⟨T2, L2, k2, n2⟩, -, X2, ⟨Lc2, hQ2, l2, y2, z2⟩, st2⟩ := X1.virtualBack hx (y := y11) (z := y11) hown (wz hZ hw 62 rfl) (wz hZ hw 63 rfl) (notFace_of_selects (args := #[]) (wz hZ hw 65 rfl)) (wz hZ hw 65 rfl) (wz hZ hw 64 rfl) (by decide) (backOf (W := 0) (rm11n3 l Z a0 hw [] sn b0 fF cs h0 n0 Z0 ha2 ha3 ha4 ha5 ha6 hcs) hZ (wq hw 66 rfl) (wq hw 10 rfl) (by decide) (by decide)) q2a q2c (g := (mkF m 6 #[sR o0, .unset] [(.int 46), (.ref sn)])) rfl (by rw [hml]; rfl) (Steps.refl _) (argsL := [(.int 46)]) (rest := []) (lenOf pd_9 rfl) rfl (leW rfl) (hb hby d10_6) (fun _ _ => ⟨rfl, e1, (by decide : 0 + 0 ≤ _), (by decide : 0 + 0 ≤ _)⟩)
  dsimp only [Pt.U, Pt.locs, Pt.cells, Pt.slots] at X2 l2 y2 z2 st2 hQ2
  subst l2 y2 z2
  obtain ⟨rfl, N2q, e2⟩ := hQ2
  have N2 := Fr.app N0 N2q
  refine Go.via (fun t k => st2.trans k) ?_
  rw [hld]
  show Go p e below _ (T2.setTop (mkF m 9 #[sR o0, .unset] [(.int (-1))]))
  refine Vi (T2.setTop (mkF m 15 #[sR o0, sI (-1)] [(.ref o0)])) (fun tZ kZ => ?_) ?_
  · refine XS.istoreN X2.here hx rfl (hb hby d10_9) rfl (l' := #[sR o0, sI (-1)]) rfl ?_
    refine XS.iloadN X2.here hx rfl (hb hby d10_10) rfl ?_
    refine XS.ifNo X2.here hx rfl (hb hby d10_11) rfl ((if0 _ _).trans (tlt (by decide)).2.1) ?_
    refine XS.aloadN X2.here hx rfl (hb hby d10_14) rfl rfl ?_
    exact kZ
  obtain ⟨T3, X3, e3, st3⟩ := getF X2 hx hZ hown (host := "") (Or.inl (wq hw 53 rfl)) Via.refl e2 ha1 (g := (mkF m 15 #[sR o0, sI (-1)] [(.ref o0)])) rfl rfl (hb hby d10_15)
  refine Go.via st3 ?_
  refine Vi (T3.setTop (mkF m 30 #[sR o0, sI (-1)] [(.ref sn)])) (fun tZ kZ => ?_) ?_
  · refine XS.goto X3.here hx rfl (pc0 := 18) (pc' := 30) rfl (hb hby d10_18) (by decide) (by decide) ?_
    exact kZ
  refine Go.retR X3 hx Bd.notSynchronized Bd.returns rfl rfl (hb hby d10_30) (by decide) (by decide) ?_
  rw [e3]
  exact ⟨rfl, N2, rfl⟩
def Q10n4A (Z : State) (o0 : Addr) (sn : Addr) (b0 : Addr) (fF : Nat → Int32) (cs : Int32) (sv : Value) (h0 : Heap) (n0 : Nat) (v : Option Value) (h : Heap) (L : List Loc) : Prop := v = some (.ref sn) ∧ Fr n0 L ∧ h = h0
theorem rm10n4A (l : Launch) (Z : State) (a0 : Array Value) (hw : HW a0 Z) (ws : List Jvm.Cond) (o0 : Addr) (sn : Addr) (b0 : Addr) (fF : Nat → Int32) (cs : Int32) (sv : Value) (h0 : Heap) (n0 : Nat) (Z0 : n0 ≤ h0.size) (ha0 : Exa Z h0 o0 "com/example/bindery/bindery/compiler/JavaType") (ha1 : Fld Z h0 o0 "com/example/bindery/bindery/compiler/JavaType" "name" "Ljava/lang/String;" (.ref sn)) (ha2 : Exa Z h0 sn "java/lang/String") (ha3 : Fld Z h0 sn "java/lang/String" "coder" "B" (.int 0)) (ha4 : Fld Z h0 sn "java/lang/String" "value" "[B" (.ref b0)) (ha5 : AV Z h0 b0 .byte 4 (fun k => .int (fF k))) (ha6 : Sta Z h0 "java/lang/String" "COMPACT_STRINGS" "Z" (.int cs)) (ha7 : Sta Z h0 "jdk/internal/util/Preconditions" "SIOOBE_FORMATTER" "Ljava/util/function/BiFunction;" sv) (hcs : ¬ cs = 0) (hsv : sv.isRef = true) (hld : (f11n4 sn b0 fF cs) = (-1 : Int32)) :
    MetFree l y10 (head1 (Jvm.Cond.code y10 prog_5_method_9_code 2 (some (.object "java/lang/String")) :: ws) RM_4_0_0_59) (fun a U => a = #[(.ref o0)] ∧ Z.Warmed39 U.vm ∧ U.heap = h0) (fun _ _ _ _ _ => True) (fun _ U o U' => ∃ v L, o = .returned v ∧ Q10n4A Z o0 sn b0 fF cs sv h0 n0 v U'.heap L ∧ FrameEnd U o U' L RM_4_0_0_59.cells RM_4_0_0_59.slots) := by
  refine MetFree.of_bodySF (plainFor_of_name pn_5) hisR ?_
  intro p e s m args below meth c s₁ Bd hml0 hP hK
  obtain ⟨rfl, hZ, hh⟩ := hP
  have hx := Bd.exec
  have hby := Bd.bytes
  have hml : c.maxLocals = 2 := hml0
  have hown : s.vm.findClass "com/example/bindery/bindery/compiler/JavaType" = some m.cls := findClass_of_methodNamed Bd.named
  have X0 : Stand p l e RM_4_0_0_59 s m _ below meth c s₁ [] 0 0 := Stand.of_body Bd
  have e0 : s₁.heap = h0 := by rw [← hh, Bd.state]; rfl
  have N0 := Fr.nil n0
  refine Go.into (P := fun oo uu => ∃ v L, oo = .returned v ∧ Q10n4A Z o0 sn b0 fF cs sv h0 n0 v uu.heap L ∧ FrameEnd s oo uu L RM_4_0_0_59.cells RM_4_0_0_59.slots) (ef_10_a m o0) ?_
  show Go p e below _ (s₁.setTop (mkF m 0 #[sR o0, .unset] []))
  refine Vi (s₁.setTop (mkF m 1 #[sR o0, .unset] [(.ref o0)])) (fun tZ kZ => ?_) ?_
  · refine XS.aloadN X0.here hx rfl (hb hby d10_0) rfl rfl ?_
    exact kZ
  obtain ⟨T1, X1, e1, st1⟩ := getF X0 hx hZ hown (host := "") (Or.inl (wq hw 53 rfl)) Via.refl e0 ha1 (g := (mkF m 1 #[sR o0, .unset] [(.ref o0)])) rfl rfl (hb hby d10_1)
  refine Go.via st1 ?_
  refine Vi (T1.setTop (mkF m 6 #[sR o0, .unset] [(.int 46), (.ref sn)])) (fun tZ kZ => ?_) ?_
  · refine XS.bipush X1.here hx rfl (hb hby d10_4) ?_
    exact kZ
  obtain ⟨cq2, kq2, q2a, q2b, q2c⟩ := isOf hZ e1 ha2
  obtain ⟨_, _, ⟨T2, L2, k2, n2⟩, -, X2, ⟨Lc2, hQ2, l2, y2, z2⟩, st2⟩ := X1.virtualBack hx (y := y11) (z := y11) hown (wz hZ hw 62 rfl) (wz hZ hw 63 rfl) (notFace_of_selects (args := #[]) (wz hZ hw 65 rfl)) (wz hZ hw 65 rfl) (wz hZ hw 64 rfl) (by decide) (backOf (W := 0) (rm11n4 l Z a0 hw [] sn b0 fF cs h0 n0 Z0 ha2 ha3 ha4 ha5 ha6 hcs) hZ (wq hw 66 rfl) (wq hw 10 rfl) (by decide) (by decide)) q2a q2c (g := (mkF m 6 #[sR o0, .unset] [(.int 46), (.ref sn)])) rfl (by rw [hml]; rfl) (Steps.refl _) (argsL := [(.int 46)]) (rest := []) (lenOf pd_9 rfl) rfl (leW rfl) (hb hby d10_6) (fun _ _ => ⟨rfl, e1, (by decide : 0 + 0 ≤ _), (by decide : 0 + 0 ≤ _)⟩)
  dsimp only [Pt.U, Pt.locs, Pt.cells, Pt.slots] at X2 l2 y2 z2 st2 hQ2
  subst l2 y2 z2
  obtain ⟨rfl, N2q, e2⟩ := hQ2
  have N2 := Fr.app N0 N2q
  refine Go.via (fun t k => st2.trans k) ?_
  rw [hld]
  show Go p e below _ (T2.setTop (mkF m 9 #[sR o0, .unset] [(.int (-1))]))
  refine Vi (T2.setTop (mkF m 15 #[sR o0, sI (-1)] [(.ref o0)])) (fun tZ kZ => ?_) ?_
  · refine XS.istoreN X2.here hx rfl (hb hby d10_9) rfl (l' := #[sR o0, sI (-1)]) rfl ?_
    refine XS.iloadN X2.here hx rfl (hb hby d10_10) rfl ?_
    refine XS.ifNo X2.here hx rfl (hb hby d10_11) rfl ((if0 _ _).trans (tlt (by decide)).2.1) ?_
    refine XS.aloadN X2.here hx rfl (hb hby d10_14) rfl rfl ?_
    exact kZ
  obtain ⟨T3, X3, e3, st3⟩ := getF X2 hx hZ hown (host := "") (Or.inl (wq hw 53 rfl)) Via.refl e2 ha1 (g := (mkF m 15 #[sR o0, sI (-1)] [(.ref o0)])) rfl rfl (hb hby d10_15)
  refine Go.via st3 ?_
  refine Vi (T3.setTop (mkF m 30 #[sR o0, sI (-1)] [(.ref sn)])) (fun tZ kZ => ?_) ?_
  · refine XS.goto X3.here hx rfl (pc0 := 18) (pc' := 30) rfl (hb hby d10_18) (by decide) (by decide) ?_
    exact kZ
  refine Go.retR X3 hx Bd.notSynchronized Bd.returns rfl rfl (hb hby d10_30) (by decide) (by decide) ?_
  rw [e3]
  exact ⟨rfl, N2, rfl⟩
theorem d27_0 : decode B27 0 = .ok (.iload_n 2, 1) := by decide +kernel
theorem d27_1 : decode B27 1 = .ok (.ifCond .ne 6, 3) := by decide +kernel
theorem d27_4 : decode B27 4 = .ok (.ldc 151, 2) := by decide +kernel
theorem d27_6 : decode B27 6 = .ok (.areturn, 1) := by decide +kernel
def Q27B (Z : State) (o0 : Addr) (nN : Nat) (fF : Nat → Int32) (lN : Nat) (hN : Nat) (h0 : Heap) (n0 : Nat) (v : Option Value) (h : Heap) (L : List Loc) : Prop := ∃ as1 : Addr, ∃ ab1 : Addr, v = some (.ref as1) ∧ Fr n0 L ∧ Keep h0 h [] ∧ AV Z h o0 .byte nN (fun k => .int (fF k)) ∧ Exa Z h as1 "java/lang/String" ∧ Fld Z h as1 "java/lang/String" "coder" "B" (.int 0) ∧ Fld Z h as1 "java/lang/String" "value" "[B" (.ref ab1) ∧ AV Z h ab1 .byte 0 (fun k => .int ((own_t []) k))
abbrev RM_0_2_68_0 : Room := { frames := 0, cells := 2, slots := 68, locals := 0 }
theorem ef_27_aaa (m : MethodId) (x0 : Addr) (x1 : Int32) (x2 : Int32) : entryFrame m #[(.ref x0), (.int x1), (.int x2)] 3 = mkF m 0 #[.val (.ref x0), .val (.int x1), .val (.int x2)] [] := by first | (simp [entryFrame, mkF, argsToLocals, Value.category]; done) | rfl
theorem rm27B (l : Launch) (Z : State) (a0 : Array Value) (hw : HW a0 Z) (ws : List Jvm.Cond) (o0 : Addr) (nN : Nat) (fF : Nat → Int32) (lN : Nat) (hN : Nat) (h0 : Heap) (n0 : Nat) (Z0 : n0 ≤ h0.size) (ha0 : AV Z h0 o0 .byte nN (fun k => .int (fF k))) (hk0 : ((Int32.ofNat hN) - (Int32.ofNat lN)) = (0 : Int32)) :
    MetFree l y27 (head1 (Jvm.Cond.code y27 jdk_43_method_47_code 3 (some (.object "java/lang/String")) :: ws) RM_0_2_68_0) (fun a U => a = #[(.ref o0), (.int (Int32.ofNat lN)), (.int ((Int32.ofNat hN) - (Int32.ofNat lN)))] ∧ Z.Warmed39 U.vm ∧ U.heap = h0 ∧ CHv Z own_EL U.vm h0) (fun _ _ _ _ _ => True) (fun _ U o U' => ∃ v L, o = .returned v ∧ Q27B Z o0 nN fF lN hN h0 n0 v U'.heap L ∧ CHr Z own_EL U.vm U.heap U'.vm U'.heap ∧ ReturnedEndW U o U' L RM_0_2_68_0.cells RM_0_2_68_0.slots) := by
  refine MetFree.of_bodySF (plainFor_of_name pn_1) hisR ?_
  intro p e s m args below meth c s₁ Bd hml0 hP hK
  obtain ⟨rfl, hZ, hh, hCH⟩ := hP
  have hx := Bd.exec
  have hby := Bd.bytes
  have hml : c.maxLocals = 3 := hml0
  have hown : s.vm.findClass "java/lang/StringLatin1" = some m.cls := findClass_of_methodNamed Bd.named
  have X0 : Stand p l e RM_0_2_68_0 s m _ below meth c s₁ [] 0 0 := Stand.of_body Bd
  have e0 : s₁.heap = h0 := by rw [← hh, Bd.state]; rfl
  have N0 := Fr.nil n0
  refine Go.into (P := fun oo uu => ∃ v L, oo = .returned v ∧ Q27B Z o0 nN fF lN hN h0 n0 v uu.heap L ∧ CHr Z own_EL s.vm s.heap uu.vm uu.heap ∧ ReturnedEndW s oo uu L RM_0_2_68_0.cells RM_0_2_68_0.slots) (ef_27_aaa m o0 (Int32.ofNat lN) ((Int32.ofNat hN) - (Int32.ofNat lN))) ?_
  show Go p e below _ (s₁.setTop (mkF m 0 #[sR o0, sI (Int32.ofNat lN), sI ((Int32.ofNat hN) - (Int32.ofNat lN))] []))
  have hS0 : s.Since s.vm 0 := (State.WarmedH.refl s).since 0
  have wS : ∀ a ∈ Bundle.stringAtoms, a.before a0 Z = true := by
    intro d hd
    simp only [Bundle.stringAtoms, List.mem_cons, List.not_mem_nil, or_false] at hd
    rcases hd with rfl | rfl | rfl | rfl | rfl | rfl | rfl
    · exact (wq hw 10 rfl)
    · exact (wq hw 9 rfl)
    · exact (wq hw 23 rfl)
    · exact (wq hw 24 rfl)
    · exact (wq hw 25 rfl)
    · exact (wq hw 26 rfl)
    · exact (wq hw 27 rfl)
  refine Vi (s₁.setTop (mkF m 4 #[sR o0, sI (Int32.ofNat lN), sI ((Int32.ofNat hN) - (Int32.ofNat lN))] [])) (fun tZ kZ => ?_) ?_
  · refine XS.iloadN X0.here hx rfl (hb hby d27_0) rfl ?_
    refine XS.ifNo X0.here hx rfl (hb hby d27_1) rfl ((if0 _ _).trans (teq hk0).2) ?_
    exact kZ
  obtain ⟨as1, T1, h1, kk1, ab1, kc1, X1, e1, E1, hS1, hk1, hZ, hown, Ea1, Fc1, Fv1, Ar1, -, -, A1, -, nS1, st1⟩ := ldcCH (s := s) (vm0 := s.vm) (EL := own_EL) X0 hx hZ hown (wq hw 166 rfl) wS e0 hS0 (Nat.zero_le _) (own_EW hw) (by simp [own_EL]) hCH (vs := ([] : List Int32).map Value.int) (z := 0) ⟨by decide, by decide +kernel⟩ (by decide) rfl (g := (mkF m 4 #[sR o0, sI (Int32.ofNat lN), sI ((Int32.ofNat hN) - (Int32.ofNat lN))] [])) rfl (hb hby d27_4) (n := 64) (by decide) (by decide) (by decide) (by decide)
  have CR2c := CHr.trans (CHr.refl hCH) A1
  have c3_0 := ha0.ext E1
  have Va1 := AV.ofArv Ar1 (n := 0) rfl (by decide)
  have K1 : Keep h0 h1 [] := (Keep.refl h0 []).ext E1
  have Z1 := Nat.le_trans Z0 E1.1
  refine Go.via st1 ?_
  refine Go.finW (h := h1) (h0 := h0) (s := s) (vm₁ := T1.vm) X1 hS1 e1 hk1 Bd.notSynchronized (v := some (.ref as1)) (fun h => by rw [Bd.returns] at h; cases h) (fun fs hr => retOut X1 hx Bd.returns rfl (Or.inr (Or.inr (Or.inr (Or.inr ⟨rfl, rfl, rfl⟩)))) (hb hby d27_6) hr) (by decide) (by decide) hh hZ (own_EW hw) CR2c ?_
  exact ⟨as1, ab1, rfl, N0, K1, c3_0, Ea1, Fc1, Fv1, Va1⟩
theorem d24_0 : decode B24 0 = .ok (.aload_n 0, 1) := by decide +kernel
theorem d24_1 : decode B24 1 = .ok (.invokevirtual 505, 3) := by decide +kernel
theorem d24_4 : decode B24 4 = .ok (.istore_n 3, 1) := by decide +kernel
theorem d24_5 : decode B24 5 = .ok (.iload_n 1, 1) := by decide +kernel
theorem d24_6 : decode B24 6 = .ok (.iload_n 2, 1) := by decide +kernel
theorem d24_7 : decode B24 7 = .ok (.iload_n 3, 1) := by decide +kernel
theorem pd_20 : parseMethodDescriptor "(III)V" = some ⟨[.int, .int, .int], none⟩ := by decide +kernel
theorem d24_8 : decode B24 8 = .ok (.invokestatic 521, 3) := by decide +kernel
theorem d24_11 : decode B24 11 = .ok (.iload_n 1, 1) := by decide +kernel
theorem d24_12 : decode B24 12 = .ok (.ifCond .ne 10, 3) := by decide +kernel
theorem d24_15 : decode B24 15 = .ok (.iload_n 2, 1) := by decide +kernel
theorem d24_16 : decode B24 16 = .ok (.iload_n 3, 1) := by decide +kernel
theorem d24_17 : decode B24 17 = .ok (.if_icmp .ne 5, 3) := by decide +kernel
theorem d24_22 : decode B24 22 = .ok (.iload_n 2, 1) := by decide +kernel
theorem d24_23 : decode B24 23 = .ok (.iload_n 1, 1) := by decide +kernel
theorem d24_24 : decode B24 24 = .ok (.isub, 1) := by decide +kernel
theorem d24_25 : decode B24 25 = .ok (.istore 4, 2) := by decide +kernel
theorem d24_27 : decode B24 27 = .ok (.aload_n 0, 1) := by decide +kernel
theorem d24_28 : decode B24 28 = .ok (.invokevirtual 492, 3) := by decide +kernel
theorem d24_31 : decode B24 31 = .ok (.ifCond .eq 16, 3) := by decide +kernel
theorem d24_34 : decode B24 34 = .ok (.aload_n 0, 1) := by decide +kernel
theorem d24_35 : decode B24 35 = .ok (.getfield 9, 3) := by decide +kernel
theorem d24_38 : decode B24 38 = .ok (.iload_n 1, 1) := by decide +kernel
theorem d24_39 : decode B24 39 = .ok (.iload 4, 2) := by decide +kernel
theorem pd_22 : parseMethodDescriptor "([BII)Ljava/lang/String;" = some ⟨[(.array .byte), .int, .int], some (.object "java/lang/String")⟩ := by decide +kernel
theorem d24_41 : decode B24 41 = .ok (.invokestatic 685, 3) := by decide +kernel
theorem d24_44 : decode B24 44 = .ok (.goto 13, 3) := by decide +kernel
theorem d24_57 : decode B24 57 = .ok (.areturn, 1) := by decide +kernel
def Q24B (Z : State) (o0 : Addr) (b0 : Addr) (nN : Nat) (fF : Nat → Int32) (cs : Int32) (sv : Value) (lN : Nat) (hN : Nat) (h0 : Heap) (n0 : Nat) (v : Option Value) (h : Heap) (L : List Loc) : Prop := ∃ b5_0 : Addr, ∃ b5_1 : Addr, v = some (.ref b5_0) ∧ Fr n0 L ∧ Keep h0 h [] ∧ Exa Z h o0 "java/lang/String" ∧ Fld Z h o0 "java/lang/String" "coder" "B" (.int 0) ∧ Fld Z h o0 "java/lang/String" "value" "[B" (.ref b0) ∧ AV Z h b0 .byte nN (fun k => .int (fF k)) ∧ Sta Z h "java/lang/String" "COMPACT_STRINGS" "Z" (.int cs) ∧ Sta Z h "jdk/internal/util/Preconditions" "SIOOBE_FORMATTER" "Ljava/util/function/BiFunction;" sv ∧ Exa Z h b5_0 "java/lang/String" ∧ Fld Z h b5_0 "java/lang/String" "coder" "B" (.int 0) ∧ Fld Z h b5_0 "java/lang/String" "value" "[B" (.ref b5_1) ∧ AV Z h b5_1 .byte 0 (fun k => .int ((own_t []) k))
abbrev RM_2_2_68_29 : Room := { frames := 2, cells := 2, slots := 68, locals := 29 }
theorem ef_24_aaa (m : MethodId) (x0 : Addr) (x1 : Int32) (x2 : Int32) : entryFrame m #[(.ref x0), (.int x1), (.int x2)] 5 = mkF m 0 #[.val (.ref x0), .val (.int x1), .val (.int x2), .unset, .unset] [] := by first | (simp [entryFrame, mkF, argsToLocals, Value.category]; done) | rfl
theorem rm24B (l : Launch) (Z : State) (a0 : Array Value) (hw : HW a0 Z) (ws : List Jvm.Cond) (o0 : Addr) (b0 : Addr) (nN : Nat) (fF : Nat → Int32) (cs : Int32) (sv : Value) (lN : Nat) (hN : Nat) (h0 : Heap) (n0 : Nat) (Z0 : n0 ≤ h0.size) (ha0 : Exa Z h0 o0 "java/lang/String") (ha1 : Fld Z h0 o0 "java/lang/String" "coder" "B" (.int 0)) (ha2 : Fld Z h0 o0 "java/lang/String" "value" "[B" (.ref b0)) (ha3 : AV Z h0 b0 .byte nN (fun k => .int (fF k))) (ha4 : Sta Z h0 "java/lang/String" "COMPACT_STRINGS" "Z" (.int cs)) (ha5 : Sta Z h0 "jdk/internal/util/Preconditions" "SIOOBE_FORMATTER" "Ljava/util/function/BiFunction;" sv) (hcs : ¬ cs = 0) (hsv : sv.isRef = true) (hq0 : ¬ (Int32.ofNat lN) < 0) (hq1 : ¬ (Int32.ofNat hN) < (Int32.ofNat lN)) (hq2 : ¬ (Int32.ofNat nN) < (Int32.ofNat hN)) (hlo0 : (Int32.ofNat lN) = (0 : Int32)) (hne : ¬ (Int32.ofNat hN) = (Int32.ofNat nN)) (hk0 : ((Int32.ofNat hN) - (Int32.ofNat lN)) = (0 : Int32)) :
    MetFree l y24 (head1 (Jvm.Cond.code y24 jdk_42_method_92_code 5 (some (.object "java/lang/String")) :: ws) RM_2_2_68_29) (fun a U => a = #[(.ref o0), (.int (Int32.ofNat lN)), (.int (Int32.ofNat hN))] ∧ Z.Warmed39 U.vm ∧ U.heap = h0 ∧ CHv Z own_EL U.vm h0) (fun _ _ _ _ _ => True) (fun _ U o U' => ∃ v L, o = .returned v ∧ Q24B Z o0 b0 nN fF cs sv lN hN h0 n0 v U'.heap L ∧ CHr Z own_EL U.vm U.heap U'.vm U'.heap ∧ ReturnedEndW U o U' L RM_2_2_68_29.cells RM_2_2_68_29.slots) := by
  refine MetFree.of_bodySF (plainFor_of_name pn_0) hisR ?_
  intro p e s m args below meth c s₁ Bd hml0 hP hK
  obtain ⟨rfl, hZ, hh, hCH⟩ := hP
  have hx := Bd.exec
  have hby := Bd.bytes
  have hml : c.maxLocals = 5 := hml0
  have hown : s.vm.findClass "java/lang/String" = some m.cls := findClass_of_methodNamed Bd.named
  have X0 : Stand p l e RM_2_2_68_29 s m _ below meth c s₁ [] 0 0 := Stand.of_body Bd
  have e0 : s₁.heap = h0 := by rw [← hh, Bd.state]; rfl
  have N0 := Fr.nil n0
  refine Go.into (P := fun oo uu => ∃ v L, oo = .returned v ∧ Q24B Z o0 b0 nN fF cs sv lN hN h0 n0 v uu.heap L ∧ CHr Z own_EL s.vm s.heap uu.vm uu.heap ∧ ReturnedEndW s oo uu L RM_2_2_68_29.cells RM_2_2_68_29.slots) (ef_24_aaa m o0 (Int32.ofNat lN) (Int32.ofNat hN)) ?_
  show Go p e below _ (s₁.setTop (mkF m 0 #[sR o0, sI (Int32.ofNat lN), sI (Int32.ofNat hN), .unset, .unset] []))
  have hS0 : s.Since s.vm 0 := (State.WarmedH.refl s).since 0
  have wS : ∀ a ∈ Bundle.stringAtoms, a.before a0 Z = true := by
    intro d hd
    simp only [Bundle.stringAtoms, List.mem_cons, List.not_mem_nil, or_false] at hd
    rcases hd with rfl | rfl | rfl | rfl | rfl | rfl | rfl
    · exact (wq hw 10 rfl)
    · exact (wq hw 9 rfl)
    · exact (wq hw 23 rfl)
    · exact (wq hw 24 rfl)
    · exact (wq hw 25 rfl)
    · exact (wq hw 26 rfl)
    · exact (wq hw 27 rfl)
  refine Vi (s₁.setTop (mkF m 1 #[sR o0, sI (Int32.ofNat lN), sI (Int32.ofNat hN), .unset, .unset] [(.ref o0)])) (fun tZ kZ => ?_) ?_
  · refine XS.aloadN X0.here hx rfl (hb hby d24_0) rfl rfl ?_
    exact kZ
  obtain ⟨cq1, kq1, q1a, q1b, q1c⟩ := isOf hZ e0 ha0
  obtain ⟨_, _, ⟨T1, L1, k1, n1⟩, -, X1, ⟨Lc1, hQ1, l1, y1, z1⟩, st1⟩ := X0.virtualBack hx (y := y14) (z := y14) hown (wz hZ hw 78 rfl) (wz hZ hw 79 rfl) (notFace_of_selects (args := #[]) (wz hZ hw 81 rfl)) (wz hZ hw 81 rfl) (wz hZ hw 80 rfl) (by decide) (backOf (W := 0) (rm14 l Z a0 hw [] o0 b0 nN fF cs h0 n0 Z0 ha0 ha1 ha2 ha3 ha4 hcs) hZ (wq hw 82 rfl) (wq hw 10 rfl) (by decide) (by decide)) q1a q1c (g := (mkF m 1 #[sR o0, sI (Int32.ofNat lN), sI (Int32.ofNat hN), .unset, .unset] [(.ref o0)])) rfl (by rw [hml]; rfl) (Steps.refl _) (argsL := []) (rest := []) (lenOf pd_12 rfl) rfl (leW rfl) (hb hby d24_1) (fun _ _ => ⟨rfl, e0, (by decide : 0 + 0 ≤ _), (by decide : 0 + 0 ≤ _)⟩)
  dsimp only [Pt.U, Pt.locs, Pt.cells, Pt.slots] at X1 l1 y1 z1 st1 hQ1
  subst l1 y1 z1
  obtain ⟨rfl, N1q, e1⟩ := hQ1
  have hv1 : (f14 o0 b0 nN fF cs) = (Int32.ofNat nN) := by unfold f14; exact own_sh0 _
  rw [hv1] at st1
  have N1 := Fr.app N0 N1q
  refine Go.via (fun t k => st1.trans k) ?_
  refine Vi (T1.setTop (mkF m 8 #[sR o0, sI (Int32.ofNat lN), sI (Int32.ofNat hN), sI (Int32.ofNat nN), .unset] [(.int (Int32.ofNat nN)), (.int (Int32.ofNat hN)), (.int (Int32.ofNat lN))])) (fun tZ kZ => ?_) ?_
  · refine XS.istoreN X1.here hx rfl (hb hby d24_4) rfl (l' := #[sR o0, sI (Int32.ofNat lN), sI (Int32.ofNat hN), sI (Int32.ofNat nN), .unset]) rfl ?_
    refine XS.iloadN X1.here hx rfl (hb hby d24_5) rfl ?_
    refine XS.iloadN X1.here hx rfl (hb hby d24_6) rfl ?_
    refine XS.iloadN X1.here hx rfl (hb hby d24_7) rfl ?_
    exact kZ
  obtain ⟨_, _, ⟨T2, L2, k2, n2⟩, -, X2, ⟨Lc2, hQ2, l2, y2, z2⟩, st2⟩ := Jvm.LawKit.callS X1 hx (y := y25) hown (wz hZ hw 121 rfl) (wz hZ hw 122 rfl) (wz hZ hw 10 rfl) (wz hZ hw 123 rfl) (by decide) (backOf (W := 0) (rm25 l Z a0 hw [] (Int32.ofNat lN) (Int32.ofNat hN) (Int32.ofNat nN) sv h0 n0 Z0 ha5 hq0 hq1 hq2 hsv) hZ (wq hw 123 rfl) (wq hw 10 rfl) (by decide) (by decide)) (g := (mkF m 8 #[sR o0, sI (Int32.ofNat lN), sI (Int32.ofNat hN), sI (Int32.ofNat nN), .unset] [(.int (Int32.ofNat nN)), (.int (Int32.ofNat hN)), (.int (Int32.ofNat lN))])) rfl (by rw [hml]; rfl) (argsL := [(.int (Int32.ofNat lN)), (.int (Int32.ofNat hN)), (.int (Int32.ofNat nN))]) (rest := []) (lenOf pd_20 rfl) rfl (leW rfl) (hb hby d24_8) (fun _ _ => ⟨rfl, e1, (by decide : 0 + 0 + 0 ≤ _), (by decide : 0 + 0 + 0 ≤ _)⟩)
  dsimp only [Pt.U, Pt.locs, Pt.cells, Pt.slots] at X2 l2 y2 z2 st2 hQ2
  subst l2 y2 z2
  obtain ⟨rfl, N2q, e2⟩ := hQ2
  have N2 := Fr.app N1 N2q
  refine Go.via st2 ?_
  refine Vi (T2.setTop (mkF m 28 #[sR o0, sI (Int32.ofNat lN), sI (Int32.ofNat hN), sI (Int32.ofNat nN), sI ((Int32.ofNat hN) - (Int32.ofNat lN))] [(.ref o0)])) (fun tZ kZ => ?_) ?_
  · refine XS.iloadN X2.here hx rfl (hb hby d24_11) rfl ?_
    refine XS.ifNo X2.here hx rfl (hb hby d24_12) rfl ((if0 _ _).trans (teq hlo0).2) ?_
    refine XS.iloadN X2.here hx rfl (hb hby d24_15) rfl ?_
    refine XS.iloadN X2.here hx rfl (hb hby d24_16) rfl ?_
    refine XS.icmpYes X2.here hx rfl (pc0 := 17) (pc' := 22) rfl (hb hby d24_17) rfl (feq hne).2 (by decide) (by decide) ?_
    refine XS.iloadN X2.here hx rfl (hb hby d24_22) rfl ?_
    refine XS.iloadN X2.here hx rfl (hb hby d24_23) rfl ?_
    refine XS.isub X2.here hx rfl (hb hby d24_24) rfl ?_
    refine XS.istore X2.here hx rfl (hb hby d24_25) rfl (l' := #[sR o0, sI (Int32.ofNat lN), sI (Int32.ofNat hN), sI (Int32.ofNat nN), sI ((Int32.ofNat hN) - (Int32.ofNat lN))]) rfl ?_
    refine XS.aloadN X2.here hx rfl (hb hby d24_27) rfl rfl ?_
    exact kZ
  obtain ⟨cq3, kq3, q3a, q3b, q3c⟩ := isOf hZ e2 ha0
  obtain ⟨_, _, ⟨T3, L3, k3, n3⟩, -, X3, ⟨Lc3, hQ3, l3, y3, z3⟩, st3⟩ := X2.virtualBack hx (y := y13) (z := y13) hown (wz hZ hw 72 rfl) (wz hZ hw 73 rfl) (notFace_of_selects (args := #[]) (wz hZ hw 75 rfl)) (wz hZ hw 75 rfl) (wz hZ hw 74 rfl) (by decide) (backOf (W := 0) (rm13 l Z a0 hw [] o0 cs h0 n0 Z0 ha1 ha4 hcs) hZ (wq hw 76 rfl) (wq hw 10 rfl) (by decide) (by decide)) q3a q3c (g := (mkF m 28 #[sR o0, sI (Int32.ofNat lN), sI (Int32.ofNat hN), sI (Int32.ofNat nN), sI ((Int32.ofNat hN) - (Int32.ofNat lN))] [(.ref o0)])) rfl (by rw [hml]; rfl) (Steps.refl _) (argsL := []) (rest := []) (lenOf pd_11 rfl) rfl (leW rfl) (hb hby d24_28) (fun _ _ => ⟨rfl, e2, (by decide : 0 + 0 + 0 + 0 ≤ _), (by decide : 0 + 0 + 0 + 0 ≤ _)⟩)
  dsimp only [Pt.U, Pt.locs, Pt.cells, Pt.slots] at X3 l3 y3 z3 st3 hQ3
  subst l3 y3 z3
  obtain ⟨rfl, N3q, e3⟩ := hQ3
  have hv3 : (f13 o0 cs) = (1 : Int32) := by unfold f13; decide
  rw [hv3] at st3
  have N3 := Fr.app N2 N3q
  refine Go.via (fun t k => st3.trans k) ?_
  refine Vi (T3.setTop (mkF m 35 #[sR o0, sI (Int32.ofNat lN), sI (Int32.ofNat hN), sI (Int32.ofNat nN), sI ((Int32.ofNat hN) - (Int32.ofNat lN))] [(.ref o0)])) (fun tZ kZ => ?_) ?_
  · refine XS.ifNo X3.here hx rfl (hb hby d24_31) rfl ((if0 _ _).trans (feq (by decide)).1) ?_
    refine XS.aloadN X3.here hx rfl (hb hby d24_34) rfl rfl ?_
    exact kZ
  obtain ⟨T4, X4, e4, st4⟩ := getF X3 hx hZ hown (host := "") (Or.inl (wq hw 28 rfl)) Via.refl e3 ha2 (g := (mkF m 35 #[sR o0, sI (Int32.ofNat lN), sI (Int32.ofNat hN), sI (Int32.ofNat nN), sI ((Int32.ofNat hN) - (Int32.ofNat lN))] [(.ref o0)])) rfl rfl (hb hby d24_35)
  refine Go.via st4 ?_
  refine Vi (T4.setTop (mkF m 41 #[sR o0, sI (Int32.ofNat lN), sI (Int32.ofNat hN), sI (Int32.ofNat nN), sI ((Int32.ofNat hN) - (Int32.ofNat lN))] [(.int ((Int32.ofNat hN) - (Int32.ofNat lN))), (.int (Int32.ofNat lN)), (.ref b0)])) (fun tZ kZ => ?_) ?_
  · refine XS.iloadN X4.here hx rfl (hb hby d24_38) rfl ?_
    refine XS.iload X4.here hx rfl (hb hby d24_39) rfl ?_
    exact kZ
  obtain ⟨_, _, ⟨T5, L5, k5, n5⟩, -, X5, hS5, -, ⟨Lc5, hQ5, l5, y5, z5, A5⟩, st5⟩ := callSS (s := s.setVm s.vm) X4 hx (y := y27) hown (wz hZ hw 129 rfl) (wz hZ hw 130 rfl) (wz hZ hw 90 rfl) (wz hZ hw 131 rfl) (by decide) (backOfSH (s := s) (vm0 := s.vm) (W := 0) (rm27B l Z a0 hw [] b0 nN fF lN hN h0 n0 Z0 ha3 hk0) hZ (wq hw 131 rfl) (wq hw 90 rfl) (by decide) (by decide) (own_EW hw) hCH) (g := (mkF m 41 #[sR o0, sI (Int32.ofNat lN), sI (Int32.ofNat hN), sI (Int32.ofNat nN), sI ((Int32.ofNat hN) - (Int32.ofNat lN))] [(.int ((Int32.ofNat hN) - (Int32.ofNat lN))), (.int (Int32.ofNat lN)), (.ref b0)])) rfl (by rw [hml]; rfl) (argsL := [(.ref b0), (.int (Int32.ofNat lN)), (.int ((Int32.ofNat hN) - (Int32.ofNat lN)))]) (rest := []) (lenOf pd_22 rfl) rfl (leW rfl) (hb hby d24_41) (fun _ _ => ⟨rfl, e4, (by decide : 0 + 0 + 0 + 0 + 2 ≤ _), (by decide : 0 + 0 + 0 + 0 + 68 ≤ _)⟩)
  dsimp only [Pt.U, Pt.locs, Pt.cells, Pt.slots] at X5 hS5 l5 y5 z5 A5 st5 hQ5
  subst l5 y5 z5
  obtain ⟨b5_0, b5_1, rfl, N5q, Kq5, f5_0, f5_1, f5_2, f5_3, f5_4⟩ := hQ5
  have CR6c := CHr.trans (CHr.refl hCH) A5
  have c7_0 := ha0.keep Kq5
  have c7_1 := ha1.keep Kq5 nin0
  have c7_2 := ha2.keep Kq5 nin0
  have c7_4 := own_sk ha4 Kq5 (fun _ _ _ _ => nin0)
  have c7_5 := own_sk ha5 Kq5 (fun _ _ _ _ => nin0)
  have K5 : Keep h0 T5.heap [] := (Keep.refl h0 []).trans Kq5 all0
  have Z5 := Nat.le_trans Z0 Kq5.1
  have ne_b5_1_o0 := AV.neExa f5_4 c7_0 (wq hw 9 rfl)
  have ne_b5_1_b5_0 := AV.neExa f5_4 f5_1 (wq hw 9 rfl)
  have N5 := Fr.app N3 N5q
  have hS5c : s.Since T5.vm T5.heap.size := State.Since.trans hS0 hS5 (Nat.le_trans (Nat.zero_le _) Kq5.1)
  replace hZ : Z.Warmed39 (s.setVm T5.vm).vm := State.Warmed39.trans (t := s.setVm s.vm) hZ hS5.1
  replace hown : (s.setVm T5.vm).vm.findClass "java/lang/String" = some m.cls := by rw [show (s.setVm T5.vm).vm = T5.vm from rfl, hS5.1.alike.findClass]; exact hown
  refine Go.via (fun t k => st5.trans k) ?_
  refine Vi (T5.setTop (mkF m 57 #[sR o0, sI (Int32.ofNat lN), sI (Int32.ofNat hN), sI (Int32.ofNat nN), sI ((Int32.ofNat hN) - (Int32.ofNat lN))] [(.ref b5_0)])) (fun tZ kZ => ?_) ?_
  · refine XS.goto X5.here hx rfl (pc0 := 44) (pc' := 57) rfl (hb hby d24_44) (by decide) (by decide) ?_
    exact kZ
  refine Go.finW (h := T5.heap) (h0 := h0) (s := s) (vm₁ := T5.vm) X5 hS5c rfl (Nat.le_refl _) Bd.notSynchronized (v := some (.ref b5_0)) (fun h => by rw [Bd.returns] at h; cases h) (fun fs hr => retOut X5 hx Bd.returns rfl (Or.inr (Or.inr (Or.inr (Or.inr ⟨rfl, rfl, rfl⟩)))) (hb hby d24_57) hr) (by decide) (by decide) hh hZ (own_EW hw) CR6c ?_
  exact ⟨b5_0, b5_1, rfl, N5, K5, c7_0, c7_1, c7_2, f5_0, c7_4, c7_5, f5_1, f5_2, f5_3, f5_4⟩
theorem d10_21 : decode B10 21 = .ok (.aload_n 0, 1) := by decide +kernel
theorem d10_22 : decode B10 22 = .ok (.getfield 13, 3) := by decide +kernel
theorem d10_25 : decode B10 25 = .ok (.iconst 0, 1) := by decide +kernel
theorem d10_26 : decode B10 26 = .ok (.iload_n 1, 1) := by decide +kernel
theorem pd_19 : parseMethodDescriptor "(II)Ljava/lang/String;" = some ⟨[.int, .int], some (.object "java/lang/String")⟩ := by decide +kernel
theorem d10_27 : decode B10 27 = .ok (.invokevirtual 60, 3) := by decide +kernel
def Q10n1B (Z : State) (o0 : Addr) (sn : Addr) (b0 : Addr) (fF : Nat → Int32) (cs : Int32) (sv : Value) (hN : Nat) (h0 : Heap) (n0 : Nat) (v : Option Value) (h : Heap) (L : List Loc) : Prop := ∃ b4_0 : Addr, ∃ b4_1 : Addr, v = some (.ref b4_0) ∧ Fr n0 L ∧ Keep h0 h [] ∧ Exa Z h o0 "com/example/bindery/bindery/compiler/JavaType" ∧ Fld Z h o0 "com/example/bindery/bindery/compiler/JavaType" "name" "Ljava/lang/String;" (.ref sn) ∧ Exa Z h sn "java/lang/String" ∧ Fld Z h sn "java/lang/String" "coder" "B" (.int 0) ∧ Fld Z h sn "java/lang/String" "value" "[B" (.ref b0) ∧ AV Z h b0 .byte 1 (fun k => .int (fF k)) ∧ Sta Z h "java/lang/String" "COMPACT_STRINGS" "Z" (.int cs) ∧ Sta Z h "jdk/internal/util/Preconditions" "SIOOBE_FORMATTER" "Ljava/util/function/BiFunction;" sv ∧ Exa Z h b4_0 "java/lang/String" ∧ Fld Z h b4_0 "java/lang/String" "coder" "B" (.int 0) ∧ Fld Z h b4_0 "java/lang/String" "value" "[B" (.ref b4_1) ∧ AV Z h b4_1 .byte 0 (fun k => .int ((own_t []) k))
abbrev RM_4_2_68_59 : Room := { frames := 4, cells := 2, slots := 68, locals := 59 }
theorem rm10n1B (l : Launch) (Z : State) (a0 : Array Value) (hw : HW a0 Z) (ws : List Jvm.Cond) (o0 : Addr) (sn : Addr) (b0 : Addr) (fF : Nat → Int32) (cs : Int32) (sv : Value) (hN : Nat) (h0 : Heap) (n0 : Nat) (Z0 : n0 ≤ h0.size) (ha0 : Exa Z h0 o0 "com/example/bindery/bindery/compiler/JavaType") (ha1 : Fld Z h0 o0 "com/example/bindery/bindery/compiler/JavaType" "name" "Ljava/lang/String;" (.ref sn)) (ha2 : Exa Z h0 sn "java/lang/String") (ha3 : Fld Z h0 sn "java/lang/String" "coder" "B" (.int 0)) (ha4 : Fld Z h0 sn "java/lang/String" "value" "[B" (.ref b0)) (ha5 : AV Z h0 b0 .byte 1 (fun k => .int (fF k))) (ha6 : Sta Z h0 "java/lang/String" "COMPACT_STRINGS" "Z" (.int cs)) (ha7 : Sta Z h0 "jdk/internal/util/Preconditions" "SIOOBE_FORMATTER" "Ljava/util/function/BiFunction;" sv) (hcs : ¬ cs = 0) (hsv : sv.isRef = true) (hq0 : ¬ (0 : Int32) < 0) (hq1 : ¬ (Int32.ofNat hN) < (0 : Int32)) (hq2 : ¬ (1 : Int32) < (Int32.ofNat hN)) (hlo0 : (0 : Int32) = (0 : Int32)) (hne : ¬ (Int32.ofNat hN) = (1 : Int32)) (hk0 : ((Int32.ofNat hN) - (0 : Int32)) = (0 : Int32)) (hld : (f11n1 sn b0 fF cs) = (Int32.ofNat hN)) (hge : ¬ (Int32.ofNat hN) < (0 : Int32)) :
    MetFree l y10 (head1 (Jvm.Cond.code y10 prog_5_method_9_code 2 (some (.object "java/lang/String")) :: ws) RM_4_2_68_59) (fun a U => a = #[(.ref o0)] ∧ Z.Warmed39 U.vm ∧ U.heap = h0 ∧ CHv Z own_EL U.vm h0) (fun _ _ _ _ _ => True) (fun _ U o U' => ∃ v L, o = .returned v ∧ Q10n1B Z o0 sn b0 fF cs sv hN h0 n0 v U'.heap L ∧ CHr Z own_EL U.vm U.heap U'.vm U'.heap ∧ ReturnedEndW U o U' L RM_4_2_68_59.cells RM_4_2_68_59.slots) := by
  refine MetFree.of_bodySF (plainFor_of_name pn_5) hisR ?_
  intro p e s m args below meth c s₁ Bd hml0 hP hK
  obtain ⟨rfl, hZ, hh, hCH⟩ := hP
  have hx := Bd.exec
  have hby := Bd.bytes
  have hml : c.maxLocals = 2 := hml0
  have hown : s.vm.findClass "com/example/bindery/bindery/compiler/JavaType" = some m.cls := findClass_of_methodNamed Bd.named
  have X0 : Stand p l e RM_4_2_68_59 s m _ below meth c s₁ [] 0 0 := Stand.of_body Bd
  have e0 : s₁.heap = h0 := by rw [← hh, Bd.state]; rfl
  have N0 := Fr.nil n0
  refine Go.into (P := fun oo uu => ∃ v L, oo = .returned v ∧ Q10n1B Z o0 sn b0 fF cs sv hN h0 n0 v uu.heap L ∧ CHr Z own_EL s.vm s.heap uu.vm uu.heap ∧ ReturnedEndW s oo uu L RM_4_2_68_59.cells RM_4_2_68_59.slots) (ef_10_a m o0) ?_
  show Go p e below _ (s₁.setTop (mkF m 0 #[sR o0, .unset] []))
  have hS0 : s.Since s.vm 0 := (State.WarmedH.refl s).since 0
  have wS : ∀ a ∈ Bundle.stringAtoms, a.before a0 Z = true := by
    intro d hd
    simp only [Bundle.stringAtoms, List.mem_cons, List.not_mem_nil, or_false] at hd
    rcases hd with rfl | rfl | rfl | rfl | rfl | rfl | rfl
    · exact (wq hw 10 rfl)
    · exact (wq hw 9 rfl)
    · exact (wq hw 23 rfl)
    · exact (wq hw 24 rfl)
    · exact (wq hw 25 rfl)
    · exact (wq hw 26 rfl)
    · exact (wq hw 27 rfl)
  refine Vi (s₁.setTop (mkF m 1 #[sR o0, .unset] [(.ref o0)])) (fun tZ kZ => ?_) ?_
  · refine XS.aloadN X0.here hx rfl (hb hby d10_0) rfl rfl ?_
    exact kZ
  obtain ⟨T1, X1, e1, st1⟩ := getF X0 hx hZ hown (host := "") (Or.inl (wq hw 53 rfl)) Via.refl e0 ha1 (g := (mkF m 1 #[sR o0, .unset] [(.ref o0)])) rfl rfl (hb hby d10_1)
  refine Go.via st1 ?_
  refine Vi (T1.setTop (mkF m 6 #[sR o0, .unset] [(.int 46), (.ref sn)])) (fun tZ kZ => ?_) ?_
  · refine XS.bipush X1.here hx rfl (hb hby d10_4) ?_
    exact kZ
  obtain ⟨cq2, kq2, q2a, q2b, q2c⟩ := isOf hZ e1 ha2
  obtain ⟨_, _, ⟨T2, L2, k2, n2⟩, -, X2, ⟨Lc2, hQ2, l2, y2, z2⟩, st2⟩ := X1.virtualBack hx (y := y11) (z := y11) hown (wz hZ hw 62 rfl) (wz hZ hw 63 rfl) (notFace_of_selects (args := #[]) (wz hZ hw 65 rfl)) (wz hZ hw 65 rfl) (wz hZ hw 64 rfl) (by decide) (backOf (W := 0) (rm11n1 l Z a0 hw [] sn b0 fF cs h0 n0 Z0 ha2 ha3 ha4 ha5 ha6 hcs) hZ (wq hw 66 rfl) (wq hw 10 rfl) (by decide) (by decide)) q2a q2c (g := (mkF m 6 #[sR o0, .unset] [(.int 46), (.ref sn)])) rfl (by rw [hml]; rfl) (Steps.refl _) (argsL := [(.int 46)]) (rest := []) (lenOf pd_9 rfl) rfl (leW rfl) (hb hby d10_6) (fun _ _ => ⟨rfl, e1, (by decide : 0 + 0 ≤ _), (by decide : 0 + 0 ≤ _)⟩)
  dsimp only [Pt.U, Pt.locs, Pt.cells, Pt.slots] at X2 l2 y2 z2 st2 hQ2
  subst l2 y2 z2
  obtain ⟨rfl, N2q, e2⟩ := hQ2
  have N2 := Fr.app N0 N2q
  refine Go.via (fun t k => st2.trans k) ?_
  rw [hld]
  show Go p e below _ (T2.setTop (mkF m 9 #[sR o0, .unset] [(.int (Int32.ofNat hN))]))
  refine Vi (T2.setTop (mkF m 22 #[sR o0, sI (Int32.ofNat hN)] [(.ref o0)])) (fun tZ kZ => ?_) ?_
  · refine XS.istoreN X2.here hx rfl (hb hby d10_9) rfl (l' := #[sR o0, sI (Int32.ofNat hN)]) rfl ?_
    refine XS.iloadN X2.here hx rfl (hb hby d10_10) rfl ?_
    refine XS.ifYes X2.here hx rfl (pc0 := 11) (pc' := 21) rfl (hb hby d10_11) rfl ((if0 _ _).trans (flt hge).2.1) (by decide) (by decide) ?_
    refine XS.aloadN X2.here hx rfl (hb hby d10_21) rfl rfl ?_
    exact kZ
  obtain ⟨T3, X3, e3, st3⟩ := getF X2 hx hZ hown (host := "") (Or.inl (wq hw 53 rfl)) Via.refl e2 ha1 (g := (mkF m 22 #[sR o0, sI (Int32.ofNat hN)] [(.ref o0)])) rfl rfl (hb hby d10_22)
  refine Go.via st3 ?_
  refine Vi (T3.setTop (mkF m 27 #[sR o0, sI (Int32.ofNat hN)] [(.int (Int32.ofNat hN)), (.int 0), (.ref sn)])) (fun tZ kZ => ?_) ?_
  · refine XS.iconst X3.here hx rfl (hb hby d10_25) ?_
    refine XS.iloadN X3.here hx rfl (hb hby d10_26) rfl ?_
    exact kZ
  obtain ⟨cq4, kq4, q4a, q4b, q4c⟩ := isOf hZ e3 ha2
  obtain ⟨_, _, ⟨T4, L4, k4, n4⟩, -, X4, hS4, -, ⟨Lc4, hQ4, l4, y4, z4, A4⟩, st4⟩ := virtualBackS (s := s.setVm s.vm) X3 hx (y := y24) (z := y24) hown (wz hZ hw 116 rfl) (wz hZ hw 117 rfl) (notFace_of_selects (args := #[]) (wz hZ hw 119 rfl)) (wz hZ hw 119 rfl) (wz hZ hw 118 rfl) (by decide) (backOfSH (s := s) (vm0 := s.vm) (W := 0) (rm24B l Z a0 hw [] sn b0 1 fF cs sv 0 hN h0 n0 Z0 ha2 ha3 ha4 ha5 ha6 ha7 hcs hsv hq0 hq1 hq2 hlo0 hne hk0) hZ (wq hw 120 rfl) (wq hw 10 rfl) (by decide) (by decide) (own_EW hw) hCH) q4a q4c (g := (mkF m 27 #[sR o0, sI (Int32.ofNat hN)] [(.int (Int32.ofNat hN)), (.int 0), (.ref sn)])) rfl (by rw [hml]; rfl) (Steps.refl _) (argsL := [(.int 0), (.int (Int32.ofNat hN))]) (rest := []) (lenOf pd_19 rfl) rfl (leW rfl) (hb hby d10_27) (fun _ _ => ⟨rfl, e3, (by decide : 0 + 0 + 2 ≤ _), (by decide : 0 + 0 + 68 ≤ _)⟩)
  dsimp only [Pt.U, Pt.locs, Pt.cells, Pt.slots] at X4 hS4 l4 y4 z4 A4 st4 hQ4
  subst l4 y4 z4
  obtain ⟨b4_0, b4_1, rfl, N4q, Kq4, f4_0, f4_1, f4_2, f4_3, f4_4, f4_5, f4_6, f4_7, f4_8, f4_9⟩ := hQ4
  have CR5c := CHr.trans (CHr.refl hCH) A4
  have c6_0 := ha0.keep Kq4
  have c6_1 := ha1.keep Kq4 nin0
  have K4 : Keep h0 T4.heap [] := (Keep.refl h0 []).trans Kq4 all0
  have Z4 := Nat.le_trans Z0 Kq4.1
  have ne_b4_1_o0 := AV.neExa f4_9 c6_0 (wq hw 32 rfl)
  have ne_b4_1_sn := AV.neExa f4_9 f4_0 (wq hw 9 rfl)
  have ne_b4_1_b4_0 := AV.neExa f4_9 f4_6 (wq hw 9 rfl)
  have N4 := Fr.app N2 N4q
  have hS4c : s.Since T4.vm T4.heap.size := State.Since.trans hS0 hS4 (Nat.le_trans (Nat.zero_le _) Kq4.1)
  replace hZ : Z.Warmed39 (s.setVm T4.vm).vm := State.Warmed39.trans (t := s.setVm s.vm) hZ hS4.1
  replace hown : (s.setVm T4.vm).vm.findClass "com/example/bindery/bindery/compiler/JavaType" = some m.cls := by rw [show (s.setVm T4.vm).vm = T4.vm from rfl, hS4.1.alike.findClass]; exact hown
  refine Go.via (fun t k => st4.trans k) ?_
  refine Go.finW (h := T4.heap) (h0 := h0) (s := s) (vm₁ := T4.vm) X4 hS4c rfl (Nat.le_refl _) Bd.notSynchronized (v := some (.ref b4_0)) (fun h => by rw [Bd.returns] at h; cases h) (fun fs hr => retOut X4 hx Bd.returns rfl (Or.inr (Or.inr (Or.inr (Or.inr ⟨rfl, rfl, rfl⟩)))) (hb hby d10_30) hr) (by decide) (by decide) hh hZ (own_EW hw) CR5c ?_
  exact ⟨b4_0, b4_1, rfl, N4, K4, c6_0, c6_1, f4_0, f4_1, f4_2, f4_3, f4_4, f4_5, f4_6, f4_7, f4_8, f4_9⟩
def Q10n2B (Z : State) (o0 : Addr) (sn : Addr) (b0 : Addr) (fF : Nat → Int32) (cs : Int32) (sv : Value) (hN : Nat) (h0 : Heap) (n0 : Nat) (v : Option Value) (h : Heap) (L : List Loc) : Prop := ∃ b4_0 : Addr, ∃ b4_1 : Addr, v = some (.ref b4_0) ∧ Fr n0 L ∧ Keep h0 h [] ∧ Exa Z h o0 "com/example/bindery/bindery/compiler/JavaType" ∧ Fld Z h o0 "com/example/bindery/bindery/compiler/JavaType" "name" "Ljava/lang/String;" (.ref sn) ∧ Exa Z h sn "java/lang/String" ∧ Fld Z h sn "java/lang/String" "coder" "B" (.int 0) ∧ Fld Z h sn "java/lang/String" "value" "[B" (.ref b0) ∧ AV Z h b0 .byte 2 (fun k => .int (fF k)) ∧ Sta Z h "java/lang/String" "COMPACT_STRINGS" "Z" (.int cs) ∧ Sta Z h "jdk/internal/util/Preconditions" "SIOOBE_FORMATTER" "Ljava/util/function/BiFunction;" sv ∧ Exa Z h b4_0 "java/lang/String" ∧ Fld Z h b4_0 "java/lang/String" "coder" "B" (.int 0) ∧ Fld Z h b4_0 "java/lang/String" "value" "[B" (.ref b4_1) ∧ AV Z h b4_1 .byte 0 (fun k => .int ((own_t []) k))
theorem rm10n2B (l : Launch) (Z : State) (a0 : Array Value) (hw : HW a0 Z) (ws : List Jvm.Cond) (o0 : Addr) (sn : Addr) (b0 : Addr) (fF : Nat → Int32) (cs : Int32) (sv : Value) (hN : Nat) (h0 : Heap) (n0 : Nat) (Z0 : n0 ≤ h0.size) (ha0 : Exa Z h0 o0 "com/example/bindery/bindery/compiler/JavaType") (ha1 : Fld Z h0 o0 "com/example/bindery/bindery/compiler/JavaType" "name" "Ljava/lang/String;" (.ref sn)) (ha2 : Exa Z h0 sn "java/lang/String") (ha3 : Fld Z h0 sn "java/lang/String" "coder" "B" (.int 0)) (ha4 : Fld Z h0 sn "java/lang/String" "value" "[B" (.ref b0)) (ha5 : AV Z h0 b0 .byte 2 (fun k => .int (fF k))) (ha6 : Sta Z h0 "java/lang/String" "COMPACT_STRINGS" "Z" (.int cs)) (ha7 : Sta Z h0 "jdk/internal/util/Preconditions" "SIOOBE_FORMATTER" "Ljava/util/function/BiFunction;" sv) (hcs : ¬ cs = 0) (hsv : sv.isRef = true) (hq0 : ¬ (0 : Int32) < 0) (hq1 : ¬ (Int32.ofNat hN) < (0 : Int32)) (hq2 : ¬ (2 : Int32) < (Int32.ofNat hN)) (hlo0 : (0 : Int32) = (0 : Int32)) (hne : ¬ (Int32.ofNat hN) = (2 : Int32)) (hk0 : ((Int32.ofNat hN) - (0 : Int32)) = (0 : Int32)) (hld : (f11n2 sn b0 fF cs) = (Int32.ofNat hN)) (hge : ¬ (Int32.ofNat hN) < (0 : Int32)) :
    MetFree l y10 (head1 (Jvm.Cond.code y10 prog_5_method_9_code 2 (some (.object "java/lang/String")) :: ws) RM_4_2_68_59) (fun a U => a = #[(.ref o0)] ∧ Z.Warmed39 U.vm ∧ U.heap = h0 ∧ CHv Z own_EL U.vm h0) (fun _ _ _ _ _ => True) (fun _ U o U' => ∃ v L, o = .returned v ∧ Q10n2B Z o0 sn b0 fF cs sv hN h0 n0 v U'.heap L ∧ CHr Z own_EL U.vm U.heap U'.vm U'.heap ∧ ReturnedEndW U o U' L RM_4_2_68_59.cells RM_4_2_68_59.slots) := by
  refine MetFree.of_bodySF (plainFor_of_name pn_5) hisR ?_
  intro p e s m args below meth c s₁ Bd hml0 hP hK
  obtain ⟨rfl, hZ, hh, hCH⟩ := hP
  have hx := Bd.exec
  have hby := Bd.bytes
  have hml : c.maxLocals = 2 := hml0
  have hown : s.vm.findClass "com/example/bindery/bindery/compiler/JavaType" = some m.cls := findClass_of_methodNamed Bd.named
  have X0 : Stand p l e RM_4_2_68_59 s m _ below meth c s₁ [] 0 0 := Stand.of_body Bd
  have e0 : s₁.heap = h0 := by rw [← hh, Bd.state]; rfl
  have N0 := Fr.nil n0
  refine Go.into (P := fun oo uu => ∃ v L, oo = .returned v ∧ Q10n2B Z o0 sn b0 fF cs sv hN h0 n0 v uu.heap L ∧ CHr Z own_EL s.vm s.heap uu.vm uu.heap ∧ ReturnedEndW s oo uu L RM_4_2_68_59.cells RM_4_2_68_59.slots) (ef_10_a m o0) ?_
  show Go p e below _ (s₁.setTop (mkF m 0 #[sR o0, .unset] []))
  have hS0 : s.Since s.vm 0 := (State.WarmedH.refl s).since 0
  have wS : ∀ a ∈ Bundle.stringAtoms, a.before a0 Z = true := by
    intro d hd
    simp only [Bundle.stringAtoms, List.mem_cons, List.not_mem_nil, or_false] at hd
    rcases hd with rfl | rfl | rfl | rfl | rfl | rfl | rfl
    · exact (wq hw 10 rfl)
    · exact (wq hw 9 rfl)
    · exact (wq hw 23 rfl)
    · exact (wq hw 24 rfl)
    · exact (wq hw 25 rfl)
    · exact (wq hw 26 rfl)
    · exact (wq hw 27 rfl)
  refine Vi (s₁.setTop (mkF m 1 #[sR o0, .unset] [(.ref o0)])) (fun tZ kZ => ?_) ?_
  · refine XS.aloadN X0.here hx rfl (hb hby d10_0) rfl rfl ?_
    exact kZ
  obtain ⟨T1, X1, e1, st1⟩ := getF X0 hx hZ hown (host := "") (Or.inl (wq hw 53 rfl)) Via.refl e0 ha1 (g := (mkF m 1 #[sR o0, .unset] [(.ref o0)])) rfl rfl (hb hby d10_1)
  refine Go.via st1 ?_
  refine Vi (T1.setTop (mkF m 6 #[sR o0, .unset] [(.int 46), (.ref sn)])) (fun tZ kZ => ?_) ?_
  · refine XS.bipush X1.here hx rfl (hb hby d10_4) ?_
    exact kZ
  obtain ⟨cq2, kq2, q2a, q2b, q2c⟩ := isOf hZ e1 ha2
  obtain ⟨_, _, ⟨T2, L2, k2, n2⟩, -, X2, ⟨Lc2, hQ2, l2, y2, z2⟩, st2⟩ := X1.virtualBack hx (y := y11) (z := y11) hown (wz hZ hw 62 rfl) (wz hZ hw 63 rfl) (notFace_of_selects (args := #[]) (wz hZ hw 65 rfl)) (wz hZ hw 65 rfl) (wz hZ hw 64 rfl) (by decide) (backOf (W := 0) (rm11n2 l Z a0 hw [] sn b0 fF cs h0 n0 Z0 ha2 ha3 ha4 ha5 ha6 hcs) hZ (wq hw 66 rfl) (wq hw 10 rfl) (by decide) (by decide)) q2a q2c (g := (mkF m 6 #[sR o0, .unset] [(.int 46), (.ref sn)])) rfl (by rw [hml]; rfl) (Steps.refl _) (argsL := [(.int 46)]) (rest := []) (lenOf pd_9 rfl) rfl (leW rfl) (hb hby d10_6) (fun _ _ => ⟨rfl, e1, (by decide : 0 + 0 ≤ _), (by decide : 0 + 0 ≤ _)⟩)
  dsimp only [Pt.U, Pt.locs, Pt.cells, Pt.slots] at X2 l2 y2 z2 st2 hQ2
  subst l2 y2 z2
  obtain ⟨rfl, N2q, e2⟩ := hQ2
  have N2 := Fr.app N0 N2q
  refine Go.via (fun t k => st2.trans k) ?_
  rw [hld]
  show Go p e below _ (T2.setTop (mkF m 9 #[sR o0, .unset] [(.int (Int32.ofNat hN))]))
  refine Vi (T2.setTop (mkF m 22 #[sR o0, sI (Int32.ofNat hN)] [(.ref o0)])) (fun tZ kZ => ?_) ?_
  · refine XS.istoreN X2.here hx rfl (hb hby d10_9) rfl (l' := #[sR o0, sI (Int32.ofNat hN)]) rfl ?_
    refine XS.iloadN X2.here hx rfl (hb hby d10_10) rfl ?_
    refine XS.ifYes X2.here hx rfl (pc0 := 11) (pc' := 21) rfl (hb hby d10_11) rfl ((if0 _ _).trans (flt hge).2.1) (by decide) (by decide) ?_
    refine XS.aloadN X2.here hx rfl (hb hby d10_21) rfl rfl ?_
    exact kZ
  obtain ⟨T3, X3, e3, st3⟩ := getF X2 hx hZ hown (host := "") (Or.inl (wq hw 53 rfl)) Via.refl e2 ha1 (g := (mkF m 22 #[sR o0, sI (Int32.ofNat hN)] [(.ref o0)])) rfl rfl (hb hby d10_22)
  refine Go.via st3 ?_
  refine Vi (T3.setTop (mkF m 27 #[sR o0, sI (Int32.ofNat hN)] [(.int (Int32.ofNat hN)), (.int 0), (.ref sn)])) (fun tZ kZ => ?_) ?_
  · refine XS.iconst X3.here hx rfl (hb hby d10_25) ?_
    refine XS.iloadN X3.here hx rfl (hb hby d10_26) rfl ?_
    exact kZ
  obtain ⟨cq4, kq4, q4a, q4b, q4c⟩ := isOf hZ e3 ha2
  obtain ⟨_, _, ⟨T4, L4, k4, n4⟩, -, X4, hS4, -, ⟨Lc4, hQ4, l4, y4, z4, A4⟩, st4⟩ := virtualBackS (s := s.setVm s.vm) X3 hx (y := y24) (z := y24) hown (wz hZ hw 116 rfl) (wz hZ hw 117 rfl) (notFace_of_selects (args := #[]) (wz hZ hw 119 rfl)) (wz hZ hw 119 rfl) (wz hZ hw 118 rfl) (by decide) (backOfSH (s := s) (vm0 := s.vm) (W := 0) (rm24B l Z a0 hw [] sn b0 2 fF cs sv 0 hN h0 n0 Z0 ha2 ha3 ha4 ha5 ha6 ha7 hcs hsv hq0 hq1 hq2 hlo0 hne hk0) hZ (wq hw 120 rfl) (wq hw 10 rfl) (by decide) (by decide) (own_EW hw) hCH) q4a q4c (g := (mkF m 27 #[sR o0, sI (Int32.ofNat hN)] [(.int (Int32.ofNat hN)), (.int 0), (.ref sn)])) rfl (by rw [hml]; rfl) (Steps.refl _) (argsL := [(.int 0), (.int (Int32.ofNat hN))]) (rest := []) (lenOf pd_19 rfl) rfl (leW rfl) (hb hby d10_27) (fun _ _ => ⟨rfl, e3, (by decide : 0 + 0 + 2 ≤ _), (by decide : 0 + 0 + 68 ≤ _)⟩)
  dsimp only [Pt.U, Pt.locs, Pt.cells, Pt.slots] at X4 hS4 l4 y4 z4 A4 st4 hQ4
  subst l4 y4 z4
  obtain ⟨b4_0, b4_1, rfl, N4q, Kq4, f4_0, f4_1, f4_2, f4_3, f4_4, f4_5, f4_6, f4_7, f4_8, f4_9⟩ := hQ4
  have CR5c := CHr.trans (CHr.refl hCH) A4
  have c6_0 := ha0.keep Kq4
  have c6_1 := ha1.keep Kq4 nin0
  have K4 : Keep h0 T4.heap [] := (Keep.refl h0 []).trans Kq4 all0
  have Z4 := Nat.le_trans Z0 Kq4.1
  have ne_b4_1_o0 := AV.neExa f4_9 c6_0 (wq hw 32 rfl)
  have ne_b4_1_sn := AV.neExa f4_9 f4_0 (wq hw 9 rfl)
  have ne_b4_1_b4_0 := AV.neExa f4_9 f4_6 (wq hw 9 rfl)
  have N4 := Fr.app N2 N4q
  have hS4c : s.Since T4.vm T4.heap.size := State.Since.trans hS0 hS4 (Nat.le_trans (Nat.zero_le _) Kq4.1)
  replace hZ : Z.Warmed39 (s.setVm T4.vm).vm := State.Warmed39.trans (t := s.setVm s.vm) hZ hS4.1
  replace hown : (s.setVm T4.vm).vm.findClass "com/example/bindery/bindery/compiler/JavaType" = some m.cls := by rw [show (s.setVm T4.vm).vm = T4.vm from rfl, hS4.1.alike.findClass]; exact hown
  refine Go.via (fun t k => st4.trans k) ?_
  refine Go.finW (h := T4.heap) (h0 := h0) (s := s) (vm₁ := T4.vm) X4 hS4c rfl (Nat.le_refl _) Bd.notSynchronized (v := some (.ref b4_0)) (fun h => by rw [Bd.returns] at h; cases h) (fun fs hr => retOut X4 hx Bd.returns rfl (Or.inr (Or.inr (Or.inr (Or.inr ⟨rfl, rfl, rfl⟩)))) (hb hby d10_30) hr) (by decide) (by decide) hh hZ (own_EW hw) CR5c ?_
  exact ⟨b4_0, b4_1, rfl, N4, K4, c6_0, c6_1, f4_0, f4_1, f4_2, f4_3, f4_4, f4_5, f4_6, f4_7, f4_8, f4_9⟩
def Q10n3B (Z : State) (o0 : Addr) (sn : Addr) (b0 : Addr) (fF : Nat → Int32) (cs : Int32) (sv : Value) (hN : Nat) (h0 : Heap) (n0 : Nat) (v : Option Value) (h : Heap) (L : List Loc) : Prop := ∃ b4_0 : Addr, ∃ b4_1 : Addr, v = some (.ref b4_0) ∧ Fr n0 L ∧ Keep h0 h [] ∧ Exa Z h o0 "com/example/bindery/bindery/compiler/JavaType" ∧ Fld Z h o0 "com/example/bindery/bindery/compiler/JavaType" "name" "Ljava/lang/String;" (.ref sn) ∧ Exa Z h sn "java/lang/String" ∧ Fld Z h sn "java/lang/String" "coder" "B" (.int 0) ∧ Fld Z h sn "java/lang/String" "value" "[B" (.ref b0) ∧ AV Z h b0 .byte 3 (fun k => .int (fF k)) ∧ Sta Z h "java/lang/String" "COMPACT_STRINGS" "Z" (.int cs) ∧ Sta Z h "jdk/internal/util/Preconditions" "SIOOBE_FORMATTER" "Ljava/util/function/BiFunction;" sv ∧ Exa Z h b4_0 "java/lang/String" ∧ Fld Z h b4_0 "java/lang/String" "coder" "B" (.int 0) ∧ Fld Z h b4_0 "java/lang/String" "value" "[B" (.ref b4_1) ∧ AV Z h b4_1 .byte 0 (fun k => .int ((own_t []) k))
theorem rm10n3B (l : Launch) (Z : State) (a0 : Array Value) (hw : HW a0 Z) (ws : List Jvm.Cond) (o0 : Addr) (sn : Addr) (b0 : Addr) (fF : Nat → Int32) (cs : Int32) (sv : Value) (hN : Nat) (h0 : Heap) (n0 : Nat) (Z0 : n0 ≤ h0.size) (ha0 : Exa Z h0 o0 "com/example/bindery/bindery/compiler/JavaType") (ha1 : Fld Z h0 o0 "com/example/bindery/bindery/compiler/JavaType" "name" "Ljava/lang/String;" (.ref sn)) (ha2 : Exa Z h0 sn "java/lang/String") (ha3 : Fld Z h0 sn "java/lang/String" "coder" "B" (.int 0)) (ha4 : Fld Z h0 sn "java/lang/String" "value" "[B" (.ref b0)) (ha5 : AV Z h0 b0 .byte 3 (fun k => .int (fF k))) (ha6 : Sta Z h0 "java/lang/String" "COMPACT_STRINGS" "Z" (.int cs)) (ha7 : Sta Z h0 "jdk/internal/util/Preconditions" "SIOOBE_FORMATTER" "Ljava/util/function/BiFunction;" sv) (hcs : ¬ cs = 0) (hsv : sv.isRef = true) (hq0 : ¬ (0 : Int32) < 0) (hq1 : ¬ (Int32.ofNat hN) < (0 : Int32)) (hq2 : ¬ (3 : Int32) < (Int32.ofNat hN)) (hlo0 : (0 : Int32) = (0 : Int32)) (hne : ¬ (Int32.ofNat hN) = (3 : Int32)) (hk0 : ((Int32.ofNat hN) - (0 : Int32)) = (0 : Int32)) (hld : (f11n3 sn b0 fF cs) = (Int32.ofNat hN)) (hge : ¬ (Int32.ofNat hN) < (0 : Int32)) :
    MetFree l y10 (head1 (Jvm.Cond.code y10 prog_5_method_9_code 2 (some (.object "java/lang/String")) :: ws) RM_4_2_68_59) (fun a U => a = #[(.ref o0)] ∧ Z.Warmed39 U.vm ∧ U.heap = h0 ∧ CHv Z own_EL U.vm h0) (fun _ _ _ _ _ => True) (fun _ U o U' => ∃ v L, o = .returned v ∧ Q10n3B Z o0 sn b0 fF cs sv hN h0 n0 v U'.heap L ∧ CHr Z own_EL U.vm U.heap U'.vm U'.heap ∧ ReturnedEndW U o U' L RM_4_2_68_59.cells RM_4_2_68_59.slots) := by
  refine MetFree.of_bodySF (plainFor_of_name pn_5) hisR ?_
  intro p e s m args below meth c s₁ Bd hml0 hP hK
  obtain ⟨rfl, hZ, hh, hCH⟩ := hP
  have hx := Bd.exec
  have hby := Bd.bytes
  have hml : c.maxLocals = 2 := hml0
  have hown : s.vm.findClass "com/example/bindery/bindery/compiler/JavaType" = some m.cls := findClass_of_methodNamed Bd.named
  have X0 : Stand p l e RM_4_2_68_59 s m _ below meth c s₁ [] 0 0 := Stand.of_body Bd
  have e0 : s₁.heap = h0 := by rw [← hh, Bd.state]; rfl
  have N0 := Fr.nil n0
  refine Go.into (P := fun oo uu => ∃ v L, oo = .returned v ∧ Q10n3B Z o0 sn b0 fF cs sv hN h0 n0 v uu.heap L ∧ CHr Z own_EL s.vm s.heap uu.vm uu.heap ∧ ReturnedEndW s oo uu L RM_4_2_68_59.cells RM_4_2_68_59.slots) (ef_10_a m o0) ?_
  show Go p e below _ (s₁.setTop (mkF m 0 #[sR o0, .unset] []))
  have hS0 : s.Since s.vm 0 := (State.WarmedH.refl s).since 0
  have wS : ∀ a ∈ Bundle.stringAtoms, a.before a0 Z = true := by
    intro d hd
    simp only [Bundle.stringAtoms, List.mem_cons, List.not_mem_nil, or_false] at hd
    rcases hd with rfl | rfl | rfl | rfl | rfl | rfl | rfl
    · exact (wq hw 10 rfl)
    · exact (wq hw 9 rfl)
    · exact (wq hw 23 rfl)
    · exact (wq hw 24 rfl)
    · exact (wq hw 25 rfl)
    · exact (wq hw 26 rfl)
    · exact (wq hw 27 rfl)
  refine Vi (s₁.setTop (mkF m 1 #[sR o0, .unset] [(.ref o0)])) (fun tZ kZ => ?_) ?_
  · refine XS.aloadN X0.here hx rfl (hb hby d10_0) rfl rfl ?_
    exact kZ
  obtain ⟨T1, X1, e1, st1⟩ := getF X0 hx hZ hown (host := "") (Or.inl (wq hw 53 rfl)) Via.refl e0 ha1 (g := (mkF m 1 #[sR o0, .unset] [(.ref o0)])) rfl rfl (hb hby d10_1)
  refine Go.via st1 ?_
  refine Vi (T1.setTop (mkF m 6 #[sR o0, .unset] [(.int 46), (.ref sn)])) (fun tZ kZ => ?_) ?_
  · refine XS.bipush X1.here hx rfl (hb hby d10_4) ?_
    exact kZ
  obtain ⟨cq2, kq2, q2a, q2b, q2c⟩ := isOf hZ e1 ha2
  obtain ⟨_, _, ⟨T2, L2, k2, n2⟩, -, X2, ⟨Lc2, hQ2, l2, y2, z2⟩, st2⟩ := X1.virtualBack hx (y := y11) (z := y11) hown (wz hZ hw 62 rfl) (wz hZ hw 63 rfl) (notFace_of_selects (args := #[]) (wz hZ hw 65 rfl)) (wz hZ hw 65 rfl) (wz hZ hw 64 rfl) (by decide) (backOf (W := 0) (rm11n3 l Z a0 hw [] sn b0 fF cs h0 n0 Z0 ha2 ha3 ha4 ha5 ha6 hcs) hZ (wq hw 66 rfl) (wq hw 10 rfl) (by decide) (by decide)) q2a q2c (g := (mkF m 6 #[sR o0, .unset] [(.int 46), (.ref sn)])) rfl (by rw [hml]; rfl) (Steps.refl _) (argsL := [(.int 46)]) (rest := []) (lenOf pd_9 rfl) rfl (leW rfl) (hb hby d10_6) (fun _ _ => ⟨rfl, e1, (by decide : 0 + 0 ≤ _), (by decide : 0 + 0 ≤ _)⟩)
  dsimp only [Pt.U, Pt.locs, Pt.cells, Pt.slots] at X2 l2 y2 z2 st2 hQ2
  subst l2 y2 z2
  obtain ⟨rfl, N2q, e2⟩ := hQ2
  have N2 := Fr.app N0 N2q
  refine Go.via (fun t k => st2.trans k) ?_
  rw [hld]
  show Go p e below _ (T2.setTop (mkF m 9 #[sR o0, .unset] [(.int (Int32.ofNat hN))]))
  refine Vi (T2.setTop (mkF m 22 #[sR o0, sI (Int32.ofNat hN)] [(.ref o0)])) (fun tZ kZ => ?_) ?_
  · refine XS.istoreN X2.here hx rfl (hb hby d10_9) rfl (l' := #[sR o0, sI (Int32.ofNat hN)]) rfl ?_
    refine XS.iloadN X2.here hx rfl (hb hby d10_10) rfl ?_
    refine XS.ifYes X2.here hx rfl (pc0 := 11) (pc' := 21) rfl (hb hby d10_11) rfl ((if0 _ _).trans (flt hge).2.1) (by decide) (by decide) ?_
    refine XS.aloadN X2.here hx rfl (hb hby d10_21) rfl rfl ?_
    exact kZ
  obtain ⟨T3, X3, e3, st3⟩ := getF X2 hx hZ hown (host := "") (Or.inl (wq hw 53 rfl)) Via.refl e2 ha1 (g := (mkF m 22 #[sR o0, sI (Int32.ofNat hN)] [(.ref o0)])) rfl rfl (hb hby d10_22)
  refine Go.via st3 ?_
  refine Vi (T3.setTop (mkF m 27 #[sR o0, sI (Int32.ofNat hN)] [(.int (Int32.ofNat hN)), (.int 0), (.ref sn)])) (fun tZ kZ => ?_) ?_
  · refine XS.iconst X3.here hx rfl (hb hby d10_25) ?_
    refine XS.iloadN X3.here hx rfl (hb hby d10_26) rfl ?_
    exact kZ
  obtain ⟨cq4, kq4, q4a, q4b, q4c⟩ := isOf hZ e3 ha2
  obtain ⟨_, _, ⟨T4, L4, k4, n4⟩, -, X4, hS4, -, ⟨Lc4, hQ4, l4, y4, z4, A4⟩, st4⟩ := virtualBackS (s := s.setVm s.vm) X3 hx (y := y24) (z := y24) hown (wz hZ hw 116 rfl) (wz hZ hw 117 rfl) (notFace_of_selects (args := #[]) (wz hZ hw 119 rfl)) (wz hZ hw 119 rfl) (wz hZ hw 118 rfl) (by decide) (backOfSH (s := s) (vm0 := s.vm) (W := 0) (rm24B l Z a0 hw [] sn b0 3 fF cs sv 0 hN h0 n0 Z0 ha2 ha3 ha4 ha5 ha6 ha7 hcs hsv hq0 hq1 hq2 hlo0 hne hk0) hZ (wq hw 120 rfl) (wq hw 10 rfl) (by decide) (by decide) (own_EW hw) hCH) q4a q4c (g := (mkF m 27 #[sR o0, sI (Int32.ofNat hN)] [(.int (Int32.ofNat hN)), (.int 0), (.ref sn)])) rfl (by rw [hml]; rfl) (Steps.refl _) (argsL := [(.int 0), (.int (Int32.ofNat hN))]) (rest := []) (lenOf pd_19 rfl) rfl (leW rfl) (hb hby d10_27) (fun _ _ => ⟨rfl, e3, (by decide : 0 + 0 + 2 ≤ _), (by decide : 0 + 0 + 68 ≤ _)⟩)
  dsimp only [Pt.U, Pt.locs, Pt.cells, Pt.slots] at X4 hS4 l4 y4 z4 A4 st4 hQ4
  subst l4 y4 z4
  obtain ⟨b4_0, b4_1, rfl, N4q, Kq4, f4_0, f4_1, f4_2, f4_3, f4_4, f4_5, f4_6, f4_7, f4_8, f4_9⟩ := hQ4
  have CR5c := CHr.trans (CHr.refl hCH) A4
  have c6_0 := ha0.keep Kq4
  have c6_1 := ha1.keep Kq4 nin0
  have K4 : Keep h0 T4.heap [] := (Keep.refl h0 []).trans Kq4 all0
  have Z4 := Nat.le_trans Z0 Kq4.1
  have ne_b4_1_o0 := AV.neExa f4_9 c6_0 (wq hw 32 rfl)
  have ne_b4_1_sn := AV.neExa f4_9 f4_0 (wq hw 9 rfl)
  have ne_b4_1_b4_0 := AV.neExa f4_9 f4_6 (wq hw 9 rfl)
  have N4 := Fr.app N2 N4q
  have hS4c : s.Since T4.vm T4.heap.size := State.Since.trans hS0 hS4 (Nat.le_trans (Nat.zero_le _) Kq4.1)
  replace hZ : Z.Warmed39 (s.setVm T4.vm).vm := State.Warmed39.trans (t := s.setVm s.vm) hZ hS4.1
  replace hown : (s.setVm T4.vm).vm.findClass "com/example/bindery/bindery/compiler/JavaType" = some m.cls := by rw [show (s.setVm T4.vm).vm = T4.vm from rfl, hS4.1.alike.findClass]; exact hown
  refine Go.via (fun t k => st4.trans k) ?_
  refine Go.finW (h := T4.heap) (h0 := h0) (s := s) (vm₁ := T4.vm) X4 hS4c rfl (Nat.le_refl _) Bd.notSynchronized (v := some (.ref b4_0)) (fun h => by rw [Bd.returns] at h; cases h) (fun fs hr => retOut X4 hx Bd.returns rfl (Or.inr (Or.inr (Or.inr (Or.inr ⟨rfl, rfl, rfl⟩)))) (hb hby d10_30) hr) (by decide) (by decide) hh hZ (own_EW hw) CR5c ?_
  exact ⟨b4_0, b4_1, rfl, N4, K4, c6_0, c6_1, f4_0, f4_1, f4_2, f4_3, f4_4, f4_5, f4_6, f4_7, f4_8, f4_9⟩
def Q10n4B (Z : State) (o0 : Addr) (sn : Addr) (b0 : Addr) (fF : Nat → Int32) (cs : Int32) (sv : Value) (hN : Nat) (h0 : Heap) (n0 : Nat) (v : Option Value) (h : Heap) (L : List Loc) : Prop := ∃ b4_0 : Addr, ∃ b4_1 : Addr, v = some (.ref b4_0) ∧ Fr n0 L ∧ Keep h0 h [] ∧ Exa Z h o0 "com/example/bindery/bindery/compiler/JavaType" ∧ Fld Z h o0 "com/example/bindery/bindery/compiler/JavaType" "name" "Ljava/lang/String;" (.ref sn) ∧ Exa Z h sn "java/lang/String" ∧ Fld Z h sn "java/lang/String" "coder" "B" (.int 0) ∧ Fld Z h sn "java/lang/String" "value" "[B" (.ref b0) ∧ AV Z h b0 .byte 4 (fun k => .int (fF k)) ∧ Sta Z h "java/lang/String" "COMPACT_STRINGS" "Z" (.int cs) ∧ Sta Z h "jdk/internal/util/Preconditions" "SIOOBE_FORMATTER" "Ljava/util/function/BiFunction;" sv ∧ Exa Z h b4_0 "java/lang/String" ∧ Fld Z h b4_0 "java/lang/String" "coder" "B" (.int 0) ∧ Fld Z h b4_0 "java/lang/String" "value" "[B" (.ref b4_1) ∧ AV Z h b4_1 .byte 0 (fun k => .int ((own_t []) k))
theorem rm10n4B (l : Launch) (Z : State) (a0 : Array Value) (hw : HW a0 Z) (ws : List Jvm.Cond) (o0 : Addr) (sn : Addr) (b0 : Addr) (fF : Nat → Int32) (cs : Int32) (sv : Value) (hN : Nat) (h0 : Heap) (n0 : Nat) (Z0 : n0 ≤ h0.size) (ha0 : Exa Z h0 o0 "com/example/bindery/bindery/compiler/JavaType") (ha1 : Fld Z h0 o0 "com/example/bindery/bindery/compiler/JavaType" "name" "Ljava/lang/String;" (.ref sn)) (ha2 : Exa Z h0 sn "java/lang/String") (ha3 : Fld Z h0 sn "java/lang/String" "coder" "B" (.int 0)) (ha4 : Fld Z h0 sn "java/lang/String" "value" "[B" (.ref b0)) (ha5 : AV Z h0 b0 .byte 4 (fun k => .int (fF k))) (ha6 : Sta Z h0 "java/lang/String" "COMPACT_STRINGS" "Z" (.int cs)) (ha7 : Sta Z h0 "jdk/internal/util/Preconditions" "SIOOBE_FORMATTER" "Ljava/util/function/BiFunction;" sv) (hcs : ¬ cs = 0) (hsv : sv.isRef = true) (hq0 : ¬ (0 : Int32) < 0) (hq1 : ¬ (Int32.ofNat hN) < (0 : Int32)) (hq2 : ¬ (4 : Int32) < (Int32.ofNat hN)) (hlo0 : (0 : Int32) = (0 : Int32)) (hne : ¬ (Int32.ofNat hN) = (4 : Int32)) (hk0 : ((Int32.ofNat hN) - (0 : Int32)) = (0 : Int32)) (hld : (f11n4 sn b0 fF cs) = (Int32.ofNat hN)) (hge : ¬ (Int32.ofNat hN) < (0 : Int32)) :
    MetFree l y10 (head1 (Jvm.Cond.code y10 prog_5_method_9_code 2 (some (.object "java/lang/String")) :: ws) RM_4_2_68_59) (fun a U => a = #[(.ref o0)] ∧ Z.Warmed39 U.vm ∧ U.heap = h0 ∧ CHv Z own_EL U.vm h0) (fun _ _ _ _ _ => True) (fun _ U o U' => ∃ v L, o = .returned v ∧ Q10n4B Z o0 sn b0 fF cs sv hN h0 n0 v U'.heap L ∧ CHr Z own_EL U.vm U.heap U'.vm U'.heap ∧ ReturnedEndW U o U' L RM_4_2_68_59.cells RM_4_2_68_59.slots) := by
  refine MetFree.of_bodySF (plainFor_of_name pn_5) hisR ?_
  intro p e s m args below meth c s₁ Bd hml0 hP hK
  obtain ⟨rfl, hZ, hh, hCH⟩ := hP
  have hx := Bd.exec
  have hby := Bd.bytes
  have hml : c.maxLocals = 2 := hml0
  have hown : s.vm.findClass "com/example/bindery/bindery/compiler/JavaType" = some m.cls := findClass_of_methodNamed Bd.named
  have X0 : Stand p l e RM_4_2_68_59 s m _ below meth c s₁ [] 0 0 := Stand.of_body Bd
  have e0 : s₁.heap = h0 := by rw [← hh, Bd.state]; rfl
  have N0 := Fr.nil n0
  refine Go.into (P := fun oo uu => ∃ v L, oo = .returned v ∧ Q10n4B Z o0 sn b0 fF cs sv hN h0 n0 v uu.heap L ∧ CHr Z own_EL s.vm s.heap uu.vm uu.heap ∧ ReturnedEndW s oo uu L RM_4_2_68_59.cells RM_4_2_68_59.slots) (ef_10_a m o0) ?_
  show Go p e below _ (s₁.setTop (mkF m 0 #[sR o0, .unset] []))
  have hS0 : s.Since s.vm 0 := (State.WarmedH.refl s).since 0
  have wS : ∀ a ∈ Bundle.stringAtoms, a.before a0 Z = true := by
    intro d hd
    simp only [Bundle.stringAtoms, List.mem_cons, List.not_mem_nil, or_false] at hd
    rcases hd with rfl | rfl | rfl | rfl | rfl | rfl | rfl
    · exact (wq hw 10 rfl)
    · exact (wq hw 9 rfl)
    · exact (wq hw 23 rfl)
    · exact (wq hw 24 rfl)
    · exact (wq hw 25 rfl)
    · exact (wq hw 26 rfl)
    · exact (wq hw 27 rfl)
  refine Vi (s₁.setTop (mkF m 1 #[sR o0, .unset] [(.ref o0)])) (fun tZ kZ => ?_) ?_
  · refine XS.aloadN X0.here hx rfl (hb hby d10_0) rfl rfl ?_
    exact kZ
  obtain ⟨T1, X1, e1, st1⟩ := getF X0 hx hZ hown (host := "") (Or.inl (wq hw 53 rfl)) Via.refl e0 ha1 (g := (mkF m 1 #[sR o0, .unset] [(.ref o0)])) rfl rfl (hb hby d10_1)
  refine Go.via st1 ?_
  refine Vi (T1.setTop (mkF m 6 #[sR o0, .unset] [(.int 46), (.ref sn)])) (fun tZ kZ => ?_) ?_
  · refine XS.bipush X1.here hx rfl (hb hby d10_4) ?_
    exact kZ
  obtain ⟨cq2, kq2, q2a, q2b, q2c⟩ := isOf hZ e1 ha2
  obtain ⟨_, _, ⟨T2, L2, k2, n2⟩, -, X2, ⟨Lc2, hQ2, l2, y2, z2⟩, st2⟩ := X1.virtualBack hx (y := y11) (z := y11) hown (wz hZ hw 62 rfl) (wz hZ hw 63 rfl) (notFace_of_selects (args := #[]) (wz hZ hw 65 rfl)) (wz hZ hw 65 rfl) (wz hZ hw 64 rfl) (by decide) (backOf (W := 0) (rm11n4 l Z a0 hw [] sn b0 fF cs h0 n0 Z0 ha2 ha3 ha4 ha5 ha6 hcs) hZ (wq hw 66 rfl) (wq hw 10 rfl) (by decide) (by decide)) q2a q2c (g := (mkF m 6 #[sR o0, .unset] [(.int 46), (.ref sn)])) rfl (by rw [hml]; rfl) (Steps.refl _) (argsL := [(.int 46)]) (rest := []) (lenOf pd_9 rfl) rfl (leW rfl) (hb hby d10_6) (fun _ _ => ⟨rfl, e1, (by decide : 0 + 0 ≤ _), (by decide : 0 + 0 ≤ _)⟩)
  dsimp only [Pt.U, Pt.locs, Pt.cells, Pt.slots] at X2 l2 y2 z2 st2 hQ2
  subst l2 y2 z2
  obtain ⟨rfl, N2q, e2⟩ := hQ2
  have N2 := Fr.app N0 N2q
  refine Go.via (fun t k => st2.trans k) ?_
  rw [hld]
  show Go p e below _ (T2.setTop (mkF m 9 #[sR o0, .unset] [(.int (Int32.ofNat hN))]))
  refine Vi (T2.setTop (mkF m 22 #[sR o0, sI (Int32.ofNat hN)] [(.ref o0)])) (fun tZ kZ => ?_) ?_
  · refine XS.istoreN X2.here hx rfl (hb hby d10_9) rfl (l' := #[sR o0, sI (Int32.ofNat hN)]) rfl ?_
    refine XS.iloadN X2.here hx rfl (hb hby d10_10) rfl ?_
    refine XS.ifYes X2.here hx rfl (pc0 := 11) (pc' := 21) rfl (hb hby d10_11) rfl ((if0 _ _).trans (flt hge).2.1) (by decide) (by decide) ?_
    refine XS.aloadN X2.here hx rfl (hb hby d10_21) rfl rfl ?_
    exact kZ
  obtain ⟨T3, X3, e3, st3⟩ := getF X2 hx hZ hown (host := "") (Or.inl (wq hw 53 rfl)) Via.refl e2 ha1 (g := (mkF m 22 #[sR o0, sI (Int32.ofNat hN)] [(.ref o0)])) rfl rfl (hb hby d10_22)
  refine Go.via st3 ?_
  refine Vi (T3.setTop (mkF m 27 #[sR o0, sI (Int32.ofNat hN)] [(.int (Int32.ofNat hN)), (.int 0), (.ref sn)])) (fun tZ kZ => ?_) ?_
  · refine XS.iconst X3.here hx rfl (hb hby d10_25) ?_
    refine XS.iloadN X3.here hx rfl (hb hby d10_26) rfl ?_
    exact kZ
  obtain ⟨cq4, kq4, q4a, q4b, q4c⟩ := isOf hZ e3 ha2
  obtain ⟨_, _, ⟨T4, L4, k4, n4⟩, -, X4, hS4, -, ⟨Lc4, hQ4, l4, y4, z4, A4⟩, st4⟩ := virtualBackS (s := s.setVm s.vm) X3 hx (y := y24) (z := y24) hown (wz hZ hw 116 rfl) (wz hZ hw 117 rfl) (notFace_of_selects (args := #[]) (wz hZ hw 119 rfl)) (wz hZ hw 119 rfl) (wz hZ hw 118 rfl) (by decide) (backOfSH (s := s) (vm0 := s.vm) (W := 0) (rm24B l Z a0 hw [] sn b0 4 fF cs sv 0 hN h0 n0 Z0 ha2 ha3 ha4 ha5 ha6 ha7 hcs hsv hq0 hq1 hq2 hlo0 hne hk0) hZ (wq hw 120 rfl) (wq hw 10 rfl) (by decide) (by decide) (own_EW hw) hCH) q4a q4c (g := (mkF m 27 #[sR o0, sI (Int32.ofNat hN)] [(.int (Int32.ofNat hN)), (.int 0), (.ref sn)])) rfl (by rw [hml]; rfl) (Steps.refl _) (argsL := [(.int 0), (.int (Int32.ofNat hN))]) (rest := []) (lenOf pd_19 rfl) rfl (leW rfl) (hb hby d10_27) (fun _ _ => ⟨rfl, e3, (by decide : 0 + 0 + 2 ≤ _), (by decide : 0 + 0 + 68 ≤ _)⟩)
  dsimp only [Pt.U, Pt.locs, Pt.cells, Pt.slots] at X4 hS4 l4 y4 z4 A4 st4 hQ4
  subst l4 y4 z4
  obtain ⟨b4_0, b4_1, rfl, N4q, Kq4, f4_0, f4_1, f4_2, f4_3, f4_4, f4_5, f4_6, f4_7, f4_8, f4_9⟩ := hQ4
  have CR5c := CHr.trans (CHr.refl hCH) A4
  have c6_0 := ha0.keep Kq4
  have c6_1 := ha1.keep Kq4 nin0
  have K4 : Keep h0 T4.heap [] := (Keep.refl h0 []).trans Kq4 all0
  have Z4 := Nat.le_trans Z0 Kq4.1
  have ne_b4_1_o0 := AV.neExa f4_9 c6_0 (wq hw 32 rfl)
  have ne_b4_1_sn := AV.neExa f4_9 f4_0 (wq hw 9 rfl)
  have ne_b4_1_b4_0 := AV.neExa f4_9 f4_6 (wq hw 9 rfl)
  have N4 := Fr.app N2 N4q
  have hS4c : s.Since T4.vm T4.heap.size := State.Since.trans hS0 hS4 (Nat.le_trans (Nat.zero_le _) Kq4.1)
  replace hZ : Z.Warmed39 (s.setVm T4.vm).vm := State.Warmed39.trans (t := s.setVm s.vm) hZ hS4.1
  replace hown : (s.setVm T4.vm).vm.findClass "com/example/bindery/bindery/compiler/JavaType" = some m.cls := by rw [show (s.setVm T4.vm).vm = T4.vm from rfl, hS4.1.alike.findClass]; exact hown
  refine Go.via (fun t k => st4.trans k) ?_
  refine Go.finW (h := T4.heap) (h0 := h0) (s := s) (vm₁ := T4.vm) X4 hS4c rfl (Nat.le_refl _) Bd.notSynchronized (v := some (.ref b4_0)) (fun h => by rw [Bd.returns] at h; cases h) (fun fs hr => retOut X4 hx Bd.returns rfl (Or.inr (Or.inr (Or.inr (Or.inr ⟨rfl, rfl, rfl⟩)))) (hb hby d10_30) hr) (by decide) (by decide) hh hZ (own_EW hw) CR5c ?_
  exact ⟨b4_0, b4_1, rfl, N4, K4, c6_0, c6_1, f4_0, f4_1, f4_2, f4_3, f4_4, f4_5, f4_6, f4_7, f4_8, f4_9⟩
theorem d30_0 : decode B30 0 = .ok (.iload_n 1, 1) := by decide +kernel
theorem d30_1 : decode B30 1 = .ok (.iload_n 0, 1) := by decide +kernel
theorem d30_2 : decode B30 2 = .ok (.if_icmp .ge 35, 3) := by decide +kernel
theorem d30_37 : decode B30 37 = .ok (.return_, 1) := by decide +kernel
def Q30C (Z : State) (lN : Nat) (hN : Nat) (h0 : Heap) (n0 : Nat) (v : Option Value) (h : Heap) (L : List Loc) : Prop := v = none ∧ Fr n0 L ∧ h = h0
theorem pn_8 : plainName "java/util/Arrays" = true := by first | (simp [plainName, overriddenIn]; done) | decide +kernel
theorem ef_30_aa (m : MethodId) (x0 : Int32) (x1 : Int32) : entryFrame m #[(.int x0), (.int x1)] 2 = mkF m 0 #[.val (.int x0), .val (.int x1)] [] := by first | (simp [entryFrame, mkF, argsToLocals, Value.category]; done) | rfl
theorem rm30C (l : Launch) (Z : State) (a0 : Array Value) (hw : HW a0 Z) (ws : List Jvm.Cond) (lN : Nat) (hN : Nat) (h0 : Heap) (n0 : Nat) (Z0 : n0 ≤ h0.size) (hz0 : ¬ ((Int32.ofNat lN) + ((Int32.ofNat hN) - (Int32.ofNat lN))) < (Int32.ofNat lN)) :
    MetFree l y30 (head1 (Jvm.Cond.code y30 jdk_65_method_131_code 2 none :: ws) RM_0_0_0_0) (fun a U => a = #[(.int (Int32.ofNat lN)), (.int ((Int32.ofNat lN) + ((Int32.ofNat hN) - (Int32.ofNat lN))))] ∧ Z.Warmed39 U.vm ∧ U.heap = h0) (fun _ _ _ _ _ => True) (fun _ U o U' => ∃ v L, o = .returned v ∧ Q30C Z lN hN h0 n0 v U'.heap L ∧ FrameEnd U o U' L RM_0_0_0_0.cells RM_0_0_0_0.slots) := by
  refine MetFree.of_bodySF (plainFor_of_name pn_8) hisR ?_
  intro p e s m args below meth c s₁ Bd hml0 hP hK
  obtain ⟨rfl, hZ, hh⟩ := hP
  have hx := Bd.exec
  have hby := Bd.bytes
  have hml : c.maxLocals = 2 := hml0
  have hown : s.vm.findClass "java/util/Arrays" = some m.cls := findClass_of_methodNamed Bd.named
  have X0 : Stand p l e RM_0_0_0_0 s m _ below meth c s₁ [] 0 0 := Stand.of_body Bd
  have e0 : s₁.heap = h0 := by rw [← hh, Bd.state]; rfl
  have N0 := Fr.nil n0
  refine Go.into (P := fun oo uu => ∃ v L, oo = .returned v ∧ Q30C Z lN hN h0 n0 v uu.heap L ∧ FrameEnd s oo uu L RM_0_0_0_0.cells RM_0_0_0_0.slots) (ef_30_aa m (Int32.ofNat lN) ((Int32.ofNat lN) + ((Int32.ofNat hN) - (Int32.ofNat lN)))) ?_
  show Go p e below _ (s₁.setTop (mkF m 0 #[sI (Int32.ofNat lN), sI ((Int32.ofNat lN) + ((Int32.ofNat hN) - (Int32.ofNat lN)))] []))
  refine Vi (s₁.setTop (mkF m 37 #[sI (Int32.ofNat lN), sI ((Int32.ofNat lN) + ((Int32.ofNat hN) - (Int32.ofNat lN)))] [])) (fun tZ kZ => ?_) ?_
  · refine XS.iloadN X0.here hx rfl (hb hby d30_0) rfl ?_
    refine XS.iloadN X0.here hx rfl (hb hby d30_1) rfl ?_
    refine XS.icmpYes X0.here hx rfl (pc0 := 2) (pc' := 37) rfl (hb hby d30_2) rfl (flt hz0).2.1 (by decide) (by decide) ?_
    exact kZ
  refine Go.retV X0 hx Bd.notSynchronized Bd.returns (hb hby d30_37) (by decide) (by decide) ?_
  rw [e0]
  exact ⟨rfl, N0, rfl⟩
theorem d29_0 : decode B29 0 = .ok (.iload_n 1, 1) := by decide +kernel
theorem d29_1 : decode B29 1 = .ok (.iload_n 2, 1) := by decide +kernel
theorem d29_2 : decode B29 2 = .ok (.invokestatic 343, 3) := by decide +kernel
theorem d29_5 : decode B29 5 = .ok (.iload_n 2, 1) := by decide +kernel
theorem d29_6 : decode B29 6 = .ok (.iload_n 1, 1) := by decide +kernel
theorem d29_7 : decode B29 7 = .ok (.isub, 1) := by decide +kernel
theorem d29_8 : decode B29 8 = .ok (.istore_n 3, 1) := by decide +kernel
theorem d29_9 : decode B29 9 = .ok (.iload_n 3, 1) := by decide +kernel
theorem d29_10 : decode B29 10 = .ok (.newarray .byte, 2) := by decide +kernel
theorem d29_12 : decode B29 12 = .ok (.astore 4, 2) := by decide +kernel
theorem d29_14 : decode B29 14 = .ok (.aload_n 0, 1) := by decide +kernel
theorem d29_15 : decode B29 15 = .ok (.iload_n 1, 1) := by decide +kernel
theorem d29_16 : decode B29 16 = .ok (.aload 4, 2) := by decide +kernel
theorem d29_18 : decode B29 18 = .ok (.iconst 0, 1) := by decide +kernel
theorem d29_19 : decode B29 19 = .ok (.aload_n 0, 1) := by decide +kernel
theorem d29_20 : decode B29 20 = .ok (.arraylength, 1) := by decide +kernel
theorem d29_21 : decode B29 21 = .ok (.iload_n 1, 1) := by decide +kernel
theorem d29_22 : decode B29 22 = .ok (.isub, 1) := by decide +kernel
theorem d29_23 : decode B29 23 = .ok (.iload_n 3, 1) := by decide +kernel
theorem d29_24 : decode B29 24 = .ok (.invokestatic 304, 3) := by decide +kernel
theorem d29_27 : decode B29 27 = .ok (.invokestatic 150, 3) := by decide +kernel
theorem d29_30 : decode B29 30 = .ok (.aload 4, 2) := by decide +kernel
theorem d29_32 : decode B29 32 = .ok (.areturn, 1) := by decide +kernel
def Q29C (Z : State) (o0 : Addr) (nN : Nat) (fF : Nat → Int32) (lN : Nat) (hN : Nat) (h0 : Heap) (n0 : Nat) (v : Option Value) (h : Heap) (L : List Loc) : Prop := ∃ b2 : Addr, v = some (.ref b2) ∧ Fr n0 L ∧ Keep h0 h [] ∧ h0.size ≤ b2 ∧ AV Z h o0 .byte nN (fun k => .int (fF k)) ∧ AV Z h b2 .byte (hN - lN) (fun k => .int ((own_sh fF lN) k))
abbrev RM_1_1_4_40 : Room := { frames := 1, cells := 1, slots := 4, locals := 40 }
theorem ef_29_aaa (m : MethodId) (x0 : Addr) (x1 : Int32) (x2 : Int32) : entryFrame m #[(.ref x0), (.int x1), (.int x2)] 5 = mkF m 0 #[.val (.ref x0), .val (.int x1), .val (.int x2), .unset, .unset] [] := by first | (simp [entryFrame, mkF, argsToLocals, Value.category]; done) | rfl
theorem rm29C (l : Launch) (Z : State) (a0 : Array Value) (hw : HW a0 Z) (ws : List Jvm.Cond) (o0 : Addr) (nN : Nat) (fF : Nat → Int32) (lN : Nat) (hN : Nat) (h0 : Heap) (n0 : Nat) (Z0 : n0 ≤ h0.size) (ha0 : AV Z h0 o0 .byte nN (fun k => .int (fF k))) (hz0 : ¬ ((Int32.ofNat lN) + ((Int32.ofNat hN) - (Int32.ofNat lN))) < (Int32.ofNat lN)) (hz1 : ¬ (((Int32.ofNat lN) + ((Int32.ofNat hN) - (Int32.ofNat lN))) - (Int32.ofNat lN)) < 0) (hz2 : (((Int32.ofNat lN) + ((Int32.ofNat hN) - (Int32.ofNat lN))) - (Int32.ofNat lN)).toNatClampNeg ≤ 4) (hz3 : (((Int32.ofNat lN) + ((Int32.ofNat hN) - (Int32.ofNat lN))) - (Int32.ofNat lN)).toNatClampNeg = (hN - lN)) (hz4 : f19 ((Int32.ofNat nN) - (Int32.ofNat lN)) (((Int32.ofNat lN) + ((Int32.ofNat hN) - (Int32.ofNat lN))) - (Int32.ofNat lN)) = Int32.ofNat (hN - lN)) (hz5 : lN + (hN - lN) ≤ nN) (hfit : ∀ k, k < nN → fits .byte (.int (fF k)) = true) :
    MetFree l y29 (head1 (Jvm.Cond.code y29 jdk_65_method_133_code 5 (some (.array .byte)) :: ws) RM_1_1_4_40) (fun a U => a = #[(.ref o0), (.int (Int32.ofNat lN)), (.int ((Int32.ofNat lN) + ((Int32.ofNat hN) - (Int32.ofNat lN))))] ∧ Z.Warmed39 U.vm ∧ U.heap = h0) (fun _ _ _ _ _ => True) (fun _ U o U' => ∃ v L, o = .returned v ∧ Q29C Z o0 nN fF lN hN h0 n0 v U'.heap L ∧ FrameEnd U o U' L RM_1_1_4_40.cells RM_1_1_4_40.slots) := by
  refine MetFree.of_bodySF (plainFor_of_name pn_8) hisR ?_
  intro p e s m args below meth c s₁ Bd hml0 hP hK
  obtain ⟨rfl, hZ, hh⟩ := hP
  have hx := Bd.exec
  have hby := Bd.bytes
  have hml : c.maxLocals = 5 := hml0
  have hown : s.vm.findClass "java/util/Arrays" = some m.cls := findClass_of_methodNamed Bd.named
  have X0 : Stand p l e RM_1_1_4_40 s m _ below meth c s₁ [] 0 0 := Stand.of_body Bd
  have e0 : s₁.heap = h0 := by rw [← hh, Bd.state]; rfl
  have N0 := Fr.nil n0
  refine Go.into (P := fun oo uu => ∃ v L, oo = .returned v ∧ Q29C Z o0 nN fF lN hN h0 n0 v uu.heap L ∧ FrameEnd s oo uu L RM_1_1_4_40.cells RM_1_1_4_40.slots) (ef_29_aaa m o0 (Int32.ofNat lN) ((Int32.ofNat lN) + ((Int32.ofNat hN) - (Int32.ofNat lN)))) ?_
  show Go p e below _ (s₁.setTop (mkF m 0 #[sR o0, sI (Int32.ofNat lN), sI ((Int32.ofNat lN) + ((Int32.ofNat hN) - (Int32.ofNat lN))), .unset, .unset] []))
  refine Vi (s₁.setTop (mkF m 2 #[sR o0, sI (Int32.ofNat lN), sI ((Int32.ofNat lN) + ((Int32.ofNat hN) - (Int32.ofNat lN))), .unset, .unset] [(.int ((Int32.ofNat lN) + ((Int32.ofNat hN) - (Int32.ofNat lN)))), (.int (Int32.ofNat lN))])) (fun tZ kZ => ?_) ?_
  · refine XS.iloadN X0.here hx rfl (hb hby d29_0) rfl ?_
    refine XS.iloadN X0.here hx rfl (hb hby d29_1) rfl ?_
    exact kZ
  obtain ⟨_, _, ⟨T1, L1, k1, n1⟩, -, X1, ⟨Lc1, hQ1, l1, y1, z1⟩, st1⟩ := Jvm.LawKit.callS X0 hx (y := y30) hown (wz hZ hw 140 rfl) (wz hZ hw 141 rfl) (wz hZ hw 135 rfl) (wz hZ hw 142 rfl) (by decide) (backOf (W := 0) (rm30C l Z a0 hw [] lN hN h0 n0 Z0 hz0) hZ (wq hw 142 rfl) (wq hw 135 rfl) (by decide) (by decide)) (g := (mkF m 2 #[sR o0, sI (Int32.ofNat lN), sI ((Int32.ofNat lN) + ((Int32.ofNat hN) - (Int32.ofNat lN))), .unset, .unset] [(.int ((Int32.ofNat lN) + ((Int32.ofNat hN) - (Int32.ofNat lN)))), (.int (Int32.ofNat lN))])) rfl (by rw [hml]; rfl) (argsL := [(.int (Int32.ofNat lN)), (.int ((Int32.ofNat lN) + ((Int32.ofNat hN) - (Int32.ofNat lN))))]) (rest := []) (lenOf pd_24 rfl) rfl (leW rfl) (hb hby d29_2) (fun _ _ => ⟨rfl, e0, (by decide : 0 + 0 ≤ _), (by decide : 0 + 0 ≤ _)⟩)
  dsimp only [Pt.U, Pt.locs, Pt.cells, Pt.slots] at X1 l1 y1 z1 st1 hQ1
  subst l1 y1 z1
  obtain ⟨rfl, N1q, e1⟩ := hQ1
  have N1 := Fr.app N0 N1q
  refine Go.via st1 ?_
  refine Vi (T1.setTop (mkF m 10 #[sR o0, sI (Int32.ofNat lN), sI ((Int32.ofNat lN) + ((Int32.ofNat hN) - (Int32.ofNat lN))), sI (((Int32.ofNat lN) + ((Int32.ofNat hN) - (Int32.ofNat lN))) - (Int32.ofNat lN)), .unset] [(.int (((Int32.ofNat lN) + ((Int32.ofNat hN) - (Int32.ofNat lN))) - (Int32.ofNat lN)))])) (fun tZ kZ => ?_) ?_
  · refine XS.iloadN X1.here hx rfl (hb hby d29_5) rfl ?_
    refine XS.iloadN X1.here hx rfl (hb hby d29_6) rfl ?_
    refine XS.isub X1.here hx rfl (hb hby d29_7) rfl ?_
    refine XS.istoreN X1.here hx rfl (hb hby d29_8) rfl (l' := #[sR o0, sI (Int32.ofNat lN), sI ((Int32.ofNat lN) + ((Int32.ofNat hN) - (Int32.ofNat lN))), sI (((Int32.ofNat lN) + ((Int32.ofNat hN) - (Int32.ofNat lN))) - (Int32.ofNat lN)), .unset]) rfl ?_
    refine XS.iloadN X1.here hx rfl (hb hby d29_9) rfl ?_
    exact kZ
  obtain ⟨T2, h2, k2, X2, e2, E2, A2, B2, st2⟩ := newPE X1 hx hZ (wq hw 23 rfl) e1 (g := (mkF m 10 #[sR o0, sI (Int32.ofNat lN), sI ((Int32.ofNat lN) + ((Int32.ofNat hN) - (Int32.ofNat lN))), sI (((Int32.ofNat lN) + ((Int32.ofNat hN) - (Int32.ofNat lN))) - (Int32.ofNat lN)), .unset] [(.int (((Int32.ofNat lN) + ((Int32.ofNat hN) - (Int32.ofNat lN))) - (Int32.ofNat lN)))])) rfl (hb hby d29_10) rfl hz1 (cap := 4) hz2 (by decide) (by decide) (by decide) (ad := "[B") rfl
  obtain ⟨b2, g2⟩ : ∃ z, z = h0.size := ⟨_, rfl⟩
  rw [← g2] at A2 B2 st2
  have g_b2 : n0 ≤ b2 := Nat.le_trans Z0 (Nat.le_of_eq g2.symm)
  have sz_b2 : h0.size ≤ b2 := Nat.le_trans ((Keep.refl h0 [])).1 (Nat.le_of_eq g2.symm)
  have ne_o0_b2 : o0 ≠ b2 := Nat.ne_of_lt (Nat.lt_of_lt_of_le ha0.lt (Nat.le_of_eq g2.symm))
  have c3_0 := ha0.ext E2
  have K2 : Keep h0 h2 [] := (Keep.refl h0 []).ext E2
  have Z2 := Nat.le_trans Z0 E2.1
  have V2 : AV Z h2 b2 .byte (hN - lN) (fun k => .int ((fun _ => (0 : Int32)) k)) := by have q := AV.new A2; rw [hz3] at q; exact q
  refine Go.via st2 ?_
  refine Vi (T2.setTop (mkF m 24 #[sR o0, sI (Int32.ofNat lN), sI ((Int32.ofNat lN) + ((Int32.ofNat hN) - (Int32.ofNat lN))), sI (((Int32.ofNat lN) + ((Int32.ofNat hN) - (Int32.ofNat lN))) - (Int32.ofNat lN)), sR b2] [(.int (((Int32.ofNat lN) + ((Int32.ofNat hN) - (Int32.ofNat lN))) - (Int32.ofNat lN))), (.int ((Int32.ofNat nN) - (Int32.ofNat lN))), (.int 0), (.ref b2), (.int (Int32.ofNat lN)), (.ref o0)])) (fun tZ kZ => ?_) ?_
  · refine XS.astore X2.here hx rfl (hb hby d29_12) rfl rfl (l' := #[sR o0, sI (Int32.ofNat lN), sI ((Int32.ofNat lN) + ((Int32.ofNat hN) - (Int32.ofNat lN))), sI (((Int32.ofNat lN) + ((Int32.ofNat hN) - (Int32.ofNat lN))) - (Int32.ofNat lN)), sR b2]) rfl ?_
    refine XS.aloadN X2.here hx rfl (hb hby d29_14) rfl rfl ?_
    refine XS.iloadN X2.here hx rfl (hb hby d29_15) rfl ?_
    refine XS.aload X2.here hx rfl (hb hby d29_16) rfl rfl ?_
    refine XS.iconst X2.here hx rfl (hb hby d29_18) ?_
    refine XS.aloadN X2.here hx rfl (hb hby d29_19) rfl rfl ?_
    refine AV.len c3_0 X2 hx hZ e2 (hb hby d29_20) ?_
    refine XS.iloadN X2.here hx rfl (hb hby d29_21) rfl ?_
    refine XS.isub X2.here hx rfl (hb hby d29_22) rfl ?_
    refine XS.iloadN X2.here hx rfl (hb hby d29_23) rfl ?_
    exact kZ
  obtain ⟨_, _, ⟨T4, L4, k4, n4⟩, -, X4, ⟨Lc4, hQ4, l4, y4, z4⟩, st4⟩ := Jvm.LawKit.callS X2 hx (y := y19) hown (wz hZ hw 143 rfl) (wz hZ hw 100 rfl) (wz hZ hw 97 rfl) (wz hZ hw 101 rfl) (by decide) (backOf (W := 4) (rm19 l Z a0 hw [] ((Int32.ofNat nN) - (Int32.ofNat lN)) (((Int32.ofNat lN) + ((Int32.ofNat hN) - (Int32.ofNat lN))) - (Int32.ofNat lN)) h2 n0 Z2 ) hZ (wq hw 101 rfl) (wq hw 97 rfl) (by decide) (by decide)) (g := (mkF m 24 #[sR o0, sI (Int32.ofNat lN), sI ((Int32.ofNat lN) + ((Int32.ofNat hN) - (Int32.ofNat lN))), sI (((Int32.ofNat lN) + ((Int32.ofNat hN) - (Int32.ofNat lN))) - (Int32.ofNat lN)), sR b2] [(.int (((Int32.ofNat lN) + ((Int32.ofNat hN) - (Int32.ofNat lN))) - (Int32.ofNat lN))), (.int ((Int32.ofNat nN) - (Int32.ofNat lN))), (.int 0), (.ref b2), (.int (Int32.ofNat lN)), (.ref o0)])) rfl (by rw [hml]; rfl) (argsL := [(.int ((Int32.ofNat nN) - (Int32.ofNat lN))), (.int (((Int32.ofNat lN) + ((Int32.ofNat hN) - (Int32.ofNat lN))) - (Int32.ofNat lN)))]) (rest := [(.int 0), (.ref b2), (.int (Int32.ofNat lN)), (.ref o0)]) (lenOf pd_10 rfl) rfl (leW rfl) (hb hby d29_24) (fun _ _ => ⟨rfl, e2, (by decide : 0 + 0 + 1 + 0 ≤ _), (by decide : 0 + 0 + 4 + 0 ≤ _)⟩)
  dsimp only [Pt.U, Pt.locs, Pt.cells, Pt.slots] at X4 l4 y4 z4 st4 hQ4
  subst l4 y4 z4
  obtain ⟨rfl, N4q, e4⟩ := hQ4
  rw [hz4] at st4
  have N4 := Fr.app N1 N4q
  refine Go.via st4 ?_
  obtain ⟨T5, h5, L5, X5, e5, N5, Kq5, V5, st5⟩ := AV.copyB (sp' := lN) c3_0 V2 hfit (fun _ _ => by decide) rfl hz5 X4 hx hZ hown (wq hw 144 rfl) (wq hw 147 rfl) (wq hw 145 rfl) (wq hw 146 rfl) e4 N4 g_b2 (g := (mkF m 27 #[sR o0, sI (Int32.ofNat lN), sI ((Int32.ofNat lN) + ((Int32.ofNat hN) - (Int32.ofNat lN))), sI (((Int32.ofNat lN) + ((Int32.ofNat hN) - (Int32.ofNat lN))) - (Int32.ofNat lN)), sR b2] [(.int (Int32.ofNat (hN - lN))), (.int 0), (.ref b2), (.int (Int32.ofNat lN)), (.ref o0)])) rfl (by rw [hml]; rfl) rfl (hb hby d29_27) (by decide) (W := 0) (by show 2 * 0 + _ ≤ _; exact Nat.le_of_eq rfl) (by decide)
  have c6_0 := c3_0.keep Kq5 (ninS ne_o0_b2 nin0)
  have K5 : Keep h0 h5 [] := K2.trans Kq5 (allS (Or.inr sz_b2) all0)
  have Z5 := Nat.le_trans Z2 Kq5.1
  refine Go.via st5 ?_
  refine Vi (T5.setTop (mkF m 32 #[sR o0, sI (Int32.ofNat lN), sI ((Int32.ofNat lN) + ((Int32.ofNat hN) - (Int32.ofNat lN))), sI (((Int32.ofNat lN) + ((Int32.ofNat hN) - (Int32.ofNat lN))) - (Int32.ofNat lN)), sR b2] [(.ref b2)])) (fun tZ kZ => ?_) ?_
  · refine XS.aload X5.here hx rfl (hb hby d29_30) rfl rfl ?_
    exact kZ
  refine Go.retR X5 hx Bd.notSynchronized Bd.returns rfl rfl (hb hby d29_32) (by decide) (by decide) ?_
  rw [e5]
  exact ⟨b2, rfl, N5, K5, sz_b2, c6_0, V5⟩
theorem d28_0 : decode B28 0 = .ok (.iload_n 1, 1) := by decide +kernel
theorem d28_1 : decode B28 1 = .ok (.ifCond .ne 9, 3) := by decide +kernel
theorem d28_4 : decode B28 4 = .ok (.iload_n 2, 1) := by decide +kernel
theorem d28_5 : decode B28 5 = .ok (.aload_n 0, 1) := by decide +kernel
theorem d28_6 : decode B28 6 = .ok (.arraylength, 1) := by decide +kernel
theorem d28_7 : decode B28 7 = .ok (.if_icmp .eq 10, 3) := by decide +kernel
theorem d28_10 : decode B28 10 = .ok (.aload_n 0, 1) := by decide +kernel
theorem d28_11 : decode B28 11 = .ok (.iload_n 1, 1) := by decide +kernel
theorem d28_12 : decode B28 12 = .ok (.iload_n 2, 1) := by decide +kernel
theorem pd_23 : parseMethodDescriptor "([BII)[B" = some ⟨[(.array .byte), .int, .int], some (.array .byte)⟩ := by decide +kernel
theorem d28_13 : decode B28 13 = .ok (.invokestatic 339, 3) := by decide +kernel
theorem d28_16 : decode B28 16 = .ok (.areturn, 1) := by decide +kernel
def Q28C (Z : State) (o0 : Addr) (nN : Nat) (fF : Nat → Int32) (lN : Nat) (hN : Nat) (h0 : Heap) (n0 : Nat) (v : Option Value) (h : Heap) (L : List Loc) : Prop := ∃ b1_0 : Addr, v = some (.ref b1_0) ∧ Fr n0 L ∧ Keep h0 h [] ∧ h0.size ≤ b1_0 ∧ AV Z h o0 .byte nN (fun k => .int (fF k)) ∧ AV Z h b1_0 .byte (hN - lN) (fun k => .int ((own_sh fF lN) k))
abbrev RM_2_1_4_56 : Room := { frames := 2, cells := 1, slots := 4, locals := 56 }
theorem ef_28_aaa (m : MethodId) (x0 : Addr) (x1 : Int32) (x2 : Int32) : entryFrame m #[(.ref x0), (.int x1), (.int x2)] 3 = mkF m 0 #[.val (.ref x0), .val (.int x1), .val (.int x2)] [] := by first | (simp [entryFrame, mkF, argsToLocals, Value.category]; done) | rfl
theorem rm28C (l : Launch) (Z : State) (a0 : Array Value) (hw : HW a0 Z) (ws : List Jvm.Cond) (o0 : Addr) (nN : Nat) (fF : Nat → Int32) (lN : Nat) (hN : Nat) (h0 : Heap) (n0 : Nat) (Z0 : n0 ≤ h0.size) (ha0 : AV Z h0 o0 .byte nN (fun k => .int (fF k))) (hlo0 : (Int32.ofNat lN) = (0 : Int32)) (hne2 : ¬ ((Int32.ofNat lN) + ((Int32.ofNat hN) - (Int32.ofNat lN))) = (Int32.ofNat nN)) (hz0 : ¬ ((Int32.ofNat lN) + ((Int32.ofNat hN) - (Int32.ofNat lN))) < (Int32.ofNat lN)) (hz1 : ¬ (((Int32.ofNat lN) + ((Int32.ofNat hN) - (Int32.ofNat lN))) - (Int32.ofNat lN)) < 0) (hz2 : (((Int32.ofNat lN) + ((Int32.ofNat hN) - (Int32.ofNat lN))) - (Int32.ofNat lN)).toNatClampNeg ≤ 4) (hz3 : (((Int32.ofNat lN) + ((Int32.ofNat hN) - (Int32.ofNat lN))) - (Int32.ofNat lN)).toNatClampNeg = (hN - lN)) (hz4 : f19 ((Int32.ofNat nN) - (Int32.ofNat lN)) (((Int32.ofNat lN) + ((Int32.ofNat hN) - (Int32.ofNat lN))) - (Int32.ofNat lN)) = Int32.ofNat (hN - lN)) (hz5 : lN + (hN - lN) ≤ nN) (hfit : ∀ k, k < nN → fits .byte (.int (fF k)) = true) :
    MetFree l y28 (head1 (Jvm.Cond.code y28 jdk_65_method_132_code 3 (some (.array .byte)) :: ws) RM_2_1_4_56) (fun a U => a = #[(.ref o0), (.int (Int32.ofNat lN)), (.int ((Int32.ofNat lN) + ((Int32.ofNat hN) - (Int32.ofNat lN))))] ∧ Z.Warmed39 U.vm ∧ U.heap = h0) (fun _ _ _ _ _ => True) (fun _ U o U' => ∃ v L, o = .returned v ∧ Q28C Z o0 nN fF lN hN h0 n0 v U'.heap L ∧ FrameEnd U o U' L RM_2_1_4_56.cells RM_2_1_4_56.slots) := by
  refine MetFree.of_bodySF (plainFor_of_name pn_8) hisR ?_
  intro p e s m args below meth c s₁ Bd hml0 hP hK
  obtain ⟨rfl, hZ, hh⟩ := hP
  have hx := Bd.exec
  have hby := Bd.bytes
  have hml : c.maxLocals = 3 := hml0
  have hown : s.vm.findClass "java/util/Arrays" = some m.cls := findClass_of_methodNamed Bd.named
  have X0 : Stand p l e RM_2_1_4_56 s m _ below meth c s₁ [] 0 0 := Stand.of_body Bd
  have e0 : s₁.heap = h0 := by rw [← hh, Bd.state]; rfl
  have N0 := Fr.nil n0
  refine Go.into (P := fun oo uu => ∃ v L, oo = .returned v ∧ Q28C Z o0 nN fF lN hN h0 n0 v uu.heap L ∧ FrameEnd s oo uu L RM_2_1_4_56.cells RM_2_1_4_56.slots) (ef_28_aaa m o0 (Int32.ofNat lN) ((Int32.ofNat lN) + ((Int32.ofNat hN) - (Int32.ofNat lN)))) ?_
  show Go p e below _ (s₁.setTop (mkF m 0 #[sR o0, sI (Int32.ofNat lN), sI ((Int32.ofNat lN) + ((Int32.ofNat hN) - (Int32.ofNat lN)))] []))
  refine Vi (s₁.setTop (mkF m 13 #[sR o0, sI (Int32.ofNat lN), sI ((Int32.ofNat lN) + ((Int32.ofNat hN) - (Int32.ofNat lN)))] [(.int ((Int32.ofNat lN) + ((Int32.ofNat hN) - (Int32.ofNat lN)))), (.int (Int32.ofNat lN)), (.ref o0)])) (fun tZ kZ => ?_) ?_
  · refine XS.iloadN X0.here hx rfl (hb hby d28_0) rfl ?_
    refine XS.ifNo X0.here hx rfl (hb hby d28_1) rfl ((if0 _ _).trans (teq hlo0).2) ?_
    refine XS.iloadN X0.here hx rfl (hb hby d28_4) rfl ?_
    refine XS.aloadN X0.here hx rfl (hb hby d28_5) rfl rfl ?_
    refine AV.len ha0 X0 hx hZ e0 (hb hby d28_6) ?_
    refine XS.icmpNo X0.here hx rfl (hb hby d28_7) rfl (feq hne2).1 ?_
    refine XS.aloadN X0.here hx rfl (hb hby d28_10) rfl rfl ?_
    refine XS.iloadN X0.here hx rfl (hb hby d28_11) rfl ?_
    refine XS.iloadN X0.here hx rfl (hb hby d28_12) rfl ?_
    exact kZ
  obtain ⟨_, _, ⟨T1, L1, k1, n1⟩, -, X1, ⟨Lc1, hQ1, l1, y1, z1⟩, st1⟩ := Jvm.LawKit.callS X0 hx (y := y29) hown (wz hZ hw 137 rfl) (wz hZ hw 138 rfl) (wz hZ hw 135 rfl) (wz hZ hw 139 rfl) (by decide) (backOf (W := 0) (rm29C l Z a0 hw [] o0 nN fF lN hN h0 n0 Z0 ha0 hz0 hz1 hz2 hz3 hz4 hz5 hfit) hZ (wq hw 139 rfl) (wq hw 135 rfl) (by decide) (by decide)) (g := (mkF m 13 #[sR o0, sI (Int32.ofNat lN), sI ((Int32.ofNat lN) + ((Int32.ofNat hN) - (Int32.ofNat lN)))] [(.int ((Int32.ofNat lN) + ((Int32.ofNat hN) - (Int32.ofNat lN)))), (.int (Int32.ofNat lN)), (.ref o0)])) rfl (by rw [hml]; rfl) (argsL := [(.ref o0), (.int (Int32.ofNat lN)), (.int ((Int32.ofNat lN) + ((Int32.ofNat hN) - (Int32.ofNat lN))))]) (rest := []) (lenOf pd_23 rfl) rfl (leW rfl) (hb hby d28_13) (fun _ _ => ⟨rfl, e0, (by decide : 0 + 1 ≤ _), (by decide : 0 + 4 ≤ _)⟩)
  dsimp only [Pt.U, Pt.locs, Pt.cells, Pt.slots] at X1 l1 y1 z1 st1 hQ1
  subst l1 y1 z1
  obtain ⟨b1_0, rfl, N1q, Kq1, hz_b1_0, f1_0, f1_1⟩ := hQ1
  have g_b1_0 : n0 ≤ b1_0 := Nat.le_trans Z0 hz_b1_0
  have sz_b1_0 : h0.size ≤ b1_0 := Nat.le_trans ((Keep.refl h0 [])).1 hz_b1_0
  have ne_o0_b1_0 : o0 ≠ b1_0 := Nat.ne_of_lt (Nat.lt_of_lt_of_le ha0.lt hz_b1_0)
  have K1 : Keep h0 T1.heap [] := (Keep.refl h0 []).trans Kq1 all0
  have Z1 := Nat.le_trans Z0 Kq1.1
  have N1 := Fr.app N0 N1q
  refine Go.via st1 ?_
  refine Go.retR X1 hx Bd.notSynchronized Bd.returns rfl rfl (hb hby d28_16) (by decide) (by decide) ?_
  exact ⟨b1_0, rfl, N1, K1, sz_b1_0, f1_0, f1_1⟩
theorem d31_0 : decode B31 0 = .ok (.aload_n 0, 1) := by decide +kernel
theorem d31_1 : decode B31 1 = .ok (.invokespecial 1, 3) := by decide +kernel
theorem d31_4 : decode B31 4 = .ok (.aload_n 0, 1) := by decide +kernel
theorem d31_5 : decode B31 5 = .ok (.aload_n 1, 1) := by decide +kernel
theorem d31_6 : decode B31 6 = .ok (.putfield 9, 3) := by decide +kernel
theorem d31_9 : decode B31 9 = .ok (.aload_n 0, 1) := by decide +kernel
theorem d31_10 : decode B31 10 = .ok (.iload_n 2, 1) := by decide +kernel
theorem d31_11 : decode B31 11 = .ok (.putfield 15, 3) := by decide +kernel
theorem d31_14 : decode B31 14 = .ok (.return_, 1) := by decide +kernel
def Q31 (Z : State) (o0 : Addr) (o1 : Addr) (h0 : Heap) (n0 : Nat) (v : Option Value) (h : Heap) (L : List Loc) : Prop := v = none ∧ Fr n0 L ∧ Keep h0 h [o0] ∧ Exa Z h o0 "java/lang/String" ∧ Fld Z h o0 "java/lang/String" "value" "[B" (.ref o1) ∧ Fld Z h o0 "java/lang/String" "coder" "B" (.int 0)
theorem ef_31_aaa (m : MethodId) (x0 : Addr) (x1 : Addr) (x2 : Int32) : entryFrame m #[(.ref x0), (.ref x1), (.int x2)] 3 = mkF m 0 #[.val (.ref x0), .val (.ref x1), .val (.int x2)] [] := by first | (simp [entryFrame, mkF, argsToLocals, Value.category]; done) | rfl
theorem rm31 (l : Launch) (Z : State) (a0 : Array Value) (hw : HW a0 Z) (ws : List Jvm.Cond) (o0 : Addr) (o1 : Addr) (h0 : Heap) (n0 : Nat) (Z0 : n0 ≤ h0.size) (ha0 : Exa Z h0 o0 "java/lang/String") (ha1 : Fld Z h0 o0 "java/lang/String" "value" "[B" .null) (ha2 : Fld Z h0 o0 "java/lang/String" "coder" "B" (.int 0)) (ha3 : n0 ≤ o0) :
    MetFree l y31 (head1 (Jvm.Cond.code y31 jdk_42_method_151_code 3 none :: ws) RM_1_0_0_12) (fun a U => a = #[(.ref o0), (.ref o1), (.int 0)] ∧ Z.Warmed39 U.vm ∧ U.heap = h0) (fun _ _ _ _ _ => True) (fun _ U o U' => ∃ v L, o = .returned v ∧ Q31 Z o0 o1 h0 n0 v U'.heap L ∧ FrameEnd U o U' L RM_1_0_0_12.cells RM_1_0_0_12.slots) := by
  refine MetFree.of_bodySF (plainFor_of_name pn_0) hisR ?_
  intro p e s m args below meth c s₁ Bd hml0 hP hK
  obtain ⟨rfl, hZ, hh⟩ := hP
  have hx := Bd.exec
  have hby := Bd.bytes
  have hml : c.maxLocals = 3 := hml0
  have hown : s.vm.findClass "java/lang/String" = some m.cls := findClass_of_methodNamed Bd.named
  have hnm := (name_of_methodNamed Bd.named Bd.method).1
  have X0 : Stand p l e RM_1_0_0_12 s m _ below meth c s₁ [] 0 0 := Stand.of_body Bd
  have e0 : s₁.heap = h0 := by rw [← hh, Bd.state]; rfl
  have N0 := Fr.nil n0
  refine Go.into (P := fun oo uu => ∃ v L, oo = .returned v ∧ Q31 Z o0 o1 h0 n0 v uu.heap L ∧ FrameEnd s oo uu L RM_1_0_0_12.cells RM_1_0_0_12.slots) (ef_31_aaa m o0 o1 (0 : Int32)) ?_
  show Go p e below _ (s₁.setTop (mkF m 0 #[sR o0, sR o1, sI 0] []))
  refine Vi (s₁.setTop (mkF m 1 #[sR o0, sR o1, sI 0] [(.ref o0)])) (fun tZ kZ => ?_) ?_
  · refine XS.aloadN X0.here hx rfl (hb hby d31_0) rfl rfl ?_
    exact kZ
  obtain ⟨T1, X1, e1, st1⟩ := initO X0 hx hZ hown (wq hw 19 rfl) (wq hw 20 rfl) (wq hw 21 rfl) e0 (g := (mkF m 1 #[sR o0, sR o1, sI 0] [(.ref o0)])) rfl (by rw [hml]; rfl) rfl (hb hby d31_1) (by decide) (W := 0) (by show 2 * 0 + _ ≤ _; exact Nat.le_of_eq rfl) (by decide)
  refine Go.via st1 ?_
  refine Vi (T1.setTop (mkF m 6 #[sR o0, sR o1, sI 0] [(.ref o1), (.ref o0)])) (fun tZ kZ => ?_) ?_
  · refine XS.aloadN X1.here hx rfl (hb hby d31_4) rfl rfl ?_
    refine XS.aloadN X1.here hx rfl (hb hby d31_5) rfl rfl ?_
    exact kZ
  obtain ⟨T2, h2, X2, e2, W2, st2⟩ := putF X1 hx hZ hown (host := "") (Or.inl (wq hw 28 rfl)) Via.refl e1 ha1 ha0 (Or.inr ⟨(wq hw 24 rfl), rfl, hnm⟩) (wq hw 9 rfl) (ty := (.array .byte)) (by decide) rfl rfl (g := (mkF m 6 #[sR o0, sR o1, sI 0] [(.ref o1), (.ref o0)])) rfl rfl (hb hby d31_6)
  have N2 := Fr.snoc X2 N0 ha3
  have c3_0 := ha0.wr W2
  have c3_2 := ha2.other W2 (Or.inr (slot_ne (Or.inr (wq hw 25 rfl)) (Or.inr (wq hw 24 rfl)) (by decide) (t := .byte) (t' := (.array .byte)) (by decide) (by decide)))
  have K2 : Keep h0 h2 [o0] := (Keep.refl h0 [o0]).wr W2 (Or.inl (by simp))
  have Z2 := Nat.le_trans Z0 (Keep.of_wr W2).1
  have Fw2 := ha1.same W2
  refine Go.via st2 ?_
  refine Vi (T2.setTop (mkF m 11 #[sR o0, sR o1, sI 0] [(.int 0), (.ref o0)])) (fun tZ kZ => ?_) ?_
  · refine XS.aloadN X2.here hx rfl (hb hby d31_9) rfl rfl ?_
    refine XS.iloadN X2.here hx rfl (hb hby d31_10) rfl ?_
    exact kZ
  obtain ⟨T4, h4, X4, e4, W4, st4⟩ := putFN X2 hx hZ hown (wq hw 29 rfl) Via.refl e2 c3_2 c3_0 (Or.inr ⟨(wq hw 25 rfl), rfl, hnm⟩) (wq hw 9 rfl) (ty := .byte) (v' := (.int (nar .byte (0 : Int32)))) (by decide) rfl (fits_nar_byte _) (g := (mkF m 11 #[sR o0, sR o1, sI 0] [(.int 0), (.ref o0)])) rfl rfl (hb hby d31_11)
  have N4 := Fr.snoc X4 N2 ha3
  have c5_0 := c3_0.wr W4
  have c5_1 := Fw2.other W4 (Or.inr (slot_ne (Or.inr (wq hw 24 rfl)) (Or.inr (wq hw 25 rfl)) (by decide) (t := (.array .byte)) (t' := .byte) (by decide) (by decide)))
  have K4 : Keep h0 h4 [o0] := K2.wr W4 (Or.inl (by simp))
  have Z4 := Nat.le_trans Z2 (Keep.of_wr W4).1
  have Fw4 : Fld Z h4 o0 "java/lang/String" "coder" "B" (.int 0) := c3_2.same W4
  refine Go.via st4 ?_
  refine Go.retV X4 hx Bd.notSynchronized Bd.returns (hb hby d31_14) (by decide) (by decide) ?_
  rw [e4]
  exact ⟨rfl, N4, K4, c5_0, c5_1, Fw4⟩
theorem d27_7 : decode B27 7 = .ok (.new 1, 3) := by decide +kernel
theorem d27_10 : decode B27 10 = .ok (.dup, 1) := by decide +kernel
theorem d27_11 : decode B27 11 = .ok (.aload_n 0, 1) := by decide +kernel
theorem d27_12 : decode B27 12 = .ok (.iload_n 1, 1) := by decide +kernel
theorem d27_13 : decode B27 13 = .ok (.iload_n 1, 1) := by decide +kernel
theorem d27_14 : decode B27 14 = .ok (.iload_n 2, 1) := by decide +kernel
theorem d27_15 : decode B27 15 = .ok (.iadd, 1) := by decide +kernel
theorem d27_16 : decode B27 16 = .ok (.invokestatic 232, 3) := by decide +kernel
theorem d27_19 : decode B27 19 = .ok (.iconst 0, 1) := by decide +kernel
theorem pd_26 : parseMethodDescriptor "([BB)V" = some ⟨[(.array .byte), .byte], none⟩ := by decide +kernel
theorem d27_20 : decode B27 20 = .ok (.invokespecial 112, 3) := by decide +kernel
theorem d27_23 : decode B27 23 = .ok (.areturn, 1) := by decide +kernel
def Q27C (Z : State) (o0 : Addr) (nN : Nat) (fF : Nat → Int32) (lN : Nat) (hN : Nat) (h0 : Heap) (n0 : Nat) (v : Option Value) (h : Heap) (L : List Loc) : Prop := ∃ b1 : Addr, ∃ b3_0 : Addr, v = some (.ref b1) ∧ Fr n0 L ∧ Keep h0 h [] ∧ h0.size ≤ b1 ∧ h0.size ≤ b3_0 ∧ AV Z h o0 .byte nN (fun k => .int (fF k)) ∧ Exa Z h b1 "java/lang/String" ∧ Fld Z h b1 "java/lang/String" "value" "[B" (.ref b3_0) ∧ Fld Z h b1 "java/lang/String" "coder" "B" (.int 0) ∧ AV Z h b3_0 .byte (hN - lN) (fun k => .int ((own_sh fF lN) k))
abbrev RM_3_2_8_72 : Room := { frames := 3, cells := 2, slots := 8, locals := 72 }
theorem rm27C (l : Launch) (Z : State) (a0 : Array Value) (hw : HW a0 Z) (ws : List Jvm.Cond) (o0 : Addr) (nN : Nat) (fF : Nat → Int32) (lN : Nat) (hN : Nat) (h0 : Heap) (n0 : Nat) (Z0 : n0 ≤ h0.size) (ha0 : AV Z h0 o0 .byte nN (fun k => .int (fF k))) (hk : ¬ ((Int32.ofNat hN) - (Int32.ofNat lN)) = (0 : Int32)) (hlo0 : (Int32.ofNat lN) = (0 : Int32)) (hne2 : ¬ ((Int32.ofNat lN) + ((Int32.ofNat hN) - (Int32.ofNat lN))) = (Int32.ofNat nN)) (hz0 : ¬ ((Int32.ofNat lN) + ((Int32.ofNat hN) - (Int32.ofNat lN))) < (Int32.ofNat lN)) (hz1 : ¬ (((Int32.ofNat lN) + ((Int32.ofNat hN) - (Int32.ofNat lN))) - (Int32.ofNat lN)) < 0) (hz2 : (((Int32.ofNat lN) + ((Int32.ofNat hN) - (Int32.ofNat lN))) - (Int32.ofNat lN)).toNatClampNeg ≤ 4) (hz3 : (((Int32.ofNat lN) + ((Int32.ofNat hN) - (Int32.ofNat lN))) - (Int32.ofNat lN)).toNatClampNeg = (hN - lN)) (hz4 : f19 ((Int32.ofNat nN) - (Int32.ofNat lN)) (((Int32.ofNat lN) + ((Int32.ofNat hN) - (Int32.ofNat lN))) - (Int32.ofNat lN)) = Int32.ofNat (hN - lN)) (hz5 : lN + (hN - lN) ≤ nN) (hfit : ∀ k, k < nN → fits .byte (.int (fF k)) = true) :
    MetFree l y27 (head1 (Jvm.Cond.code y27 jdk_43_method_47_code 3 (some (.object "java/lang/String")) :: ws) RM_3_2_8_72) (fun a U => a = #[(.ref o0), (.int (Int32.ofNat lN)), (.int ((Int32.ofNat hN) - (Int32.ofNat lN)))] ∧ Z.Warmed39 U.vm ∧ U.heap = h0) (fun _ _ _ _ _ => True) (fun _ U o U' => ∃ v L, o = .returned v ∧ Q27C Z o0 nN fF lN hN h0 n0 v U'.heap L ∧ FrameEnd U o U' L RM_3_2_8_72.cells RM_3_2_8_72.slots) := by
  refine MetFree.of_bodySF (plainFor_of_name pn_1) hisR ?_
  intro p e s m args below meth c s₁ Bd hml0 hP hK
  obtain ⟨rfl, hZ, hh⟩ := hP
  have hx := Bd.exec
  have hby := Bd.bytes
  have hml : c.maxLocals = 3 := hml0
  have hown : s.vm.findClass "java/lang/StringLatin1" = some m.cls := findClass_of_methodNamed Bd.named
  have X0 : Stand p l e RM_3_2_8_72 s m _ below meth c s₁ [] 0 0 := Stand.of_body Bd
  have e0 : s₁.heap = h0 := by rw [← hh, Bd.state]; rfl
  have N0 := Fr.nil n0
  refine Go.into (P := fun oo uu => ∃ v L, oo = .returned v ∧ Q27C Z o0 nN fF lN hN h0 n0 v uu.heap L ∧ FrameEnd s oo uu L RM_3_2_8_72.cells RM_3_2_8_72.slots) (ef_27_aaa m o0 (Int32.ofNat lN) ((Int32.ofNat hN) - (Int32.ofNat lN))) ?_
  show Go p e below _ (s₁.setTop (mkF m 0 #[sR o0, sI (Int32.ofNat lN), sI ((Int32.ofNat hN) - (Int32.ofNat lN))] []))
  refine Vi (s₁.setTop (mkF m 7 #[sR o0, sI (Int32.ofNat lN), sI ((Int32.ofNat hN) - (Int32.ofNat lN))] [])) (fun tZ kZ => ?_) ?_
  · refine XS.iloadN X0.here hx rfl (hb hby d27_0) rfl ?_
    refine XS.ifYes X0.here hx rfl (pc0 := 1) (pc' := 7) rfl (hb hby d27_1) rfl ((if0 _ _).trans (feq hk).2) (by decide) (by decide) ?_
    exact kZ
  obtain ⟨T1, h1, X1, e1, E1, A1, D1, -, st1⟩ := newO X0 hx hZ hown (wq hw 132 rfl) (wq hw 9 rfl) (wq hw 10 rfl) e0 (g := (mkF m 7 #[sR o0, sI (Int32.ofNat lN), sI ((Int32.ofNat hN) - (Int32.ofNat lN))] [])) rfl (hb hby d27_7) (by decide) (by decide)
  obtain ⟨b1, g1⟩ : ∃ z, z = h0.size := ⟨_, rfl⟩
  rw [← g1] at A1 D1 st1
  have g_b1 : n0 ≤ b1 := Nat.le_trans Z0 (Nat.le_of_eq g1.symm)
  have sz_b1 : h0.size ≤ b1 := Nat.le_trans ((Keep.refl h0 [])).1 (Nat.le_of_eq g1.symm)
  have ne_o0_b1 : o0 ≠ b1 := Nat.ne_of_lt (Nat.lt_of_lt_of_le ha0.lt (Nat.le_of_eq g1.symm))
  have c2_0 := ha0.ext E1
  have K1 : Keep h0 h1 [] := (Keep.refl h0 []).ext E1
  have Z1 := Nat.le_trans Z0 E1.1
  have F1_value : Fld Z h1 b1 "java/lang/String" "value" "[B" .null := D1 (Or.inr (wq hw 24 rfl)) (ty := (.array .byte)) (by decide)
  have F1_coder : Fld Z h1 b1 "java/lang/String" "coder" "B" (.int 0) := D1 (Or.inr (wq hw 25 rfl)) (ty := .byte) (by decide)
  refine Go.via st1 ?_
  refine Vi (T1.setTop (mkF m 16 #[sR o0, sI (Int32.ofNat lN), sI ((Int32.ofNat hN) - (Int32.ofNat lN))] [(.int ((Int32.ofNat lN) + ((Int32.ofNat hN) - (Int32.ofNat lN)))), (.int (Int32.ofNat lN)), (.ref o0), (.ref b1), (.ref b1)])) (fun tZ kZ => ?_) ?_
  · refine XS.dup X1.here hx rfl (hb hby d27_10) rfl rfl ?_
    refine XS.aloadN X1.here hx rfl (hb hby d27_11) rfl rfl ?_
    refine XS.iloadN X1.here hx rfl (hb hby d27_12) rfl ?_
    refine XS.iloadN X1.here hx rfl (hb hby d27_13) rfl ?_
    refine XS.iloadN X1.here hx rfl (hb hby d27_14) rfl ?_
    refine XS.iadd X1.here hx rfl (hb hby d27_15) rfl ?_
    exact kZ
  obtain ⟨_, _, ⟨T3, L3, k3, n3⟩, -, X3, ⟨Lc3, hQ3, l3, y3, z3⟩, st3⟩ := Jvm.LawKit.callS X1 hx (y := y28) hown (wz hZ hw 133 rfl) (wz hZ hw 134 rfl) (wz hZ hw 135 rfl) (wz hZ hw 136 rfl) (by decide) (backOf (W := 2) (rm28C l Z a0 hw [] o0 nN fF lN hN h1 n0 Z1 c2_0 hlo0 hne2 hz0 hz1 hz2 hz3 hz4 hz5 hfit) hZ (wq hw 136 rfl) (wq hw 135 rfl) (by decide) (by decide)) (g := (mkF m 16 #[sR o0, sI (Int32.ofNat lN), sI ((Int32.ofNat hN) - (Int32.ofNat lN))] [(.int ((Int32.ofNat lN) + ((Int32.ofNat hN) - (Int32.ofNat lN)))), (.int (Int32.ofNat lN)), (.ref o0), (.ref b1), (.ref b1)])) rfl (by rw [hml]; rfl) (argsL := [(.ref o0), (.int (Int32.ofNat lN)), (.int ((Int32.ofNat lN) + ((Int32.ofNat hN) - (Int32.ofNat lN))))]) (rest := [(.ref b1), (.ref b1)]) (lenOf pd_23 rfl) rfl (leW rfl) (hb hby d27_16) (fun _ _ => ⟨rfl, e1, (by decide : 0 + 1 + 1 ≤ _), (by decide : 0 + 4 + 4 ≤ _)⟩)
  dsimp only [Pt.U, Pt.locs, Pt.cells, Pt.slots] at X3 l3 y3 z3 st3 hQ3
  subst l3 y3 z3
  obtain ⟨b3_0, rfl, N3q, Kq3, hz_b3_0, f3_0, f3_1⟩ := hQ3
  have g_b3_0 : n0 ≤ b3_0 := Nat.le_trans Z1 hz_b3_0
  have sz_b3_0 : h0.size ≤ b3_0 := Nat.le_trans (K1).1 hz_b3_0
  have ne_o0_b3_0 : o0 ≠ b3_0 := Nat.ne_of_lt (Nat.lt_of_lt_of_le c2_0.lt hz_b3_0)
  have ne_b1_b3_0 : b1 ≠ b3_0 := Nat.ne_of_lt (Nat.lt_of_lt_of_le A1.lt hz_b3_0)
  have c4_2 := A1.keep Kq3
  have c4_3 := F1_value.keep Kq3 nin0
  have c4_4 := F1_coder.keep Kq3 nin0
  have K3 : Keep h0 T3.heap [] := K1.trans Kq3 all0
  have Z3 := Nat.le_trans Z1 Kq3.1
  have N3 := Fr.app N0 N3q
  refine Go.via st3 ?_
  refine Vi (T3.setTop (mkF m 20 #[sR o0, sI (Int32.ofNat lN), sI ((Int32.ofNat hN) - (Int32.ofNat lN))] [(.int 0), (.ref b3_0), (.ref b1), (.ref b1)])) (fun tZ kZ => ?_) ?_
  · refine XS.iconst X3.here hx rfl (hb hby d27_19) ?_
    exact kZ
  obtain ⟨_, _, ⟨T5, L5, k5, n5⟩, -, X5, ⟨Lc5, hQ5, l5, y5, z5⟩, st5⟩ := X3.specialBack hx (y := y31) rfl hown (wz hZ hw 148 rfl) (wz hZ hw 149 rfl) (wz hZ hw 150 rfl) (by decide) (backOf (W := 1) (rm31 l Z a0 hw [] b1 b3_0 T3.heap n0 Z3 c4_2 c4_3 c4_4 g_b1) hZ (wq hw 150 rfl) (wq hw 10 rfl) (by decide) (by decide)) (g := (mkF m 20 #[sR o0, sI (Int32.ofNat lN), sI ((Int32.ofNat hN) - (Int32.ofNat lN))] [(.int 0), (.ref b3_0), (.ref b1), (.ref b1)])) rfl (by rw [hml]; rfl) (Steps.refl _) (a := b1) (argsL := [(.ref b3_0), (.int 0)]) (rest := [(.ref b1)]) (lenOf pd_26 rfl) rfl (leW rfl) (hb hby d27_20) (fun _ _ => ⟨rfl, rfl, (by decide : 0 + 1 + 1 + 0 ≤ _), (by decide : 0 + 4 + 4 + 0 ≤ _)⟩)
  dsimp only [Pt.U, Pt.locs, Pt.cells, Pt.slots] at X5 l5 y5 z5 st5 hQ5
  subst l5 y5 z5
  obtain ⟨rfl, N5q, Kq5, f5_0, f5_1, f5_2⟩ := hQ5
  have c6_0 := f3_0.keep Kq5 (ninS ne_o0_b1 nin0)
  have c6_5 := f3_1.keep Kq5 (ninS (Ne.symm ne_b1_b3_0) nin0)
  have K5 : Keep h0 T5.heap [] := K3.trans Kq5 (allS (Or.inr sz_b1) all0)
  have Z5 := Nat.le_trans Z3 Kq5.1
  have N5 := Fr.app N3 N5q
  refine Go.via (fun t k => st5.trans k) ?_
  refine Go.retR X5 hx Bd.notSynchronized Bd.returns rfl rfl (hb hby d27_23) (by decide) (by decide) ?_
  exact ⟨b1, b3_0, rfl, N5, K5, sz_b1, sz_b3_0, c6_0, f5_0, f5_1, f5_2, c6_5⟩
def Q24C (Z : State) (o0 : Addr) (b0 : Addr) (nN : Nat) (fF : Nat → Int32) (cs : Int32) (sv : Value) (lN : Nat) (hN : Nat) (h0 : Heap) (n0 : Nat) (v : Option Value) (h : Heap) (L : List Loc) : Prop := ∃ b5_0 : Addr, ∃ b5_1 : Addr, v = some (.ref b5_0) ∧ Fr n0 L ∧ Keep h0 h [] ∧ h0.size ≤ b5_0 ∧ h0.size ≤ b5_1 ∧ Exa Z h o0 "java/lang/String" ∧ Fld Z h o0 "java/lang/String" "coder" "B" (.int 0) ∧ Fld Z h o0 "java/lang/String" "value" "[B" (.ref b0) ∧ AV Z h b0 .byte nN (fun k => .int (fF k)) ∧ Sta Z h "java/lang/String" "COMPACT_STRINGS" "Z" (.int cs) ∧ Sta Z h "jdk/internal/util/Preconditions" "SIOOBE_FORMATTER" "Ljava/util/function/BiFunction;" sv ∧ Exa Z h b5_0 "java/lang/String" ∧ Fld Z h b5_0 "java/lang/String" "value" "[B" (.ref b5_1) ∧ Fld Z h b5_0 "java/lang/String" "coder" "B" (.int 0) ∧ AV Z h b5_1 .byte (hN - lN) (fun k => .int ((own_sh fF lN) k))
abbrev RM_4_2_8_86 : Room := { frames := 4, cells := 2, slots := 8, locals := 86 }
theorem rm24C (l : Launch) (Z : State) (a0 : Array Value) (hw : HW a0 Z) (ws : List Jvm.Cond) (o0 : Addr) (b0 : Addr) (nN : Nat) (fF : Nat → Int32) (cs : Int32) (sv : Value) (lN : Nat) (hN : Nat) (h0 : Heap) (n0 : Nat) (Z0 : n0 ≤ h0.size) (ha0 : Exa Z h0 o0 "java/lang/String") (ha1 : Fld Z h0 o0 "java/lang/String" "coder" "B" (.int 0)) (ha2 : Fld Z h0 o0 "java/lang/String" "value" "[B" (.ref b0)) (ha3 : AV Z h0 b0 .byte nN (fun k => .int (fF k))) (ha4 : Sta Z h0 "java/lang/String" "COMPACT_STRINGS" "Z" (.int cs)) (ha5 : Sta Z h0 "jdk/internal/util/Preconditions" "SIOOBE_FORMATTER" "Ljava/util/function/BiFunction;" sv) (hcs : ¬ cs = 0) (hsv : sv.isRef = true) (hq0 : ¬ (Int32.ofNat lN) < 0) (hq1 : ¬ (Int32.ofNat hN) < (Int32.ofNat lN)) (hq2 : ¬ (Int32.ofNat nN) < (Int32.ofNat hN)) (hlo0 : (Int32.ofNat lN) = (0 : Int32)) (hne : ¬ (Int32.ofNat hN) = (Int32.ofNat nN)) (hk : ¬ ((Int32.ofNat hN) - (Int32.ofNat lN)) = (0 : Int32)) (hne2 : ¬ ((Int32.ofNat lN) + ((Int32.ofNat hN) - (Int32.ofNat lN))) = (Int32.ofNat nN)) (hz0 : ¬ ((Int32.ofNat lN) + ((Int32.ofNat hN) - (Int32.ofNat lN))) < (Int32.ofNat lN)) (hz1 : ¬ (((Int32.ofNat lN) + ((Int32.ofNat hN) - (Int32.ofNat lN))) - (Int32.ofNat lN)) < 0) (hz2 : (((Int32.ofNat lN) + ((Int32.ofNat hN) - (Int32.ofNat lN))) - (Int32.ofNat lN)).toNatClampNeg ≤ 4) (hz3 : (((Int32.ofNat lN) + ((Int32.ofNat hN) - (Int32.ofNat lN))) - (Int32.ofNat lN)).toNatClampNeg = (hN - lN)) (hz4 : f19 ((Int32.ofNat nN) - (Int32.ofNat lN)) (((Int32.ofNat lN) + ((Int32.ofNat hN) - (Int32.ofNat lN))) - (Int32.ofNat lN)) = Int32.ofNat (hN - lN)) (hz5 : lN + (hN - lN) ≤ nN) (hfit : ∀ k, k < nN → fits .byte (.int (fF k)) = true) :
    MetFree l y24 (head1 (Jvm.Cond.code y24 jdk_42_method_92_code 5 (some (.object "java/lang/String")) :: ws) RM_4_2_8_86) (fun a U => a = #[(.ref o0), (.int (Int32.ofNat lN)), (.int (Int32.ofNat hN))] ∧ Z.Warmed39 U.vm ∧ U.heap = h0) (fun _ _ _ _ _ => True) (fun _ U o U' => ∃ v L, o = .returned v ∧ Q24C Z o0 b0 nN fF cs sv lN hN h0 n0 v U'.heap L ∧ FrameEnd U o U' L RM_4_2_8_86.cells RM_4_2_8_86.slots) := by
  refine MetFree.of_bodySF (plainFor_of_name pn_0) hisR ?_
  intro p e s m args below meth c s₁ Bd hml0 hP hK
  obtain ⟨rfl, hZ, hh⟩ := hP
  have hx := Bd.exec
  have hby := Bd.bytes
  have hml : c.maxLocals = 5 := hml0
  have hown : s.vm.findClass "java/lang/String" = some m.cls := findClass_of_methodNamed Bd.named
  have X0 : Stand p l e RM_4_2_8_86 s m _ below meth c s₁ [] 0 0 := Stand.of_body Bd
  have e0 : s₁.heap = h0 := by rw [← hh, Bd.state]; rfl
  have N0 := Fr.nil n0
  refine Go.into (P := fun oo uu => ∃ v L, oo = .returned v ∧ Q24C Z o0 b0 nN fF cs sv lN hN h0 n0 v uu.heap L ∧ FrameEnd s oo uu L RM_4_2_8_86.cells RM_4_2_8_86.slots) (ef_24_aaa m o0 (Int32.ofNat lN) (Int32.ofNat hN)) ?_
  show Go p e below _ (s₁.setTop (mkF m 0 #[sR o0, sI (Int32.ofNat lN), sI (Int32.ofNat hN), .unset, .unset] []))
  refine Vi (s₁.setTop (mkF m 1 #[sR o0, sI (Int32.ofNat lN), sI (Int32.ofNat hN), .unset, .unset] [(.ref o0)])) (fun tZ kZ => ?_) ?_
  · refine XS.aloadN X0.here hx rfl (hb hby d24_0) rfl rfl ?_
    exact kZ
  obtain ⟨cq1, kq1, q1a, q1b, q1c⟩ := isOf hZ e0 ha0
  obtain ⟨_, _, ⟨T1, L1, k1, n1⟩, -, X1, ⟨Lc1, hQ1, l1, y1, z1⟩, st1⟩ := X0.virtualBack hx (y := y14) (z := y14) hown (wz hZ hw 78 rfl) (wz hZ hw 79 rfl) (notFace_of_selects (args := #[]) (wz hZ hw 81 rfl)) (wz hZ hw 81 rfl) (wz hZ hw 80 rfl) (by decide) (backOf (W := 0) (rm14 l Z a0 hw [] o0 b0 nN fF cs h0 n0 Z0 ha0 ha1 ha2 ha3 ha4 hcs) hZ (wq hw 82 rfl) (wq hw 10 rfl) (by decide) (by decide)) q1a q1c (g := (mkF m 1 #[sR o0, sI (Int32.ofNat lN), sI (Int32.ofNat hN), .unset, .unset] [(.ref o0)])) rfl (by rw [hml]; rfl) (Steps.refl _) (argsL := []) (rest := []) (lenOf pd_12 rfl) rfl (leW rfl) (hb hby d24_1) (fun _ _ => ⟨rfl, e0, (by decide : 0 + 0 ≤ _), (by decide : 0 + 0 ≤ _)⟩)
  dsimp only [Pt.U, Pt.locs, Pt.cells, Pt.slots] at X1 l1 y1 z1 st1 hQ1
  subst l1 y1 z1
  obtain ⟨rfl, N1q, e1⟩ := hQ1
  have hv1 : (f14 o0 b0 nN fF cs) = (Int32.ofNat nN) := by unfold f14; exact own_sh0 _
  rw [hv1] at st1
  have N1 := Fr.app N0 N1q
  refine Go.via (fun t k => st1.trans k) ?_
  refine Vi (T1.setTop (mkF m 8 #[sR o0, sI (Int32.ofNat lN), sI (Int32.ofNat hN), sI (Int32.ofNat nN), .unset] [(.int (Int32.ofNat nN)), (.int (Int32.ofNat hN)), (.int (Int32.ofNat lN))])) (fun tZ kZ => ?_) ?_
  · refine XS.istoreN X1.here hx rfl (hb hby d24_4) rfl (l' := #[sR o0, sI (Int32.ofNat lN), sI (Int32.ofNat hN), sI (Int32.ofNat nN), .unset]) rfl ?_
    refine XS.iloadN X1.here hx rfl (hb hby d24_5) rfl ?_
    refine XS.iloadN X1.here hx rfl (hb hby d24_6) rfl ?_
    refine XS.iloadN X1.here hx rfl (hb hby d24_7) rfl ?_
    exact kZ
  obtain ⟨_, _, ⟨T2, L2, k2, n2⟩, -, X2, ⟨Lc2, hQ2, l2, y2, z2⟩, st2⟩ := Jvm.LawKit.callS X1 hx (y := y25) hown (wz hZ hw 121 rfl) (wz hZ hw 122 rfl) (wz hZ hw 10 rfl) (wz hZ hw 123 rfl) (by decide) (backOf (W := 0) (rm25 l Z a0 hw [] (Int32.ofNat lN) (Int32.ofNat hN) (Int32.ofNat nN) sv h0 n0 Z0 ha5 hq0 hq1 hq2 hsv) hZ (wq hw 123 rfl) (wq hw 10 rfl) (by decide) (by decide)) (g := (mkF m 8 #[sR o0, sI (Int32.ofNat lN), sI (Int32.ofNat hN), sI (Int32.ofNat nN), .unset] [(.int (Int32.ofNat nN)), (.int (Int32.ofNat hN)), (.int (Int32.ofNat lN))])) rfl (by rw [hml]; rfl) (argsL := [(.int (Int32.ofNat lN)), (.int (Int32.ofNat hN)), (.int (Int32.ofNat nN))]) (rest := []) (lenOf pd_20 rfl) rfl (leW rfl) (hb hby d24_8) (fun _ _ => ⟨rfl, e1, (by decide : 0 + 0 + 0 ≤ _), (by decide : 0 + 0 + 0 ≤ _)⟩)
  dsimp only [Pt.U, Pt.locs, Pt.cells, Pt.slots] at X2 l2 y2 z2 st2 hQ2
  subst l2 y2 z2
  obtain ⟨rfl, N2q, e2⟩ := hQ2
  have N2 := Fr.app N1 N2q
  refine Go.via st2 ?_
  refine Vi (T2.setTop (mkF m 28 #[sR o0, sI (Int32.ofNat lN), sI (Int32.ofNat hN), sI (Int32.ofNat nN), sI ((Int32.ofNat hN) - (Int32.ofNat lN))] [(.ref o0)])) (fun tZ kZ => ?_) ?_
  · refine XS.iloadN X2.here hx rfl (hb hby d24_11) rfl ?_
    refine XS.ifNo X2.here hx rfl (hb hby d24_12) rfl ((if0 _ _).trans (teq hlo0).2) ?_
    refine XS.iloadN X2.here hx rfl (hb hby d24_15) rfl ?_
    refine XS.iloadN X2.here hx rfl (hb hby d24_16) rfl ?_
    refine XS.icmpYes X2.here hx rfl (pc0 := 17) (pc' := 22) rfl (hb hby d24_17) rfl (feq hne).2 (by decide) (by decide) ?_
    refine XS.iloadN X2.here hx rfl (hb hby d24_22) rfl ?_
    refine XS.iloadN X2.here hx rfl (hb hby d24_23) rfl ?_
    refine XS.isub X2.here hx rfl (hb hby d24_24) rfl ?_
    refine XS.istore X2.here hx rfl (hb hby d24_25) rfl (l' := #[sR o0, sI (Int32.ofNat lN), sI (Int32.ofNat hN), sI (Int32.ofNat nN), sI ((Int32.ofNat hN) - (Int32.ofNat lN))]) rfl ?_
    refine XS.aloadN X2.here hx rfl (hb hby d24_27) rfl rfl ?_
    exact kZ
  obtain ⟨cq3, kq3, q3a, q3b, q3c⟩ := isOf hZ e2 ha0
  obtain ⟨_, _, ⟨T3, L3, k3, n3⟩, -, X3, ⟨Lc3, hQ3, l3, y3, z3⟩, st3⟩ := X2.virtualBack hx (y := y13) (z := y13) hown (wz hZ hw 72 rfl) (wz hZ hw 73 rfl) (notFace_of_selects (args := #[]) (wz hZ hw 75 rfl)) (wz hZ hw 75 rfl) (wz hZ hw 74 rfl) (by decide) (backOf (W := 0) (rm13 l Z a0 hw [] o0 cs h0 n0 Z0 ha1 ha4 hcs) hZ (wq hw 76 rfl) (wq hw 10 rfl) (by decide) (by decide)) q3a q3c (g := (mkF m 28 #[sR o0, sI (Int32.ofNat lN), sI (Int32.ofNat hN), sI (Int32.ofNat nN), sI ((Int32.ofNat hN) - (Int32.ofNat lN))] [(.ref o0)])) rfl (by rw [hml]; rfl) (Steps.refl _) (argsL := []) (rest := []) (lenOf pd_11 rfl) rfl (leW rfl) (hb hby d24_28) (fun _ _ => ⟨rfl, e2, (by decide : 0 + 0 + 0 + 0 ≤ _), (by decide : 0 + 0 + 0 + 0 ≤ _)⟩)
  dsimp only [Pt.U, Pt.locs, Pt.cells, Pt.slots] at X3 l3 y3 z3 st3 hQ3
  subst l3 y3 z3
  obtain ⟨rfl, N3q, e3⟩ := hQ3
  have hv3 : (f13 o0 cs) = (1 : Int32) := by unfold f13; decide
  rw [hv3] at st3
  have N3 := Fr.app N2 N3q
  refine Go.via (fun t k => st3.trans k) ?_
  refine Vi (T3.setTop (mkF m 35 #[sR o0, sI (Int32.ofNat lN), sI (Int32.ofNat hN), sI (Int32.ofNat nN), sI ((Int32.ofNat hN) - (Int32.ofNat lN))] [(.ref o0)])) (fun tZ kZ => ?_) ?_
  · refine XS.ifNo X3.here hx rfl (hb hby d24_31) rfl ((if0 _ _).trans (feq (by decide)).1) ?_
    refine XS.aloadN X3.here hx rfl (hb hby d24_34) rfl rfl ?_
    exact kZ
  obtain ⟨T4, X4, e4, st4⟩ := getF X3 hx hZ hown (host := "") (Or.inl (wq hw 28 rfl)) Via.refl e3 ha2 (g := (mkF m 35 #[sR o0, sI (Int32.ofNat lN), sI (Int32.ofNat hN), sI (Int32.ofNat nN), sI ((Int32.ofNat hN) - (Int32.ofNat lN))] [(.ref o0)])) rfl rfl (hb hby d24_35)
  refine Go.via st4 ?_
  refine Vi (T4.setTop (mkF m 41 #[sR o0, sI (Int32.ofNat lN), sI (Int32.ofNat hN), sI (Int32.ofNat nN), sI ((Int32.ofNat hN) - (Int32.ofNat lN))] [(.int ((Int32.ofNat hN) - (Int32.ofNat lN))), (.int (Int32.ofNat lN)), (.ref b0)])) (fun tZ kZ => ?_) ?_
  · refine XS.iloadN X4.here hx rfl (hb hby d24_38) rfl ?_
    refine XS.iload X4.here hx rfl (hb hby d24_39) rfl ?_
    exact kZ
  obtain ⟨_, _, ⟨T5, L5, k5, n5⟩, -, X5, ⟨Lc5, hQ5, l5, y5, z5⟩, st5⟩ := Jvm.LawKit.callS X4 hx (y := y27) hown (wz hZ hw 129 rfl) (wz hZ hw 130 rfl) (wz hZ hw 90 rfl) (wz hZ hw 131 rfl) (by decide) (backOf (W := 0) (rm27C l Z a0 hw [] b0 nN fF lN hN h0 n0 Z0 ha3 hk hlo0 hne2 hz0 hz1 hz2 hz3 hz4 hz5 hfit) hZ (wq hw 131 rfl) (wq hw 90 rfl) (by decide) (by decide)) (g := (mkF m 41 #[sR o0, sI (Int32.ofNat lN), sI (Int32.ofNat hN), sI (Int32.ofNat nN), sI ((Int32.ofNat hN) - (Int32.ofNat lN))] [(.int ((Int32.ofNat hN) - (Int32.ofNat lN))), (.int (Int32.ofNat lN)), (.ref b0)])) rfl (by rw [hml]; rfl) (argsL := [(.ref b0), (.int (Int32.ofNat lN)), (.int ((Int32.ofNat hN) - (Int32.ofNat lN)))]) (rest := []) (lenOf pd_22 rfl) rfl (leW rfl) (hb hby d24_41) (fun _ _ => ⟨rfl, e4, (by decide : 0 + 0 + 0 + 0 + 2 ≤ _), (by decide : 0 + 0 + 0 + 0 + 8 ≤ _)⟩)
  dsimp only [Pt.U, Pt.locs, Pt.cells, Pt.slots] at X5 l5 y5 z5 st5 hQ5
  subst l5 y5 z5
  obtain ⟨b5_0, b5_1, rfl, N5q, Kq5, hz_b5_0, hz_b5_1, f5_0, f5_1, f5_2, f5_3, f5_4⟩ := hQ5
  have g_b5_0 : n0 ≤ b5_0 := Nat.le_trans Z0 hz_b5_0
  have sz_b5_0 : h0.size ≤ b5_0 := Nat.le_trans ((Keep.refl h0 [])).1 hz_b5_0
  have ne_o0_b5_0 : o0 ≠ b5_0 := Nat.ne_of_lt (Nat.lt_of_lt_of_le ha0.lt hz_b5_0)
  have ne_b0_b5_0 : b0 ≠ b5_0 := Nat.ne_of_lt (Nat.lt_of_lt_of_le ha3.lt hz_b5_0)
  have g_b5_1 : n0 ≤ b5_1 := Nat.le_trans Z0 hz_b5_1
  have sz_b5_1 : h0.size ≤ b5_1 := Nat.le_trans ((Keep.refl h0 [])).1 hz_b5_1
  have ne_o0_b5_1 : o0 ≠ b5_1 := Nat.ne_of_lt (Nat.lt_of_lt_of_le ha0.lt hz_b5_1)
  have ne_b0_b5_1 : b0 ≠ b5_1 := Nat.ne_of_lt (Nat.lt_of_lt_of_le ha3.lt hz_b5_1)
  have c6_0 := ha0.keep Kq5
  have c6_1 := ha1.keep Kq5 nin0
  have c6_2 := ha2.keep Kq5 nin0
  have c6_4 := own_sk ha4 Kq5 (fun _ _ _ _ => nin0)
  have c6_5 := own_sk ha5 Kq5 (fun _ _ _ _ => nin0)
  have K5 : Keep h0 T5.heap [] := (Keep.refl h0 []).trans Kq5 all0
  have Z5 := Nat.le_trans Z0 Kq5.1
  have N5 := Fr.app N3 N5q
  refine Go.via st5 ?_
  refine Vi (T5.setTop (mkF m 57 #[sR o0, sI (Int32.ofNat lN), sI (Int32.ofNat hN), sI (Int32.ofNat nN), sI ((Int32.ofNat hN) - (Int32.ofNat lN))] [(.ref b5_0)])) (fun tZ kZ => ?_) ?_
  · refine XS.goto X5.here hx rfl (pc0 := 44) (pc' := 57) rfl (hb hby d24_44) (by decide) (by decide) ?_
    exact kZ
  refine Go.retR X5 hx Bd.notSynchronized Bd.returns rfl rfl (hb hby d24_57) (by decide) (by decide) ?_
  exact ⟨b5_0, b5_1, rfl, N5, K5, sz_b5_0, sz_b5_1, c6_0, c6_1, c6_2, f5_0, c6_4, c6_5, f5_1, f5_2, f5_3, f5_4⟩
def Q10n2C (Z : State) (o0 : Addr) (sn : Addr) (b0 : Addr) (fF : Nat → Int32) (cs : Int32) (sv : Value) (hN : Nat) (h0 : Heap) (n0 : Nat) (v : Option Value) (h : Heap) (L : List Loc) : Prop := ∃ b4_0 : Addr, ∃ b4_1 : Addr, v = some (.ref b4_0) ∧ Fr n0 L ∧ Keep h0 h [] ∧ h0.size ≤ b4_0 ∧ h0.size ≤ b4_1 ∧ Exa Z h o0 "com/example/bindery/bindery/compiler/JavaType" ∧ Fld Z h o0 "com/example/bindery/bindery/compiler/JavaType" "name" "Ljava/lang/String;" (.ref sn) ∧ Exa Z h sn "java/lang/String" ∧ Fld Z h sn "java/lang/String" "coder" "B" (.int 0) ∧ Fld Z h sn "java/lang/String" "value" "[B" (.ref b0) ∧ AV Z h b0 .byte 2 (fun k => .int (fF k)) ∧ Sta Z h "java/lang/String" "COMPACT_STRINGS" "Z" (.int cs) ∧ Sta Z h "jdk/internal/util/Preconditions" "SIOOBE_FORMATTER" "Ljava/util/function/BiFunction;" sv ∧ Exa Z h b4_0 "java/lang/String" ∧ Fld Z h b4_0 "java/lang/String" "value" "[B" (.ref b4_1) ∧ Fld Z h b4_0 "java/lang/String" "coder" "B" (.int 0) ∧ AV Z h b4_1 .byte (hN - 0) (fun k => .int ((own_sh fF 0) k))
abbrev RM_5_2_8_102 : Room := { frames := 5, cells := 2, slots := 8, locals := 102 }
theorem rm10n2C (l : Launch) (Z : State) (a0 : Array Value) (hw : HW a0 Z) (ws : List Jvm.Cond) (o0 : Addr) (sn : Addr) (b0 : Addr) (fF : Nat → Int32) (cs : Int32) (sv : Value) (hN : Nat) (h0 : Heap) (n0 : Nat) (Z0 : n0 ≤ h0.size) (ha0 : Exa Z h0 o0 "com/example/bindery/bindery/compiler/JavaType") (ha1 : Fld Z h0 o0 "com/example/bindery/bindery/compiler/JavaType" "name" "Ljava/lang/String;" (.ref sn)) (ha2 : Exa Z h0 sn "java/lang/String") (ha3 : Fld Z h0 sn "java/lang/String" "coder" "B" (.int 0)) (ha4 : Fld Z h0 sn "java/lang/String" "value" "[B" (.ref b0)) (ha5 : AV Z h0 b0 .byte 2 (fun k => .int (fF k))) (ha6 : Sta Z h0 "java/lang/String" "COMPACT_STRINGS" "Z" (.int cs)) (ha7 : Sta Z h0 "jdk/internal/util/Preconditions" "SIOOBE_FORMATTER" "Ljava/util/function/BiFunction;" sv) (hcs : ¬ cs = 0) (hsv : sv.isRef = true) (hq0 : ¬ (0 : Int32) < 0) (hq1 : ¬ (Int32.ofNat hN) < (0 : Int32)) (hq2 : ¬ (2 : Int32) < (Int32.ofNat hN)) (hlo0 : (0 : Int32) = (0 : Int32)) (hne : ¬ (Int32.ofNat hN) = (2 : Int32)) (hk : ¬ ((Int32.ofNat hN) - (0 : Int32)) = (0 : Int32)) (hne2 : ¬ ((0 : Int32) + ((Int32.ofNat hN) - (0 : Int32))) = (2 : Int32)) (hz0 : ¬ ((0 : Int32) + ((Int32.ofNat hN) - (0 : Int32))) < (0 : Int32)) (hz1 : ¬ (((0 : Int32) + ((Int32.ofNat hN) - (0 : Int32))) - (0 : Int32)) < 0) (hz2 : (((0 : Int32) + ((Int32.ofNat hN) - (0 : Int32))) - (0 : Int32)).toNatClampNeg ≤ 4) (hz3 : (((0 : Int32) + ((Int32.ofNat hN) - (0 : Int32))) - (0 : Int32)).toNatClampNeg = (hN - 0)) (hz4 : f19 (2 : Int32) (((0 : Int32) + ((Int32.ofNat hN) - (0 : Int32))) - (0 : Int32)) = Int32.ofNat (hN - 0)) (hz5 : 0 + (hN - 0) ≤ 2) (hfit : ∀ k, k < 2 → fits .byte (.int (fF k)) = true) (hld : (f11n2 sn b0 fF cs) = (Int32.ofNat hN)) (hge : ¬ (Int32.ofNat hN) < (0 : Int32)) :
    MetFree l y10 (head1 (Jvm.Cond.code y10 prog_5_method_9_code 2 (some (.object "java/lang/String")) :: ws) RM_5_2_8_102) (fun a U => a = #[(.ref o0)] ∧ Z.Warmed39 U.vm ∧ U.heap = h0) (fun _ _ _ _ _ => True) (fun _ U o U' => ∃ v L, o = .returned v ∧ Q10n2C Z o0 sn b0 fF cs sv hN h0 n0 v U'.heap L ∧ FrameEnd U o U' L RM_5_2_8_102.cells RM_5_2_8_102.slots) := by
  refine MetFree.of_bodySF (plainFor_of_name pn_5) hisR ?_
  intro p e s m args below meth c s₁ Bd hml0 hP hK
  obtain ⟨rfl, hZ, hh⟩ := hP
  have hx := Bd.exec
  have hby := Bd.bytes
  have hml : c.maxLocals = 2 := hml0
  have hown : s.vm.findClass "com/example/bindery/bindery/compiler/JavaType" = some m.cls := findClass_of_methodNamed Bd.named
  have X0 : Stand p l e RM_5_2_8_102 s m _ below meth c s₁ [] 0 0 := Stand.of_body Bd
  have e0 : s₁.heap = h0 := by rw [← hh, Bd.state]; rfl
  have N0 := Fr.nil n0
  refine Go.into (P := fun oo uu => ∃ v L, oo = .returned v ∧ Q10n2C Z o0 sn b0 fF cs sv hN h0 n0 v uu.heap L ∧ FrameEnd s oo uu L RM_5_2_8_102.cells RM_5_2_8_102.slots) (ef_10_a m o0) ?_
  show Go p e below _ (s₁.setTop (mkF m 0 #[sR o0, .unset] []))
  refine Vi (s₁.setTop (mkF m 1 #[sR o0, .unset] [(.ref o0)])) (fun tZ kZ => ?_) ?_
  · refine XS.aloadN X0.here hx rfl (hb hby d10_0) rfl rfl ?_
    exact kZ
  obtain ⟨T1, X1, e1, st1⟩ := getF X0 hx hZ hown (host := "") (Or.inl (wq hw 53 rfl)) Via.refl e0 ha1 (g := (mkF m 1 #[sR o0, .unset] [(.ref o0)])) rfl rfl (hb hby d10_1)
  refine Go.via st1 ?_
  refine Vi (T1.setTop (mkF m 6 #[sR o0, .unset] [(.int 46), (.ref sn)])) (fun tZ kZ => ?_) ?_
  · refine XS.bipush X1.here hx rfl (hb hby d10_4) ?_
    exact kZ
  obtain ⟨cq2, kq2, q2a, q2b, q2c⟩ := isOf hZ e1 ha2
  obtain ⟨_, _, ⟨T2, L2, k2, n2⟩, -, X2, ⟨Lc2, hQ2, l2, y2, z2⟩, st2⟩ := X1.virtualBack hx (y := y11) (z := y11) hown (wz hZ hw 62 rfl) (wz hZ hw 63 rfl) (notFace_of_selects (args := #[]) (wz hZ hw 65 rfl)) (wz hZ hw 65 rfl) (wz hZ hw 64 rfl) (by decide) (backOf (W := 0) (rm11n2 l Z a0 hw [] sn b0 fF cs h0 n0 Z0 ha2 ha3 ha4 ha5 ha6 hcs) hZ (wq hw 66 rfl) (wq hw 10 rfl) (by decide) (by decide)) q2a q2c (g := (mkF m 6 #[sR o0, .unset] [(.int 46), (.ref sn)])) rfl (by rw [hml]; rfl) (Steps.refl _) (argsL := [(.int 46)]) (rest := []) (lenOf pd_9 rfl) rfl (leW rfl) (hb hby d10_6) (fun _ _ => ⟨rfl, e1, (by decide : 0 + 0 ≤ _), (by decide : 0 + 0 ≤ _)⟩)
  dsimp only [Pt.U, Pt.locs, Pt.cells, Pt.slots] at X2 l2 y2 z2 st2 hQ2
  subst l2 y2 z2
  obtain ⟨rfl, N2q, e2⟩ := hQ2
  have N2 := Fr.app N0 N2q
  refine Go.via (fun t k => st2.trans k) ?_
  rw [hld]
  show Go p e below _ (T2.setTop (mkF m 9 #[sR o0, .unset] [(.int (Int32.ofNat hN))]))
  refine Vi (T2.setTop (mkF m 22 #[sR o0, sI (Int32.ofNat hN)] [(.ref o0)])) (fun tZ kZ => ?_) ?_
  · refine XS.istoreN X2.here hx rfl (hb hby d10_9) rfl (l' := #[sR o0, sI (Int32.ofNat hN)]) rfl ?_
    refine XS.iloadN X2.here hx rfl (hb hby d10_10) rfl ?_
    refine XS.ifYes X2.here hx rfl (pc0 := 11) (pc' := 21) rfl (hb hby d10_11) rfl ((if0 _ _).trans (flt hge).2.1) (by decide) (by decide) ?_
    refine XS.aloadN X2.here hx rfl (hb hby d10_21) rfl rfl ?_
    exact kZ
  obtain ⟨T3, X3, e3, st3⟩ := getF X2 hx hZ hown (host := "") (Or.inl (wq hw 53 rfl)) Via.refl e2 ha1 (g := (mkF m 22 #[sR o0, sI (Int32.ofNat hN)] [(.ref o0)])) rfl rfl (hb hby d10_22)
  refine Go.via st3 ?_
  refine Vi (T3.setTop (mkF m 27 #[sR o0, sI (Int32.ofNat hN)] [(.int (Int32.ofNat hN)), (.int 0), (.ref sn)])) (fun tZ kZ => ?_) ?_
  · refine XS.iconst X3.here hx rfl (hb hby d10_25) ?_
    refine XS.iloadN X3.here hx rfl (hb hby d10_26) rfl ?_
    exact kZ
  obtain ⟨cq4, kq4, q4a, q4b, q4c⟩ := isOf hZ e3 ha2
  obtain ⟨_, _, ⟨T4, L4, k4, n4⟩, -, X4, ⟨Lc4, hQ4, l4, y4, z4⟩, st4⟩ := X3.virtualBack hx (y := y24) (z := y24) hown (wz hZ hw 116 rfl) (wz hZ hw 117 rfl) (notFace_of_selects (args := #[]) (wz hZ hw 119 rfl)) (wz hZ hw 119 rfl) (wz hZ hw 118 rfl) (by decide) (backOf (W := 0) (rm24C l Z a0 hw [] sn b0 2 fF cs sv 0 hN h0 n0 Z0 ha2 ha3 ha4 ha5 ha6 ha7 hcs hsv hq0 hq1 hq2 hlo0 hne hk hne2 hz0 hz1 hz2 hz3 hz4 hz5 hfit) hZ (wq hw 120 rfl) (wq hw 10 rfl) (by decide) (by decide)) q4a q4c (g := (mkF m 27 #[sR o0, sI (Int32.ofNat hN)] [(.int (Int32.ofNat hN)), (.int 0), (.ref sn)])) rfl (by rw [hml]; rfl) (Steps.refl _) (argsL := [(.int 0), (.int (Int32.ofNat hN))]) (rest := []) (lenOf pd_19 rfl) rfl (leW rfl) (hb hby d10_27) (fun _ _ => ⟨rfl, e3, (by decide : 0 + 0 + 2 ≤ _), (by decide : 0 + 0 + 8 ≤ _)⟩)
  dsimp only [Pt.U, Pt.locs, Pt.cells, Pt.slots] at X4 l4 y4 z4 st4 hQ4
  subst l4 y4 z4
  obtain ⟨b4_0, b4_1, rfl, N4q, Kq4, hz_b4_0, hz_b4_1, f4_0, f4_1, f4_2, f4_3, f4_4, f4_5, f4_6, f4_7, f4_8, f4_9⟩ := hQ4
  have g_b4_0 : n0 ≤ b4_0 := Nat.le_trans Z0 hz_b4_0
  have sz_b4_0 : h0.size ≤ b4_0 := Nat.le_trans ((Keep.refl h0 [])).1 hz_b4_0
  have ne_o0_b4_0 : o0 ≠ b4_0 := Nat.ne_of_lt (Nat.lt_of_lt_of_le ha0.lt hz_b4_0)
  have ne_sn_b4_0 : sn ≠ b4_0 := Nat.ne_of_lt (Nat.lt_of_lt_of_le ha2.lt hz_b4_0)
  have ne_b0_b4_0 : b0 ≠ b4_0 := Nat.ne_of_lt (Nat.lt_of_lt_of_le ha5.lt hz_b4_0)
  have g_b4_1 : n0 ≤ b4_1 := Nat.le_trans Z0 hz_b4_1
  have sz_b4_1 : h0.size ≤ b4_1 := Nat.le_trans ((Keep.refl h0 [])).1 hz_b4_1
  have ne_o0_b4_1 : o0 ≠ b4_1 := Nat.ne_of_lt (Nat.lt_of_lt_of_le ha0.lt hz_b4_1)
  have ne_sn_b4_1 : sn ≠ b4_1 := Nat.ne_of_lt (Nat.lt_of_lt_of_le ha2.lt hz_b4_1)
  have ne_b0_b4_1 : b0 ≠ b4_1 := Nat.ne_of_lt (Nat.lt_of_lt_of_le ha5.lt hz_b4_1)
  have c5_0 := ha0.keep Kq4
  have c5_1 := ha1.keep Kq4 nin0
  have K4 : Keep h0 T4.heap [] := (Keep.refl h0 []).trans Kq4 all0
  have Z4 := Nat.le_trans Z0 Kq4.1
  have N4 := Fr.app N2 N4q
  refine Go.via (fun t k => st4.trans k) ?_
  refine Go.retR X4 hx Bd.notSynchronized Bd.returns rfl rfl (hb hby d10_30) (by decide) (by decide) ?_
  exact ⟨b4_0, b4_1, rfl, N4, K4, sz_b4_0, sz_b4_1, c5_0, c5_1, f4_0, f4_1, f4_2, f4_3, f4_4, f4_5, f4_6, f4_7, f4_8, f4_9⟩
def Q10n3C (Z : State) (o0 : Addr) (sn : Addr) (b0 : Addr) (fF : Nat → Int32) (cs : Int32) (sv : Value) (hN : Nat) (h0 : Heap) (n0 : Nat) (v : Option Value) (h : Heap) (L : List Loc) : Prop := ∃ b4_0 : Addr, ∃ b4_1 : Addr, v = some (.ref b4_0) ∧ Fr n0 L ∧ Keep h0 h [] ∧ h0.size ≤ b4_0 ∧ h0.size ≤ b4_1 ∧ Exa Z h o0 "com/example/bindery/bindery/compiler/JavaType" ∧ Fld Z h o0 "com/example/bindery/bindery/compiler/JavaType" "name" "Ljava/lang/String;" (.ref sn) ∧ Exa Z h sn "java/lang/String" ∧ Fld Z h sn "java/lang/String" "coder" "B" (.int 0) ∧ Fld Z h sn "java/lang/String" "value" "[B" (.ref b0) ∧ AV Z h b0 .byte 3 (fun k => .int (fF k)) ∧ Sta Z h "java/lang/String" "COMPACT_STRINGS" "Z" (.int cs) ∧ Sta Z h "jdk/internal/util/Preconditions" "SIOOBE_FORMATTER" "Ljava/util/function/BiFunction;" sv ∧ Exa Z h b4_0 "java/lang/String" ∧ Fld Z h b4_0 "java/lang/String" "value" "[B" (.ref b4_1) ∧ Fld Z h b4_0 "java/lang/String" "coder" "B" (.int 0) ∧ AV Z h b4_1 .byte (hN - 0) (fun k => .int ((own_sh fF 0) k))
theorem rm10n3C (l : Launch) (Z : State) (a0 : Array Value) (hw : HW a0 Z) (ws : List Jvm.Cond) (o0 : Addr) (sn : Addr) (b0 : Addr) (fF : Nat → Int32) (cs : Int32) (sv : Value) (hN : Nat) (h0 : Heap) (n0 : Nat) (Z0 : n0 ≤ h0.size) (ha0 : Exa Z h0 o0 "com/example/bindery/bindery/compiler/JavaType") (ha1 : Fld Z h0 o0 "com/example/bindery/bindery/compiler/JavaType" "name" "Ljava/lang/String;" (.ref sn)) (ha2 : Exa Z h0 sn "java/lang/String") (ha3 : Fld Z h0 sn "java/lang/String" "coder" "B" (.int 0)) (ha4 : Fld Z h0 sn "java/lang/String" "value" "[B" (.ref b0)) (ha5 : AV Z h0 b0 .byte 3 (fun k => .int (fF k))) (ha6 : Sta Z h0 "java/lang/String" "COMPACT_STRINGS" "Z" (.int cs)) (ha7 : Sta Z h0 "jdk/internal/util/Preconditions" "SIOOBE_FORMATTER" "Ljava/util/function/BiFunction;" sv) (hcs : ¬ cs = 0) (hsv : sv.isRef = true) (hq0 : ¬ (0 : Int32) < 0) (hq1 : ¬ (Int32.ofNat hN) < (0 : Int32)) (hq2 : ¬ (3 : Int32) < (Int32.ofNat hN)) (hlo0 : (0 : Int32) = (0 : Int32)) (hne : ¬ (Int32.ofNat hN) = (3 : Int32)) (hk : ¬ ((Int32.ofNat hN) - (0 : Int32)) = (0 : Int32)) (hne2 : ¬ ((0 : Int32) + ((Int32.ofNat hN) - (0 : Int32))) = (3 : Int32)) (hz0 : ¬ ((0 : Int32) + ((Int32.ofNat hN) - (0 : Int32))) < (0 : Int32)) (hz1 : ¬ (((0 : Int32) + ((Int32.ofNat hN) - (0 : Int32))) - (0 : Int32)) < 0) (hz2 : (((0 : Int32) + ((Int32.ofNat hN) - (0 : Int32))) - (0 : Int32)).toNatClampNeg ≤ 4) (hz3 : (((0 : Int32) + ((Int32.ofNat hN) - (0 : Int32))) - (0 : Int32)).toNatClampNeg = (hN - 0)) (hz4 : f19 (3 : Int32) (((0 : Int32) + ((Int32.ofNat hN) - (0 : Int32))) - (0 : Int32)) = Int32.ofNat (hN - 0)) (hz5 : 0 + (hN - 0) ≤ 3) (hfit : ∀ k, k < 3 → fits .byte (.int (fF k)) = true) (hld : (f11n3 sn b0 fF cs) = (Int32.ofNat hN)) (hge : ¬ (Int32.ofNat hN) < (0 : Int32)) :
    MetFree l y10 (head1 (Jvm.Cond.code y10 prog_5_method_9_code 2 (some (.object "java/lang/String")) :: ws) RM_5_2_8_102) (fun a U => a = #[(.ref o0)] ∧ Z.Warmed39 U.vm ∧ U.heap = h0) (fun _ _ _ _ _ => True) (fun _ U o U' => ∃ v L, o = .returned v ∧ Q10n3C Z o0 sn b0 fF cs sv hN h0 n0 v U'.heap L ∧ FrameEnd U o U' L RM_5_2_8_102.cells RM_5_2_8_102.slots) := by
  refine MetFree.of_bodySF (plainFor_of_name pn_5) hisR ?_
  intro p e s m args below meth c s₁ Bd hml0 hP hK
  obtain ⟨rfl, hZ, hh⟩ := hP
  have hx := Bd.exec
  have hby := Bd.bytes
  have hml : c.maxLocals = 2 := hml0
  have hown : s.vm.findClass "com/example/bindery/bindery/compiler/JavaType" = some m.cls := findClass_of_methodNamed Bd.named
  have X0 : Stand p l e RM_5_2_8_102 s m _ below meth c s₁ [] 0 0 := Stand.of_body Bd
  have e0 : s₁.heap = h0 := by rw [← hh, Bd.state]; rfl
  have N0 := Fr.nil n0
  refine Go.into (P := fun oo uu => ∃ v L, oo = .returned v ∧ Q10n3C Z o0 sn b0 fF cs sv hN h0 n0 v uu.heap L ∧ FrameEnd s oo uu L RM_5_2_8_102.cells RM_5_2_8_102.slots) (ef_10_a m o0) ?_
  show Go p e below _ (s₁.setTop (mkF m 0 #[sR o0, .unset] []))
  refine Vi (s₁.setTop (mkF m 1 #[sR o0, .unset] [(.ref o0)])) (fun tZ kZ => ?_) ?_
  · refine XS.aloadN X0.here hx rfl (hb hby d10_0) rfl rfl ?_
    exact kZ
  obtain ⟨T1, X1, e1, st1⟩ := getF X0 hx hZ hown (host := "") (Or.inl (wq hw 53 rfl)) Via.refl e0 ha1 (g := (mkF m 1 #[sR o0, .unset] [(.ref o0)])) rfl rfl (hb hby d10_1)
  refine Go.via st1 ?_
  refine Vi (T1.setTop (mkF m 6 #[sR o0, .unset] [(.int 46), (.ref sn)])) (fun tZ kZ => ?_) ?_
  · refine XS.bipush X1.here hx rfl (hb hby d10_4) ?_
    exact kZ
  obtain ⟨cq2, kq2, q2a, q2b, q2c⟩ := isOf hZ e1 ha2
  obtain ⟨_, _, ⟨T2, L2, k2, n2⟩, -, X2, ⟨Lc2, hQ2, l2, y2, z2⟩, st2⟩ := X1.virtualBack hx (y := y11) (z := y11) hown (wz hZ hw 62 rfl) (wz hZ hw 63 rfl) (notFace_of_selects (args := #[]) (wz hZ hw 65 rfl)) (wz hZ hw 65 rfl) (wz hZ hw 64 rfl) (by decide) (backOf (W := 0) (rm11n3 l Z a0 hw [] sn b0 fF cs h0 n0 Z0 ha2 ha3 ha4 ha5 ha6 hcs) hZ (wq hw 66 rfl) (wq hw 10 rfl) (by decide) (by decide)) q2a q2c (g := (mkF m 6 #[sR o0, .unset] [(.int 46), (.ref sn)])) rfl (by rw [hml]; rfl) (Steps.refl _) (argsL := [(.int 46)]) (rest := []) (lenOf pd_9 rfl) rfl (leW rfl) (hb hby d10_6) (fun _ _ => ⟨rfl, e1, (by decide : 0 + 0 ≤ _), (by decide : 0 + 0 ≤ _)⟩)
  dsimp only [Pt.U, Pt.locs, Pt.cells, Pt.slots] at X2 l2 y2 z2 st2 hQ2
  subst l2 y2 z2
  obtain ⟨rfl, N2q, e2⟩ := hQ2
  have N2 := Fr.app N0 N2q
  refine Go.via (fun t k => st2.trans k) ?_
  rw [hld]
  show Go p e below _ (T2.setTop (mkF m 9 #[sR o0, .unset] [(.int (Int32.ofNat hN))]))
  refine Vi (T2.setTop (mkF m 22 #[sR o0, sI (Int32.ofNat hN)] [(.ref o0)])) (fun tZ kZ => ?_) ?_
  · refine XS.istoreN X2.here hx rfl (hb hby d10_9) rfl (l' := #[sR o0, sI (Int32.ofNat hN)]) rfl ?_
    refine XS.iloadN X2.here hx rfl (hb hby d10_10) rfl ?_
    refine XS.ifYes X2.here hx rfl (pc0 := 11) (pc' := 21) rfl (hb hby d10_11) rfl ((if0 _ _).trans (flt hge).2.1) (by decide) (by decide) ?_
    refine XS.aloadN X2.here hx rfl (hb hby d10_21) rfl rfl ?_
    exact kZ
  obtain ⟨T3, X3, e3, st3⟩ := getF X2 hx hZ hown (host := "") (Or.inl (wq hw 53 rfl)) Via.refl e2 ha1 (g := (mkF m 22 #[sR o0, sI (Int32.ofNat hN)] [(.ref o0)])) rfl rfl (hb hby d10_22)
  refine Go.via st3 ?_
  refine Vi (T3.setTop (mkF m 27 #[sR o0, sI (Int32.ofNat hN)] [(.int (Int32.ofNat hN)), (.int 0), (.ref sn)])) (fun tZ kZ => ?_) ?_
  · refine XS.iconst X3.here hx rfl (hb hby d10_25) ?_
    refine XS.iloadN X3.here hx rfl (hb hby d10_26) rfl ?_
    exact kZ
  obtain ⟨cq4, kq4, q4a, q4b, q4c⟩ := isOf hZ e3 ha2
  obtain ⟨_, _, ⟨T4, L4, k4, n4⟩, -, X4, ⟨Lc4, hQ4, l4, y4, z4⟩, st4⟩ := X3.virtualBack hx (y := y24) (z := y24) hown (wz hZ hw 116 rfl) (wz hZ hw 117 rfl) (notFace_of_selects (args := #[]) (wz hZ hw 119 rfl)) (wz hZ hw 119 rfl) (wz hZ hw 118 rfl) (by decide) (backOf (W := 0) (rm24C l Z a0 hw [] sn b0 3 fF cs sv 0 hN h0 n0 Z0 ha2 ha3 ha4 ha5 ha6 ha7 hcs hsv hq0 hq1 hq2 hlo0 hne hk hne2 hz0 hz1 hz2 hz3 hz4 hz5 hfit) hZ (wq hw 120 rfl) (wq hw 10 rfl) (by decide) (by decide)) q4a q4c (g := (mkF m 27 #[sR o0, sI (Int32.ofNat hN)] [(.int (Int32.ofNat hN)), (.int 0), (.ref sn)])) rfl (by rw [hml]; rfl) (Steps.refl _) (argsL := [(.int 0), (.int (Int32.ofNat hN))]) (rest := []) (lenOf pd_19 rfl) rfl (leW rfl) (hb hby d10_27) (fun _ _ => ⟨rfl, e3, (by decide : 0 + 0 + 2 ≤ _), (by decide : 0 + 0 + 8 ≤ _)⟩)
  dsimp only [Pt.U, Pt.locs, Pt.cells, Pt.slots] at X4 l4 y4 z4 st4 hQ4
  subst l4 y4 z4
  obtain ⟨b4_0, b4_1, rfl, N4q, Kq4, hz_b4_0, hz_b4_1, f4_0, f4_1, f4_2, f4_3, f4_4, f4_5, f4_6, f4_7, f4_8, f4_9⟩ := hQ4
  have g_b4_0 : n0 ≤ b4_0 := Nat.le_trans Z0 hz_b4_0
  have sz_b4_0 : h0.size ≤ b4_0 := Nat.le_trans ((Keep.refl h0 [])).1 hz_b4_0
  have ne_o0_b4_0 : o0 ≠ b4_0 := Nat.ne_of_lt (Nat.lt_of_lt_of_le ha0.lt hz_b4_0)
  have ne_sn_b4_0 : sn ≠ b4_0 := Nat.ne_of_lt (Nat.lt_of_lt_of_le ha2.lt hz_b4_0)
  have ne_b0_b4_0 : b0 ≠ b4_0 := Nat.ne_of_lt (Nat.lt_of_lt_of_le ha5.lt hz_b4_0)
  have g_b4_1 : n0 ≤ b4_1 := Nat.le_trans Z0 hz_b4_1
  have sz_b4_1 : h0.size ≤ b4_1 := Nat.le_trans ((Keep.refl h0 [])).1 hz_b4_1
  have ne_o0_b4_1 : o0 ≠ b4_1 := Nat.ne_of_lt (Nat.lt_of_lt_of_le ha0.lt hz_b4_1)
  have ne_sn_b4_1 : sn ≠ b4_1 := Nat.ne_of_lt (Nat.lt_of_lt_of_le ha2.lt hz_b4_1)
  have ne_b0_b4_1 : b0 ≠ b4_1 := Nat.ne_of_lt (Nat.lt_of_lt_of_le ha5.lt hz_b4_1)
  have c5_0 := ha0.keep Kq4
  have c5_1 := ha1.keep Kq4 nin0
  have K4 : Keep h0 T4.heap [] := (Keep.refl h0 []).trans Kq4 all0
  have Z4 := Nat.le_trans Z0 Kq4.1
  have N4 := Fr.app N2 N4q
  refine Go.via (fun t k => st4.trans k) ?_
  refine Go.retR X4 hx Bd.notSynchronized Bd.returns rfl rfl (hb hby d10_30) (by decide) (by decide) ?_
  exact ⟨b4_0, b4_1, rfl, N4, K4, sz_b4_0, sz_b4_1, c5_0, c5_1, f4_0, f4_1, f4_2, f4_3, f4_4, f4_5, f4_6, f4_7, f4_8, f4_9⟩
def Q10n4C (Z : State) (o0 : Addr) (sn : Addr) (b0 : Addr) (fF : Nat → Int32) (cs : Int32) (sv : Value) (hN : Nat) (h0 : Heap) (n0 : Nat) (v : Option Value) (h : Heap) (L : List Loc) : Prop := ∃ b4_0 : Addr, ∃ b4_1 : Addr, v = some (.ref b4_0) ∧ Fr n0 L ∧ Keep h0 h [] ∧ h0.size ≤ b4_0 ∧ h0.size ≤ b4_1 ∧ Exa Z h o0 "com/example/bindery/bindery/compiler/JavaType" ∧ Fld Z h o0 "com/example/bindery/bindery/compiler/JavaType" "name" "Ljava/lang/String;" (.ref sn) ∧ Exa Z h sn "java/lang/String" ∧ Fld Z h sn "java/lang/String" "coder" "B" (.int 0) ∧ Fld Z h sn "java/lang/String" "value" "[B" (.ref b0) ∧ AV Z h b0 .byte 4 (fun k => .int (fF k)) ∧ Sta Z h "java/lang/String" "COMPACT_STRINGS" "Z" (.int cs) ∧ Sta Z h "jdk/internal/util/Preconditions" "SIOOBE_FORMATTER" "Ljava/util/function/BiFunction;" sv ∧ Exa Z h b4_0 "java/lang/String" ∧ Fld Z h b4_0 "java/lang/String" "value" "[B" (.ref b4_1) ∧ Fld Z h b4_0 "java/lang/String" "coder" "B" (.int 0) ∧ AV Z h b4_1 .byte (hN - 0) (fun k => .int ((own_sh fF 0) k))
theorem rm10n4C (l : Launch) (Z : State) (a0 : Array Value) (hw : HW a0 Z) (ws : List Jvm.Cond) (o0 : Addr) (sn : Addr) (b0 : Addr) (fF : Nat → Int32) (cs : Int32) (sv : Value) (hN : Nat) (h0 : Heap) (n0 : Nat) (Z0 : n0 ≤ h0.size) (ha0 : Exa Z h0 o0 "com/example/bindery/bindery/compiler/JavaType") (ha1 : Fld Z h0 o0 "com/example/bindery/bindery/compiler/JavaType" "name" "Ljava/lang/String;" (.ref sn)) (ha2 : Exa Z h0 sn "java/lang/String") (ha3 : Fld Z h0 sn "java/lang/String" "coder" "B" (.int 0)) (ha4 : Fld Z h0 sn "java/lang/String" "value" "[B" (.ref b0)) (ha5 : AV Z h0 b0 .byte 4 (fun k => .int (fF k))) (ha6 : Sta Z h0 "java/lang/String" "COMPACT_STRINGS" "Z" (.int cs)) (ha7 : Sta Z h0 "jdk/internal/util/Preconditions" "SIOOBE_FORMATTER" "Ljava/util/function/BiFunction;" sv) (hcs : ¬ cs = 0) (hsv : sv.isRef = true) (hq0 : ¬ (0 : Int32) < 0) (hq1 : ¬ (Int32.ofNat hN) < (0 : Int32)) (hq2 : ¬ (4 : Int32) < (Int32.ofNat hN)) (hlo0 : (0 : Int32) = (0 : Int32)) (hne : ¬ (Int32.ofNat hN) = (4 : Int32)) (hk : ¬ ((Int32.ofNat hN) - (0 : Int32)) = (0 : Int32)) (hne2 : ¬ ((0 : Int32) + ((Int32.ofNat hN) - (0 : Int32))) = (4 : Int32)) (hz0 : ¬ ((0 : Int32) + ((Int32.ofNat hN) - (0 : Int32))) < (0 : Int32)) (hz1 : ¬ (((0 : Int32) + ((Int32.ofNat hN) - (0 : Int32))) - (0 : Int32)) < 0) (hz2 : (((0 : Int32) + ((Int32.ofNat hN) - (0 : Int32))) - (0 : Int32)).toNatClampNeg ≤ 4) (hz3 : (((0 : Int32) + ((Int32.ofNat hN) - (0 : Int32))) - (0 : Int32)).toNatClampNeg = (hN - 0)) (hz4 : f19 (4 : Int32) (((0 : Int32) + ((Int32.ofNat hN) - (0 : Int32))) - (0 : Int32)) = Int32.ofNat (hN - 0)) (hz5 : 0 + (hN - 0) ≤ 4) (hfit : ∀ k, k < 4 → fits .byte (.int (fF k)) = true) (hld : (f11n4 sn b0 fF cs) = (Int32.ofNat hN)) (hge : ¬ (Int32.ofNat hN) < (0 : Int32)) :
    MetFree l y10 (head1 (Jvm.Cond.code y10 prog_5_method_9_code 2 (some (.object "java/lang/String")) :: ws) RM_5_2_8_102) (fun a U => a = #[(.ref o0)] ∧ Z.Warmed39 U.vm ∧ U.heap = h0) (fun _ _ _ _ _ => True) (fun _ U o U' => ∃ v L, o = .returned v ∧ Q10n4C Z o0 sn b0 fF cs sv hN h0 n0 v U'.heap L ∧ FrameEnd U o U' L RM_5_2_8_102.cells RM_5_2_8_102.slots) := by
  refine MetFree.of_bodySF (plainFor_of_name pn_5) hisR ?_
  intro p e s m args below meth c s₁ Bd hml0 hP hK
  obtain ⟨rfl, hZ, hh⟩ := hP
  have hx := Bd.exec
  have hby := Bd.bytes
  have hml : c.maxLocals = 2 := hml0
  have hown : s.vm.findClass "com/example/bindery/bindery/compiler/JavaType" = some m.cls := findClass_of_methodNamed Bd.named
  have X0 : Stand p l e RM_5_2_8_102 s m _ below meth c s₁ [] 0 0 := Stand.of_body Bd
  have e0 : s₁.heap = h0 := by rw [← hh, Bd.state]; rfl
  have N0 := Fr.nil n0
  refine Go.into (P := fun oo uu => ∃ v L, oo = .returned v ∧ Q10n4C Z o0 sn b0 fF cs sv hN h0 n0 v uu.heap L ∧ FrameEnd s oo uu L RM_5_2_8_102.cells RM_5_2_8_102.slots) (ef_10_a m o0) ?_
  show Go p e below _ (s₁.setTop (mkF m 0 #[sR o0, .unset] []))
  refine Vi (s₁.setTop (mkF m 1 #[sR o0, .unset] [(.ref o0)])) (fun tZ kZ => ?_) ?_
  · refine XS.aloadN X0.here hx rfl (hb hby d10_0) rfl rfl ?_
    exact kZ
  obtain ⟨T1, X1, e1, st1⟩ := getF X0 hx hZ hown (host := "") (Or.inl (wq hw 53 rfl)) Via.refl e0 ha1 (g := (mkF m 1 #[sR o0, .unset] [(.ref o0)])) rfl rfl (hb hby d10_1)
  refine Go.via st1 ?_
  refine Vi (T1.setTop (mkF m 6 #[sR o0, .unset] [(.int 46), (.ref sn)])) (fun tZ kZ => ?_) ?_
  · refine XS.bipush X1.here hx rfl (hb hby d10_4) ?_
    exact kZ
  obtain ⟨cq2, kq2, q2a, q2b, q2c⟩ := isOf hZ e1 ha2
  obtain ⟨_, _, ⟨T2, L2, k2, n2⟩, -, X2, ⟨Lc2, hQ2, l2, y2, z2⟩, st2⟩ := X1.virtualBack hx (y := y11) (z := y11) hown (wz hZ hw 62 rfl) (wz hZ hw 63 rfl) (notFace_of_selects (args := #[]) (wz hZ hw 65 rfl)) (wz hZ hw 65 rfl) (wz hZ hw 64 rfl) (by decide) (backOf (W := 0) (rm11n4 l Z a0 hw [] sn b0 fF cs h0 n0 Z0 ha2 ha3 ha4 ha5 ha6 hcs) hZ (wq hw 66 rfl) (wq hw 10 rfl) (by decide) (by decide)) q2a q2c (g := (mkF m 6 #[sR o0, .unset] [(.int 46), (.ref sn)])) rfl (by rw [hml]; rfl) (Steps.refl _) (argsL := [(.int 46)]) (rest := []) (lenOf pd_9 rfl) rfl (leW rfl) (hb hby d10_6) (fun _ _ => ⟨rfl, e1, (by decide : 0 + 0 ≤ _), (by decide : 0 + 0 ≤ _)⟩)
  dsimp only [Pt.U, Pt.locs, Pt.cells, Pt.slots] at X2 l2 y2 z2 st2 hQ2
  subst l2 y2 z2
  obtain ⟨rfl, N2q, e2⟩ := hQ2
  have N2 := Fr.app N0 N2q
  refine Go.via (fun t k => st2.trans k) ?_
  rw [hld]
  show Go p e below _ (T2.setTop (mkF m 9 #[sR o0, .unset] [(.int (Int32.ofNat hN))]))
  refine Vi (T2.setTop (mkF m 22 #[sR o0, sI (Int32.ofNat hN)] [(.ref o0)])) (fun tZ kZ => ?_) ?_
  · refine XS.istoreN X2.here hx rfl (hb hby d10_9) rfl (l' := #[sR o0, sI (Int32.ofNat hN)]) rfl ?_
    refine XS.iloadN X2.here hx rfl (hb hby d10_10) rfl ?_
    refine XS.ifYes X2.here hx rfl (pc0 := 11) (pc' := 21) rfl (hb hby d10_11) rfl ((if0 _ _).trans (flt hge).2.1) (by decide) (by decide) ?_
    refine XS.aloadN X2.here hx rfl (hb hby d10_21) rfl rfl ?_
    exact kZ
  obtain ⟨T3, X3, e3, st3⟩ := getF X2 hx hZ hown (host := "") (Or.inl (wq hw 53 rfl)) Via.refl e2 ha1 (g := (mkF m 22 #[sR o0, sI (Int32.ofNat hN)] [(.ref o0)])) rfl rfl (hb hby d10_22)
  refine Go.via st3 ?_
  refine Vi (T3.setTop (mkF m 27 #[sR o0, sI (Int32.ofNat hN)] [(.int (Int32.ofNat hN)), (.int 0), (.ref sn)])) (fun tZ kZ => ?_) ?_
  · refine XS.iconst X3.here hx rfl (hb hby d10_25) ?_
    refine XS.iloadN X3.here hx rfl (hb hby d10_26) rfl ?_
    exact kZ
  obtain ⟨cq4, kq4, q4a, q4b, q4c⟩ := isOf hZ e3 ha2
  obtain ⟨_, _, ⟨T4, L4, k4, n4⟩, -, X4, ⟨Lc4, hQ4, l4, y4, z4⟩, st4⟩ := X3.virtualBack hx (y := y24) (z := y24) hown (wz hZ hw 116 rfl) (wz hZ hw 117 rfl) (notFace_of_selects (args := #[]) (wz hZ hw 119 rfl)) (wz hZ hw 119 rfl) (wz hZ hw 118 rfl) (by decide) (backOf (W := 0) (rm24C l Z a0 hw [] sn b0 4 fF cs sv 0 hN h0 n0 Z0 ha2 ha3 ha4 ha5 ha6 ha7 hcs hsv hq0 hq1 hq2 hlo0 hne hk hne2 hz0 hz1 hz2 hz3 hz4 hz5 hfit) hZ (wq hw 120 rfl) (wq hw 10 rfl) (by decide) (by decide)) q4a q4c (g := (mkF m 27 #[sR o0, sI (Int32.ofNat hN)] [(.int (Int32.ofNat hN)), (.int 0), (.ref sn)])) rfl (by rw [hml]; rfl) (Steps.refl _) (argsL := [(.int 0), (.int (Int32.ofNat hN))]) (rest := []) (lenOf pd_19 rfl) rfl (leW rfl) (hb hby d10_27) (fun _ _ => ⟨rfl, e3, (by decide : 0 + 0 + 2 ≤ _), (by decide : 0 + 0 + 8 ≤ _)⟩)
  dsimp only [Pt.U, Pt.locs, Pt.cells, Pt.slots] at X4 l4 y4 z4 st4 hQ4
  subst l4 y4 z4
  obtain ⟨b4_0, b4_1, rfl, N4q, Kq4, hz_b4_0, hz_b4_1, f4_0, f4_1, f4_2, f4_3, f4_4, f4_5, f4_6, f4_7, f4_8, f4_9⟩ := hQ4
  have g_b4_0 : n0 ≤ b4_0 := Nat.le_trans Z0 hz_b4_0
  have sz_b4_0 : h0.size ≤ b4_0 := Nat.le_trans ((Keep.refl h0 [])).1 hz_b4_0
  have ne_o0_b4_0 : o0 ≠ b4_0 := Nat.ne_of_lt (Nat.lt_of_lt_of_le ha0.lt hz_b4_0)
  have ne_sn_b4_0 : sn ≠ b4_0 := Nat.ne_of_lt (Nat.lt_of_lt_of_le ha2.lt hz_b4_0)
  have ne_b0_b4_0 : b0 ≠ b4_0 := Nat.ne_of_lt (Nat.lt_of_lt_of_le ha5.lt hz_b4_0)
  have g_b4_1 : n0 ≤ b4_1 := Nat.le_trans Z0 hz_b4_1
  have sz_b4_1 : h0.size ≤ b4_1 := Nat.le_trans ((Keep.refl h0 [])).1 hz_b4_1
  have ne_o0_b4_1 : o0 ≠ b4_1 := Nat.ne_of_lt (Nat.lt_of_lt_of_le ha0.lt hz_b4_1)
  have ne_sn_b4_1 : sn ≠ b4_1 := Nat.ne_of_lt (Nat.lt_of_lt_of_le ha2.lt hz_b4_1)
  have ne_b0_b4_1 : b0 ≠ b4_1 := Nat.ne_of_lt (Nat.lt_of_lt_of_le ha5.lt hz_b4_1)
  have c5_0 := ha0.keep Kq4
  have c5_1 := ha1.keep Kq4 nin0
  have K4 : Keep h0 T4.heap [] := (Keep.refl h0 []).trans Kq4 all0
  have Z4 := Nat.le_trans Z0 Kq4.1
  have N4 := Fr.app N2 N4q
  refine Go.via (fun t k => st4.trans k) ?_
  refine Go.retR X4 hx Bd.notSynchronized Bd.returns rfl rfl (hb hby d10_30) (by decide) (by decide) ?_
  exact ⟨b4_0, b4_1, rfl, N4, K4, sz_b4_0, sz_b4_1, c5_0, c5_1, f4_0, f4_1, f4_2, f4_3, f4_4, f4_5, f4_6, f4_7, f4_8, f4_9⟩
def Com (l : Launch) (Z : State) (a0 : Array Value) (p : Program) (e : Env) (s : State) (m : MethodId) (args : Array Value) (below : List Frame) (meth : Method) (c : Code) (T0 : State) (locs0 : List Loc) (vmT : Vm) (cl : Nat) (sl : Nat) (h0 : Heap) (n0 : Nat) (kT : Nat) (x0 : Int32) (x1 : Int32) (x2 : Int32) (x3 : Int32) (cs : Int32) (sv : Value) (em : Addr) : Prop := Stand p l e room_1 (s.setVm vmT) m args below meth c T0 locs0 cl sl ∧ p.tables.exec = Jvm.exec ∧ c.code = code ∧ c.maxLocals = 16 ∧ meth.locks = false ∧ meth.sig.returnType = some .boolean ∧ Z.Warmed39 (s.setVm vmT).vm ∧ (s.setVm vmT).vm.findClass "com/example/bindery/bindery/compiler/JavaTypeOuterNamePinLaw" = some m.cls ∧ (∀ a ∈ Bundle.stringAtoms, a.before a0 Z = true) ∧ n0 ≤ h0.size ∧ T0.heap = h0 ∧ Fr n0 locs0 ∧ s.Since vmT kT ∧ kT ≤ h0.size ∧ CHv Z own_EL vmT h0 ∧ own_ch x0 ∧ own_ch x1 ∧ own_ch x2 ∧ own_ch x3 ∧ ¬ cs = 0 ∧ sv.isRef = true ∧ Sta Z Z.heap "java/lang/String" "COMPACT_STRINGS" "Z" (.int cs) ∧ Sta Z Z.heap "jdk/internal/util/Preconditions" "SIOOBE_FORMATTER" "Ljava/util/function/BiFunction;" sv ∧ Sta Z Z.heap "java/util/Optional" "EMPTY" "Ljava/util/Optional;" (.ref em) ∧ Old Z n0 h0
abbrev own_p (p0 p1 p2 p3 p4 p5 : Int32) : Nat → Int32 := fun k => [p0, p1, p2, p3, p4, p5].getD k 0
abbrev LQ (pF : Nat → Int32) (nI x0 x1 x2 x3 : Int32) (nA pk : Addr) (r : List Slot) : Array Slot := (sI (pF 0) :: sI (pF 1) :: sI (pF 2) :: sI (pF 3) :: sI (pF 4) :: sI (pF 5) :: sI nI :: sI x0 :: sI x1 :: sI x2 :: sI x3 :: sR nA :: sR pk :: r).toArray
def Q0 (n0 : Nat) (v : Option Value) (h : Heap) (L : List Loc) : Prop := v = some (.int 1) ∧ Fr n0 L
theorem pd_5 : parseMethodDescriptor "(Ljava/lang/String;Ljava/lang/String;)V" = some ⟨[(.object "java/lang/String"), (.object "java/lang/String")], none⟩ := by decide +kernel
theorem pd_8 : parseMethodDescriptor "()Ljava/lang/String;" = some ⟨[], some (.object "java/lang/String")⟩ := by decide +kernel
theorem tail_0_0 (l : Launch) (Z : State) (a0 : Array Value) (hw : HW a0 Z) {p : Program} {e : Env} {s : State} {m : MethodId} {args : Array Value} {below : List Frame} {meth : Method} {c : Code} {T0 : State} {locs0 : List Loc} {vmT : Vm} {h0 : Heap} {n0 kT : Nat} {x0 x1 x2 x3 cs : Int32} {sv : Value} {em : Addr} (hC : Com l Z a0 p e s m args below meth c T0 locs0 vmT 8 208 h0 n0 kT x0 x1 x2 x3 cs sv em) (pF : Nat → Int32) (nA bA pk : Addr) (fF : Nat → Int32) (hfit : ∀ k, k < 0 → fits .byte (.int (fF k)) = true)  (E_n : Exa Z h0 nA "java/lang/String") (F_c : Fld Z h0 nA "java/lang/String" "coder" "B" (.int 0)) (F_v : Fld Z h0 nA "java/lang/String" "value" "[B" (.ref bA)) (V_b : AV Z h0 bA .byte 0 (fun k => .int (fF k)))  :
    Go p e below (fun o u => ∃ v L, o = .returned v ∧ Q0 n0 v u.heap L ∧ ReturnedEndW s o u L 32 4224) (T0.setTop (mkF m 78 (LQ pF 0 x0 x1 x2 x3 nA pk [.unset, .unset, .unset]) [])) := by
  obtain ⟨X0, hx, hby, hml, hlk, hret, hZ, hown, wS, Z0, e0, N0, hST, hkT, hCH, hx0, hx1, hx2, hx3, hcs, hsv, S_CS, S_SV, S_EM, hold⟩ := hC
  obtain ⟨T1, h1, X1, e1, E1, A1, D1, -, st1⟩ := newO X0 hx hZ hown (wq hw 31 rfl) (wq hw 32 rfl) (wq hw 33 rfl) e0 (g := (mkF m 78 (LQ pF 0 x0 x1 x2 x3 nA pk [.unset, .unset, .unset]) [])) rfl (hb hby at_78) (by decide) (by decide)
  obtain ⟨b1, g1⟩ : ∃ z, z = h0.size := ⟨_, rfl⟩
  rw [← g1] at A1 D1 st1
  have g_b1 : n0 ≤ b1 := Nat.le_trans Z0 (Nat.le_of_eq g1.symm)
  have sz_b1 : h0.size ≤ b1 := Nat.le_trans ((Keep.refl h0 [])).1 (Nat.le_of_eq g1.symm)
  have ne_nA_b1 : nA ≠ b1 := Nat.ne_of_lt (Nat.lt_of_lt_of_le E_n.lt (Nat.le_of_eq g1.symm))
  have ne_bA_b1 : bA ≠ b1 := Nat.ne_of_lt (Nat.lt_of_lt_of_le V_b.lt (Nat.le_of_eq g1.symm))
  have Ac2 := CHr.ext E1 hCH
  have CR2c := CHr.trans (CHr.refl hCH) Ac2
  have c3_0 := hold.ext E1
  have c3_1 := S_CS.ext c3_0.2
  have c3_2 := S_SV.ext c3_0.2
  have c3_3 := S_EM.ext c3_0.2
  have c3_4 := E_n.ext E1
  have c3_5 := F_c.ext E1
  have c3_6 := F_v.ext E1
  have c3_7 := V_b.ext E1
  have K1 : Keep h0 h1 [] := (Keep.refl h0 []).ext E1
  have Z1 := Nat.le_trans Z0 E1.1
  have hk1 := Nat.le_trans hkT E1.1
  have Sf_b1 := Safe.ext E1 hCH (Safe.new (Nat.le_of_eq g1.symm))
  have F1_packageName : Fld Z h1 b1 "com/example/bindery/bindery/compiler/JavaType" "packageName" "Ljava/lang/String;" .null := D1 (Or.inr (wq hw 52 rfl)) (ty := (.object "java/lang/String")) (by decide)
  have F1_name : Fld Z h1 b1 "com/example/bindery/bindery/compiler/JavaType" "name" "Ljava/lang/String;" .null := D1 (Or.inr (wq hw 54 rfl)) (ty := (.object "java/lang/String")) (by decide)
  have F1_argument : Fld Z h1 b1 "com/example/bindery/bindery/compiler/JavaType" "argument" "Ljava/util/Optional;" .null := D1 (Or.inr (wq hw 56 rfl)) (ty := (.object "java/util/Optional")) (by decide)
  refine Go.via st1 ?_
  refine Vi (T1.setTop (mkF m 86 (LQ pF 0 x0 x1 x2 x3 nA pk [.unset, .unset, .unset]) [(.ref nA), (.ref pk), (.ref b1), (.ref b1)])) (fun tZ kZ => ?_) ?_
  · refine XS.dup X1.here hx rfl (hb hby at_81) rfl rfl ?_
    refine XS.aload X1.here hx rfl (hb hby at_82) rfl rfl ?_
    refine XS.aload X1.here hx rfl (hb hby at_84) rfl rfl ?_
    exact kZ
  obtain ⟨_, _, ⟨T4, L4, k4, n4⟩, -, X4, ⟨Lc4, hQ4, l4, y4, z4⟩, st4⟩ := X1.specialBack hx (y := y6) rfl hown (wz hZ hw 34 rfl) (wz hZ hw 35 rfl) (wz hZ hw 36 rfl) (by decide) (backOf (W := 1) (rm6 l Z a0 hw [] b1 pk nA em h1 n0 Z1 A1 F1_packageName F1_name F1_argument g_b1 c3_3) hZ (wq hw 36 rfl) (wq hw 33 rfl) (by decide) (by decide)) (g := (mkF m 86 (LQ pF 0 x0 x1 x2 x3 nA pk [.unset, .unset, .unset]) [(.ref nA), (.ref pk), (.ref b1), (.ref b1)])) rfl (by rw [hml]; rfl) (Steps.refl _) (a := b1) (argsL := [(.ref pk), (.ref nA)]) (rest := [(.ref b1)]) (lenOf pd_5 rfl) rfl (leW rfl) (hb hby at_86) (fun _ _ => ⟨rfl, e1, (by decide : 8 + 1 + 0 ≤ _), (by decide : 208 + 3 + 0 ≤ _)⟩)
  dsimp only [Pt.U, Pt.locs, Pt.cells, Pt.slots] at X4 l4 y4 z4 st4 hQ4
  subst l4 y4 z4
  obtain ⟨rfl, N4q, Kq4, f4_0, f4_1, f4_2, f4_3, f4_4⟩ := hQ4
  have Ac5 := CHr.keep Kq4 (allS Sf_b1 all0) Ac2.1
  have Sf5_0 := Ac5.safe A1.lt Sf_b1
  have CR5c := CHr.trans CR2c Ac5
  have c6_0 := c3_0.keep Kq4 (allS g_b1 all0)
  have c6_1 := S_CS.ext c6_0.2
  have c6_2 := S_SV.ext c6_0.2
  have c6_4 := c3_4.keep Kq4
  have c6_5 := c3_5.keep Kq4 (ninS ne_nA_b1 nin0)
  have c6_6 := c3_6.keep Kq4 (ninS ne_nA_b1 nin0)
  have c6_7 := c3_7.keep Kq4 (ninS ne_bA_b1 nin0)
  have K4 : Keep h0 T4.heap [] := K1.trans Kq4 (allS (Or.inr sz_b1) all0)
  have Z4 := Nat.le_trans Z1 Kq4.1
  have hk4 := Nat.le_trans hk1 Kq4.1
  have N4 := Fr.app N0 N4q
  refine Go.via (fun t k => st4.trans k) ?_
  refine Vi (T4.setTop (mkF m 93 (LQ pF 0 x0 x1 x2 x3 nA pk [sR b1, .unset, .unset]) [(.ref b1)])) (fun tZ kZ => ?_) ?_
  · refine XS.astore X4.here hx rfl (hb hby at_89) rfl rfl (l' := (LQ pF 0 x0 x1 x2 x3 nA pk [sR b1, .unset, .unset])) rfl ?_
    refine XS.aload X4.here hx rfl (hb hby at_91) rfl rfl ?_
    exact kZ
  obtain ⟨cq7, kq7, q7a, q7b, q7c⟩ := isOf hZ rfl f4_0
  obtain ⟨_, _, ⟨T7, L7, k7, n7⟩, -, X7, ⟨Lc7, hQ7, l7, y7, z7⟩, st7⟩ := X4.virtualBack hx (y := y10) (z := y10) hown (wz hZ hw 57 rfl) (wz hZ hw 58 rfl) (notFace_of_selects (args := #[]) (wz hZ hw 60 rfl)) (wz hZ hw 60 rfl) (wz hZ hw 59 rfl) (by decide) (backOf (W := 0) (rm10n0A l Z a0 hw [] b1 nA bA fF cs sv T4.heap n0 Z4 f4_0 f4_2 c6_4 c6_5 c6_6 c6_7 c6_1 c6_2 hcs hsv (own_l0_0 _ _ _ _ )) hZ (wq hw 61 rfl) (wq hw 33 rfl) (by decide) (by decide)) q7a q7c (g := (mkF m 93 (LQ pF 0 x0 x1 x2 x3 nA pk [sR b1, .unset, .unset]) [(.ref b1)])) rfl (by rw [hml]; rfl) (Steps.refl _) (argsL := []) (rest := []) (lenOf pd_8 rfl) rfl (leW rfl) (hb hby at_93) (fun _ _ => ⟨rfl, rfl, (by decide : 8 + 1 + 0 + 0 ≤ _), (by decide : 208 + 3 + 0 + 0 ≤ _)⟩)
  dsimp only [Pt.U, Pt.locs, Pt.cells, Pt.slots] at X7 l7 y7 z7 st7 hQ7
  subst l7 y7 z7
  obtain ⟨rfl, N7q, e7⟩ := hQ7
  have N7 := Fr.app N4 N7q
  refine Go.via (fun t k => st7.trans k) ?_
  refine Vi (T7.setTop (mkF m 167 (LQ pF 0 x0 x1 x2 x3 nA pk [sR b1, sR nA, sI 0]) [(.ref nA)])) (fun tZ kZ => ?_) ?_
  · refine XS.astore X7.here hx rfl (hb hby at_96) rfl rfl (l' := (LQ pF 0 x0 x1 x2 x3 nA pk [sR b1, sR nA, .unset])) rfl ?_
    refine XS.iload X7.here hx rfl (hb hby at_98) rfl ?_
    refine XS.istore X7.here hx rfl (hb hby at_100) rfl (l' := (LQ pF 0 x0 x1 x2 x3 nA pk [sR b1, sR nA, sI 0])) rfl ?_
    refine XS.iload X7.here hx rfl (hb hby at_102) rfl ?_
    refine XS.iconst X7.here hx rfl (hb hby at_104) ?_
    refine XS.icmpYes X7.here hx rfl (pc0 := 105) (pc' := 118) rfl (hb hby at_105) rfl (flt (by decide)).2.2.2 (by decide) (by decide) ?_
    refine XS.iload X7.here hx rfl (hb hby at_118) rfl ?_
    refine XS.iconst X7.here hx rfl (hb hby at_120) ?_
    refine XS.icmpYes X7.here hx rfl (pc0 := 121) (pc' := 134) rfl (hb hby at_121) rfl (flt (by decide)).2.2.2 (by decide) (by decide) ?_
    refine XS.iload X7.here hx rfl (hb hby at_134) rfl ?_
    refine XS.iconst X7.here hx rfl (hb hby at_136) ?_
    refine XS.icmpYes X7.here hx rfl (pc0 := 137) (pc' := 150) rfl (hb hby at_137) rfl (flt (by decide)).2.2.2 (by decide) (by decide) ?_
    refine XS.iload X7.here hx rfl (hb hby at_150) rfl ?_
    refine XS.ifYes X7.here hx rfl (pc0 := 152) (pc' := 165) rfl (hb hby at_152) rfl ((if0 _ _).trans (flt (by decide)).2.2.2) (by decide) (by decide) ?_
    refine XS.aload X7.here hx rfl (hb hby at_165) rfl rfl ?_
    exact kZ
  obtain ⟨cq8, kq8, q8a, q8b, q8c⟩ := isOf hZ e7 c6_4
  obtain ⟨_, _, ⟨T8, L8, k8, n8⟩, -, X8, ⟨Lc8, hQ8, l8, y8, z8⟩, st8⟩ := X7.virtualBack hx (y := y14) (z := y14) hown (wz hZ hw 102 rfl) (wz hZ hw 79 rfl) (notFace_of_selects (args := #[]) (wz hZ hw 81 rfl)) (wz hZ hw 81 rfl) (wz hZ hw 80 rfl) (by decide) (backOf (W := 0) (rm14 l Z a0 hw [] nA bA 0 fF cs T4.heap n0 Z4 c6_4 c6_5 c6_6 c6_7 c6_1 hcs) hZ (wq hw 82 rfl) (wq hw 10 rfl) (by decide) (by decide)) q8a q8c (g := (mkF m 167 (LQ pF 0 x0 x1 x2 x3 nA pk [sR b1, sR nA, sI 0]) [(.ref nA)])) rfl (by rw [hml]; rfl) (Steps.refl _) (argsL := []) (rest := []) (lenOf pd_12 rfl) rfl (leW rfl) (hb hby at_167) (fun _ _ => ⟨rfl, e7, (by decide : 8 + 1 + 0 + 0 + 0 ≤ _), (by decide : 208 + 3 + 0 + 0 + 0 ≤ _)⟩)
  dsimp only [Pt.U, Pt.locs, Pt.cells, Pt.slots] at X8 l8 y8 z8 st8 hQ8
  subst l8 y8 z8
  obtain ⟨rfl, N8q, e8⟩ := hQ8
  have hv8 : (f14 nA bA 0 fF cs) = (Int32.ofNat 0) := by unfold f14; exact own_sh0 _
  rw [hv8] at st8
  have N8 := Fr.app N7 N8q
  refine Go.via (fun t k => st8.trans k) ?_
  refine Vi (T8.setTop (mkF m 253 (LQ pF 0 x0 x1 x2 x3 nA pk [sR b1, sR nA, sI 0]) [(.int 1)])) (fun tZ kZ => ?_) ?_
  · refine XS.iload X8.here hx rfl (hb hby at_170) rfl ?_
    refine XS.icmpYes X8.here hx rfl (pc0 := 172) (pc' := 177) rfl (hb hby at_172) rfl (teq (by decide)).1 (by decide) (by decide) ?_
    refine XS.iload X8.here hx rfl (hb hby at_177) rfl ?_
    refine XS.ifYes X8.here hx rfl (pc0 := 179) (pc' := 195) rfl (hb hby at_179) rfl ((if0 _ _).trans (flt (by decide)).2.2.2) (by decide) (by decide) ?_
    refine XS.iload X8.here hx rfl (hb hby at_195) rfl ?_
    refine XS.iconst X8.here hx rfl (hb hby at_197) ?_
    refine XS.icmpYes X8.here hx rfl (pc0 := 198) (pc' := 214) rfl (hb hby at_198) rfl (flt (by decide)).2.2.2 (by decide) (by decide) ?_
    refine XS.iload X8.here hx rfl (hb hby at_214) rfl ?_
    refine XS.iconst X8.here hx rfl (hb hby at_216) ?_
    refine XS.icmpYes X8.here hx rfl (pc0 := 217) (pc' := 233) rfl (hb hby at_217) rfl (flt (by decide)).2.2.2 (by decide) (by decide) ?_
    refine XS.iload X8.here hx rfl (hb hby at_233) rfl ?_
    refine XS.iconst X8.here hx rfl (hb hby at_235) ?_
    refine XS.icmpYes X8.here hx rfl (pc0 := 236) (pc' := 252) rfl (hb hby at_236) rfl (flt (by decide)).2.2.2 (by decide) (by decide) ?_
    refine XS.iconst X8.here hx rfl (hb hby at_252) ?_
    exact kZ
  refine Go.retNW (s := s) (vm₁ := vmT) X8 hx hST (by rw [e8]; exact hk4) hlk (t := .boolean) hret (by simp) (hb hby at_253) (by decide) (by decide) ?_
  exact ⟨rfl, N8⟩
theorem pd_27 : parseMethodDescriptor "(I)C" = some ⟨[.int], some .char⟩ := by decide +kernel
theorem tail_1_0 (l : Launch) (Z : State) (a0 : Array Value) (hw : HW a0 Z) {p : Program} {e : Env} {s : State} {m : MethodId} {args : Array Value} {below : List Frame} {meth : Method} {c : Code} {T0 : State} {locs0 : List Loc} {vmT : Vm} {h0 : Heap} {n0 kT : Nat} {x0 x1 x2 x3 cs : Int32} {sv : Value} {em : Addr} (hC : Com l Z a0 p e s m args below meth c T0 locs0 vmT 5 74 h0 n0 kT x0 x1 x2 x3 cs sv em) (pF : Nat → Int32) (nA bA pk : Addr) (fF : Nat → Int32) (hfit : ∀ k, k < 1 → fits .byte (.int (fF k)) = true) (hf0 : fF (0 : Int32).toNatClampNeg = nar .byte ((nar .char x0).toInt8.toInt32)) (E_n : Exa Z h0 nA "java/lang/String") (F_c : Fld Z h0 nA "java/lang/String" "coder" "B" (.int 0)) (F_v : Fld Z h0 nA "java/lang/String" "value" "[B" (.ref bA)) (V_b : AV Z h0 bA .byte 1 (fun k => .int (fF k))) (hd0 : ¬ x0 = 46) :
    Go p e below (fun o u => ∃ v L, o = .returned v ∧ Q0 n0 v u.heap L ∧ ReturnedEndW s o u L 32 4224) (T0.setTop (mkF m 78 (LQ pF 1 x0 x1 x2 x3 nA pk [.unset, .unset, .unset]) [])) := by
  obtain ⟨X0, hx, hby, hml, hlk, hret, hZ, hown, wS, Z0, e0, N0, hST, hkT, hCH, hx0, hx1, hx2, hx3, hcs, hsv, S_CS, S_SV, S_EM, hold⟩ := hC
  obtain ⟨T1, h1, X1, e1, E1, A1, D1, -, st1⟩ := newO X0 hx hZ hown (wq hw 31 rfl) (wq hw 32 rfl) (wq hw 33 rfl) e0 (g := (mkF m 78 (LQ pF 1 x0 x1 x2 x3 nA pk [.unset, .unset, .unset]) [])) rfl (hb hby at_78) (by decide) (by decide)
  obtain ⟨b1, g1⟩ : ∃ z, z = h0.size := ⟨_, rfl⟩
  rw [← g1] at A1 D1 st1
  have g_b1 : n0 ≤ b1 := Nat.le_trans Z0 (Nat.le_of_eq g1.symm)
  have sz_b1 : h0.size ≤ b1 := Nat.le_trans ((Keep.refl h0 [])).1 (Nat.le_of_eq g1.symm)
  have ne_nA_b1 : nA ≠ b1 := Nat.ne_of_lt (Nat.lt_of_lt_of_le E_n.lt (Nat.le_of_eq g1.symm))
  have ne_bA_b1 : bA ≠ b1 := Nat.ne_of_lt (Nat.lt_of_lt_of_le V_b.lt (Nat.le_of_eq g1.symm))
  have Ac2 := CHr.ext E1 hCH
  have CR2c := CHr.trans (CHr.refl hCH) Ac2
  have c3_0 := hold.ext E1
  have c3_1 := S_CS.ext c3_0.2
  have c3_2 := S_SV.ext c3_0.2
  have c3_3 := S_EM.ext c3_0.2
  have c3_4 := E_n.ext E1
  have c3_5 := F_c.ext E1
  have c3_6 := F_v.ext E1
  have c3_7 := V_b.ext E1
  have K1 : Keep h0 h1 [] := (Keep.refl h0 []).ext E1
  have Z1 := Nat.le_trans Z0 E1.1
  have hk1 := Nat.le_trans hkT E1.1
  have Sf_b1 := Safe.ext E1 hCH (Safe.new (Nat.le_of_eq g1.symm))
  have F1_packageName : Fld Z h1 b1 "com/example/bindery/bindery/compiler/JavaType" "packageName" "Ljava/lang/String;" .null := D1 (Or.inr (wq hw 52 rfl)) (ty := (.object "java/lang/String")) (by decide)
  have F1_name : Fld Z h1 b1 "com/example/bindery/bindery/compiler/JavaType" "name" "Ljava/lang/String;" .null := D1 (Or.inr (wq hw 54 rfl)) (ty := (.object "java/lang/String")) (by decide)
  have F1_argument : Fld Z h1 b1 "com/example/bindery/bindery/compiler/JavaType" "argument" "Ljava/util/Optional;" .null := D1 (Or.inr (wq hw 56 rfl)) (ty := (.object "java/util/Optional")) (by decide)
  refine Go.via st1 ?_
  refine Vi (T1.setTop (mkF m 86 (LQ pF 1 x0 x1 x2 x3 nA pk [.unset, .unset, .unset]) [(.ref nA), (.ref pk), (.ref b1), (.ref b1)])) (fun tZ kZ => ?_) ?_
  · refine XS.dup X1.here hx rfl (hb hby at_81) rfl rfl ?_
    refine XS.aload X1.here hx rfl (hb hby at_82) rfl rfl ?_
    refine XS.aload X1.here hx rfl (hb hby at_84) rfl rfl ?_
    exact kZ
  obtain ⟨_, _, ⟨T4, L4, k4, n4⟩, -, X4, ⟨Lc4, hQ4, l4, y4, z4⟩, st4⟩ := X1.specialBack hx (y := y6) rfl hown (wz hZ hw 34 rfl) (wz hZ hw 35 rfl) (wz hZ hw 36 rfl) (by decide) (backOf (W := 1) (rm6 l Z a0 hw [] b1 pk nA em h1 n0 Z1 A1 F1_packageName F1_name F1_argument g_b1 c3_3) hZ (wq hw 36 rfl) (wq hw 33 rfl) (by decide) (by decide)) (g := (mkF m 86 (LQ pF 1 x0 x1 x2 x3 nA pk [.unset, .unset, .unset]) [(.ref nA), (.ref pk), (.ref b1), (.ref b1)])) rfl (by rw [hml]; rfl) (Steps.refl _) (a := b1) (argsL := [(.ref pk), (.ref nA)]) (rest := [(.ref b1)]) (lenOf pd_5 rfl) rfl (leW rfl) (hb hby at_86) (fun _ _ => ⟨rfl, e1, (by decide : 5 + 1 + 0 ≤ _), (by decide : 74 + 3 + 0 ≤ _)⟩)
  dsimp only [Pt.U, Pt.locs, Pt.cells, Pt.slots] at X4 l4 y4 z4 st4 hQ4
  subst l4 y4 z4
  obtain ⟨rfl, N4q, Kq4, f4_0, f4_1, f4_2, f4_3, f4_4⟩ := hQ4
  have Ac5 := CHr.keep Kq4 (allS Sf_b1 all0) Ac2.1
  have Sf5_0 := Ac5.safe A1.lt Sf_b1
  have CR5c := CHr.trans CR2c Ac5
  have c6_0 := c3_0.keep Kq4 (allS g_b1 all0)
  have c6_1 := S_CS.ext c6_0.2
  have c6_2 := S_SV.ext c6_0.2
  have c6_4 := c3_4.keep Kq4
  have c6_5 := c3_5.keep Kq4 (ninS ne_nA_b1 nin0)
  have c6_6 := c3_6.keep Kq4 (ninS ne_nA_b1 nin0)
  have c6_7 := c3_7.keep Kq4 (ninS ne_bA_b1 nin0)
  have K4 : Keep h0 T4.heap [] := K1.trans Kq4 (allS (Or.inr sz_b1) all0)
  have Z4 := Nat.le_trans Z1 Kq4.1
  have hk4 := Nat.le_trans hk1 Kq4.1
  have N4 := Fr.app N0 N4q
  refine Go.via (fun t k => st4.trans k) ?_
  refine Vi (T4.setTop (mkF m 93 (LQ pF 1 x0 x1 x2 x3 nA pk [sR b1, .unset, .unset]) [(.ref b1)])) (fun tZ kZ => ?_) ?_
  · refine XS.astore X4.here hx rfl (hb hby at_89) rfl rfl (l' := (LQ pF 1 x0 x1 x2 x3 nA pk [sR b1, .unset, .unset])) rfl ?_
    refine XS.aload X4.here hx rfl (hb hby at_91) rfl rfl ?_
    exact kZ
  obtain ⟨cq7, kq7, q7a, q7b, q7c⟩ := isOf hZ rfl f4_0
  obtain ⟨_, _, ⟨T7, L7, k7, n7⟩, -, X7, ⟨Lc7, hQ7, l7, y7, z7⟩, st7⟩ := X4.virtualBack hx (y := y10) (z := y10) hown (wz hZ hw 57 rfl) (wz hZ hw 58 rfl) (notFace_of_selects (args := #[]) (wz hZ hw 60 rfl)) (wz hZ hw 60 rfl) (wz hZ hw 59 rfl) (by decide) (backOf (W := 0) (rm10n1A l Z a0 hw [] b1 nA bA fF cs sv T4.heap n0 Z4 f4_0 f4_2 c6_4 c6_5 c6_6 c6_7 c6_1 c6_2 hcs hsv (own_l1_0 _ _ _ _ (by rw [hf0]; exact own_ndot hx0 hd0))) hZ (wq hw 61 rfl) (wq hw 33 rfl) (by decide) (by decide)) q7a q7c (g := (mkF m 93 (LQ pF 1 x0 x1 x2 x3 nA pk [sR b1, .unset, .unset]) [(.ref b1)])) rfl (by rw [hml]; rfl) (Steps.refl _) (argsL := []) (rest := []) (lenOf pd_8 rfl) rfl (leW rfl) (hb hby at_93) (fun _ _ => ⟨rfl, rfl, (by decide : 5 + 1 + 0 + 0 ≤ _), (by decide : 74 + 3 + 0 + 0 ≤ _)⟩)
  dsimp only [Pt.U, Pt.locs, Pt.cells, Pt.slots] at X7 l7 y7 z7 st7 hQ7
  subst l7 y7 z7
  obtain ⟨rfl, N7q, e7⟩ := hQ7
  have N7 := Fr.app N4 N7q
  refine Go.via (fun t k => st7.trans k) ?_
  refine Vi (T7.setTop (mkF m 167 (LQ pF 1 x0 x1 x2 x3 nA pk [sR b1, sR nA, sI 1]) [(.ref nA)])) (fun tZ kZ => ?_) ?_
  · refine XS.astore X7.here hx rfl (hb hby at_96) rfl rfl (l' := (LQ pF 1 x0 x1 x2 x3 nA pk [sR b1, sR nA, .unset])) rfl ?_
    refine XS.iload X7.here hx rfl (hb hby at_98) rfl ?_
    refine XS.istore X7.here hx rfl (hb hby at_100) rfl (l' := (LQ pF 1 x0 x1 x2 x3 nA pk [sR b1, sR nA, sI 1])) rfl ?_
    refine XS.iload X7.here hx rfl (hb hby at_102) rfl ?_
    refine XS.iconst X7.here hx rfl (hb hby at_104) ?_
    refine XS.icmpYes X7.here hx rfl (pc0 := 105) (pc' := 118) rfl (hb hby at_105) rfl (flt (by decide)).2.2.2 (by decide) (by decide) ?_
    refine XS.iload X7.here hx rfl (hb hby at_118) rfl ?_
    refine XS.iconst X7.here hx rfl (hb hby at_120) ?_
    refine XS.icmpYes X7.here hx rfl (pc0 := 121) (pc' := 134) rfl (hb hby at_121) rfl (flt (by decide)).2.2.2 (by decide) (by decide) ?_
    refine XS.iload X7.here hx rfl (hb hby at_134) rfl ?_
    refine XS.iconst X7.here hx rfl (hb hby at_136) ?_
    refine XS.icmpYes X7.here hx rfl (pc0 := 137) (pc' := 150) rfl (hb hby at_137) rfl (flt (by decide)).2.2.2 (by decide) (by decide) ?_
    refine XS.iload X7.here hx rfl (hb hby at_150) rfl ?_
    refine XS.ifNo X7.here hx rfl (hb hby at_152) rfl ((if0 _ _).trans (tlt (by decide)).2.2.2) ?_
    refine XS.iload X7.here hx rfl (hb hby at_155) rfl ?_
    refine XS.bipush X7.here hx rfl (hb hby at_157) ?_
    refine XS.icmpYes X7.here hx rfl (pc0 := 159) (pc' := 165) rfl (hb hby at_159) rfl (feq hd0).2 (by decide) (by decide) ?_
    refine XS.aload X7.here hx rfl (hb hby at_165) rfl rfl ?_
    exact kZ
  obtain ⟨cq8, kq8, q8a, q8b, q8c⟩ := isOf hZ e7 c6_4
  obtain ⟨_, _, ⟨T8, L8, k8, n8⟩, -, X8, ⟨Lc8, hQ8, l8, y8, z8⟩, st8⟩ := X7.virtualBack hx (y := y14) (z := y14) hown (wz hZ hw 102 rfl) (wz hZ hw 79 rfl) (notFace_of_selects (args := #[]) (wz hZ hw 81 rfl)) (wz hZ hw 81 rfl) (wz hZ hw 80 rfl) (by decide) (backOf (W := 0) (rm14 l Z a0 hw [] nA bA 1 fF cs T4.heap n0 Z4 c6_4 c6_5 c6_6 c6_7 c6_1 hcs) hZ (wq hw 82 rfl) (wq hw 10 rfl) (by decide) (by decide)) q8a q8c (g := (mkF m 167 (LQ pF 1 x0 x1 x2 x3 nA pk [sR b1, sR nA, sI 1]) [(.ref nA)])) rfl (by rw [hml]; rfl) (Steps.refl _) (argsL := []) (rest := []) (lenOf pd_12 rfl) rfl (leW rfl) (hb hby at_167) (fun _ _ => ⟨rfl, e7, (by decide : 5 + 1 + 0 + 0 + 0 ≤ _), (by decide : 74 + 3 + 0 + 0 + 0 ≤ _)⟩)
  dsimp only [Pt.U, Pt.locs, Pt.cells, Pt.slots] at X8 l8 y8 z8 st8 hQ8
  subst l8 y8 z8
  obtain ⟨rfl, N8q, e8⟩ := hQ8
  have hv8 : (f14 nA bA 1 fF cs) = (Int32.ofNat 1) := by unfold f14; exact own_sh0 _
  rw [hv8] at st8
  have N8 := Fr.app N7 N8q
  refine Go.via (fun t k => st8.trans k) ?_
  refine Vi (T8.setTop (mkF m 185 (LQ pF 1 x0 x1 x2 x3 nA pk [sR b1, sR nA, sI 1]) [(.int 0), (.ref nA)])) (fun tZ kZ => ?_) ?_
  · refine XS.iload X8.here hx rfl (hb hby at_170) rfl ?_
    refine XS.icmpYes X8.here hx rfl (pc0 := 172) (pc' := 177) rfl (hb hby at_172) rfl (teq (by decide)).1 (by decide) (by decide) ?_
    refine XS.iload X8.here hx rfl (hb hby at_177) rfl ?_
    refine XS.ifNo X8.here hx rfl (hb hby at_179) rfl ((if0 _ _).trans (tlt (by decide)).2.2.2) ?_
    refine XS.aload X8.here hx rfl (hb hby at_182) rfl rfl ?_
    refine XS.iconst X8.here hx rfl (hb hby at_184) ?_
    exact kZ
  obtain ⟨cq9, kq9, q9a, q9b, q9c⟩ := isOf hZ e8 c6_4
  obtain ⟨_, _, ⟨T9, L9, k9, n9⟩, -, X9, ⟨Lc9, hQ9, l9, y9, z9⟩, st9⟩ := X8.virtualBack hx (y := y32) (z := y32) hown (wz hZ hw 151 rfl) (wz hZ hw 152 rfl) (notFace_of_selects (args := #[]) (wz hZ hw 154 rfl)) (wz hZ hw 154 rfl) (wz hZ hw 153 rfl) (by decide) (backOf (W := 0) (rm32 l Z a0 hw [] nA (0 : Int32) bA 1 fF cs sv T4.heap n0 Z4 c6_4 c6_5 c6_6 c6_7 c6_1 c6_2 hcs (by decide) (by decide) (by decide) hsv) hZ (wq hw 155 rfl) (wq hw 10 rfl) (by decide) (by decide)) q9a q9c (g := (mkF m 185 (LQ pF 1 x0 x1 x2 x3 nA pk [sR b1, sR nA, sI 1]) [(.int 0), (.ref nA)])) rfl (by rw [hml]; rfl) (Steps.refl _) (argsL := [(.int 0)]) (rest := []) (lenOf pd_27 rfl) rfl (leW rfl) (hb hby at_185) (fun _ _ => ⟨rfl, e8, (by decide : 5 + 1 + 0 + 0 + 0 + 0 ≤ _), (by decide : 74 + 3 + 0 + 0 + 0 + 0 ≤ _)⟩)
  dsimp only [Pt.U, Pt.locs, Pt.cells, Pt.slots] at X9 l9 y9 z9 st9 hQ9
  subst l9 y9 z9
  obtain ⟨rfl, N9q, e9⟩ := hQ9
  have N9 := Fr.app N8 N9q
  refine Go.via (fun t k => st9.trans k) ?_
  refine Vi (T9.setTop (mkF m 253 (LQ pF 1 x0 x1 x2 x3 nA pk [sR b1, sR nA, sI 1]) [(.int 1)])) (fun tZ kZ => ?_) ?_
  · refine XS.iload X9.here hx rfl (hb hby at_188) rfl ?_
    refine XS.icmpYes X9.here hx rfl (pc0 := 190) (pc' := 195) rfl (hb hby at_190) rfl (teq (own_rt2 hx0 hf0)).1 (by decide) (by decide) ?_
    refine XS.iload X9.here hx rfl (hb hby at_195) rfl ?_
    refine XS.iconst X9.here hx rfl (hb hby at_197) ?_
    refine XS.icmpYes X9.here hx rfl (pc0 := 198) (pc' := 214) rfl (hb hby at_198) rfl (flt (by decide)).2.2.2 (by decide) (by decide) ?_
    refine XS.iload X9.here hx rfl (hb hby at_214) rfl ?_
    refine XS.iconst X9.here hx rfl (hb hby at_216) ?_
    refine XS.icmpYes X9.here hx rfl (pc0 := 217) (pc' := 233) rfl (hb hby at_217) rfl (flt (by decide)).2.2.2 (by decide) (by decide) ?_
    refine XS.iload X9.here hx rfl (hb hby at_233) rfl ?_
    refine XS.iconst X9.here hx rfl (hb hby at_235) ?_
    refine XS.icmpYes X9.here hx rfl (pc0 := 236) (pc' := 252) rfl (hb hby at_236) rfl (flt (by decide)).2.2.2 (by decide) (by decide) ?_
    refine XS.iconst X9.here hx rfl (hb hby at_252) ?_
    exact kZ
  refine Go.retNW (s := s) (vm₁ := vmT) X9 hx hST (by rw [e9]; exact hk4) hlk (t := .boolean) hret (by simp) (hb hby at_253) (by decide) (by decide) ?_
  exact ⟨rfl, N9⟩
theorem tail_1_1 (l : Launch) (Z : State) (a0 : Array Value) (hw : HW a0 Z) {p : Program} {e : Env} {s : State} {m : MethodId} {args : Array Value} {below : List Frame} {meth : Method} {c : Code} {T0 : State} {locs0 : List Loc} {vmT : Vm} {h0 : Heap} {n0 kT : Nat} {x0 x1 x2 x3 cs : Int32} {sv : Value} {em : Addr} (hC : Com l Z a0 p e s m args below meth c T0 locs0 vmT 5 74 h0 n0 kT x0 x1 x2 x3 cs sv em) (pF : Nat → Int32) (nA bA pk : Addr) (fF : Nat → Int32) (hfit : ∀ k, k < 1 → fits .byte (.int (fF k)) = true) (hf0 : fF (0 : Int32).toNatClampNeg = nar .byte ((nar .char x0).toInt8.toInt32)) (E_n : Exa Z h0 nA "java/lang/String") (F_c : Fld Z h0 nA "java/lang/String" "coder" "B" (.int 0)) (F_v : Fld Z h0 nA "java/lang/String" "value" "[B" (.ref bA)) (V_b : AV Z h0 bA .byte 1 (fun k => .int (fF k))) (hd0 : x0 = 46) :
    Go p e below (fun o u => ∃ v L, o = .returned v ∧ Q0 n0 v u.heap L ∧ ReturnedEndW s o u L 32 4224) (T0.setTop (mkF m 78 (LQ pF 1 x0 x1 x2 x3 nA pk [.unset, .unset, .unset]) [])) := by
  obtain ⟨X0, hx, hby, hml, hlk, hret, hZ, hown, wS, Z0, e0, N0, hST, hkT, hCH, hx0, hx1, hx2, hx3, hcs, hsv, S_CS, S_SV, S_EM, hold⟩ := hC
  obtain ⟨T1, h1, X1, e1, E1, A1, D1, -, st1⟩ := newO X0 hx hZ hown (wq hw 31 rfl) (wq hw 32 rfl) (wq hw 33 rfl) e0 (g := (mkF m 78 (LQ pF 1 x0 x1 x2 x3 nA pk [.unset, .unset, .unset]) [])) rfl (hb hby at_78) (by decide) (by decide)
  obtain ⟨b1, g1⟩ : ∃ z, z = h0.size := ⟨_, rfl⟩
  rw [← g1] at A1 D1 st1
  have g_b1 : n0 ≤ b1 := Nat.le_trans Z0 (Nat.le_of_eq g1.symm)
  have sz_b1 : h0.size ≤ b1 := Nat.le_trans ((Keep.refl h0 [])).1 (Nat.le_of_eq g1.symm)
  have ne_nA_b1 : nA ≠ b1 := Nat.ne_of_lt (Nat.lt_of_lt_of_le E_n.lt (Nat.le_of_eq g1.symm))
  have ne_bA_b1 : bA ≠ b1 := Nat.ne_of_lt (Nat.lt_of_lt_of_le V_b.lt (Nat.le_of_eq g1.symm))
  have Ac2 := CHr.ext E1 hCH
  have CR2c := CHr.trans (CHr.refl hCH) Ac2
  have c3_0 := hold.ext E1
  have c3_1 := S_CS.ext c3_0.2
  have c3_2 := S_SV.ext c3_0.2
  have c3_3 := S_EM.ext c3_0.2
  have c3_4 := E_n.ext E1
  have c3_5 := F_c.ext E1
  have c3_6 := F_v.ext E1
  have c3_7 := V_b.ext E1
  have K1 : Keep h0 h1 [] := (Keep.refl h0 []).ext E1
  have Z1 := Nat.le_trans Z0 E1.1
  have hk1 := Nat.le_trans hkT E1.1
  have Sf_b1 := Safe.ext E1 hCH (Safe.new (Nat.le_of_eq g1.symm))
  have F1_packageName : Fld Z h1 b1 "com/example/bindery/bindery/compiler/JavaType" "packageName" "Ljava/lang/String;" .null := D1 (Or.inr (wq hw 52 rfl)) (ty := (.object "java/lang/String")) (by decide)
  have F1_name : Fld Z h1 b1 "com/example/bindery/bindery/compiler/JavaType" "name" "Ljava/lang/String;" .null := D1 (Or.inr (wq hw 54 rfl)) (ty := (.object "java/lang/String")) (by decide)
  have F1_argument : Fld Z h1 b1 "com/example/bindery/bindery/compiler/JavaType" "argument" "Ljava/util/Optional;" .null := D1 (Or.inr (wq hw 56 rfl)) (ty := (.object "java/util/Optional")) (by decide)
  refine Go.via st1 ?_
  refine Vi (T1.setTop (mkF m 86 (LQ pF 1 x0 x1 x2 x3 nA pk [.unset, .unset, .unset]) [(.ref nA), (.ref pk), (.ref b1), (.ref b1)])) (fun tZ kZ => ?_) ?_
  · refine XS.dup X1.here hx rfl (hb hby at_81) rfl rfl ?_
    refine XS.aload X1.here hx rfl (hb hby at_82) rfl rfl ?_
    refine XS.aload X1.here hx rfl (hb hby at_84) rfl rfl ?_
    exact kZ
  obtain ⟨_, _, ⟨T4, L4, k4, n4⟩, -, X4, ⟨Lc4, hQ4, l4, y4, z4⟩, st4⟩ := X1.specialBack hx (y := y6) rfl hown (wz hZ hw 34 rfl) (wz hZ hw 35 rfl) (wz hZ hw 36 rfl) (by decide) (backOf (W := 1) (rm6 l Z a0 hw [] b1 pk nA em h1 n0 Z1 A1 F1_packageName F1_name F1_argument g_b1 c3_3) hZ (wq hw 36 rfl) (wq hw 33 rfl) (by decide) (by decide)) (g := (mkF m 86 (LQ pF 1 x0 x1 x2 x3 nA pk [.unset, .unset, .unset]) [(.ref nA), (.ref pk), (.ref b1), (.ref b1)])) rfl (by rw [hml]; rfl) (Steps.refl _) (a := b1) (argsL := [(.ref pk), (.ref nA)]) (rest := [(.ref b1)]) (lenOf pd_5 rfl) rfl (leW rfl) (hb hby at_86) (fun _ _ => ⟨rfl, e1, (by decide : 5 + 1 + 0 ≤ _), (by decide : 74 + 3 + 0 ≤ _)⟩)
  dsimp only [Pt.U, Pt.locs, Pt.cells, Pt.slots] at X4 l4 y4 z4 st4 hQ4
  subst l4 y4 z4
  obtain ⟨rfl, N4q, Kq4, f4_0, f4_1, f4_2, f4_3, f4_4⟩ := hQ4
  have Ac5 := CHr.keep Kq4 (allS Sf_b1 all0) Ac2.1
  have Sf5_0 := Ac5.safe A1.lt Sf_b1
  have CR5c := CHr.trans CR2c Ac5
  have c6_0 := c3_0.keep Kq4 (allS g_b1 all0)
  have c6_1 := S_CS.ext c6_0.2
  have c6_2 := S_SV.ext c6_0.2
  have c6_4 := c3_4.keep Kq4
  have c6_5 := c3_5.keep Kq4 (ninS ne_nA_b1 nin0)
  have c6_6 := c3_6.keep Kq4 (ninS ne_nA_b1 nin0)
  have c6_7 := c3_7.keep Kq4 (ninS ne_bA_b1 nin0)
  have K4 : Keep h0 T4.heap [] := K1.trans Kq4 (allS (Or.inr sz_b1) all0)
  have Z4 := Nat.le_trans Z1 Kq4.1
  have hk4 := Nat.le_trans hk1 Kq4.1
  have N4 := Fr.app N0 N4q
  refine Go.via (fun t k => st4.trans k) ?_
  refine Vi (T4.setTop (mkF m 93 (LQ pF 1 x0 x1 x2 x3 nA pk [sR b1, .unset, .unset]) [(.ref b1)])) (fun tZ kZ => ?_) ?_
  · refine XS.astore X4.here hx rfl (hb hby at_89) rfl rfl (l' := (LQ pF 1 x0 x1 x2 x3 nA pk [sR b1, .unset, .unset])) rfl ?_
    refine XS.aload X4.here hx rfl (hb hby at_91) rfl rfl ?_
    exact kZ
  obtain ⟨cq7, kq7, q7a, q7b, q7c⟩ := isOf hZ rfl f4_0
  obtain ⟨_, _, ⟨T7, L7, k7, n7⟩, -, X7, hS7, -, ⟨Lc7, hQ7, l7, y7, z7, A7⟩, st7⟩ := virtualBackS (s := s.setVm vmT) X4 hx (y := y10) (z := y10) hown (wz hZ hw 57 rfl) (wz hZ hw 58 rfl) (notFace_of_selects (args := #[]) (wz hZ hw 60 rfl)) (wz hZ hw 60 rfl) (wz hZ hw 59 rfl) (by decide) (backOfSH (s := s) (vm0 := vmT) (W := 0) (rm10n1B l Z a0 hw [] b1 nA bA fF cs sv 0 T4.heap n0 Z4 f4_0 f4_2 c6_4 c6_5 c6_6 c6_7 c6_1 c6_2 hcs hsv (by decide) (by decide) (by decide) (by decide) (by decide) (by decide) (own_l1_1 _ _ _ _ (by rw [hf0]; exact own_dot hd0)) (by decide)) hZ (wq hw 61 rfl) (wq hw 33 rfl) (by decide) (by decide) (own_EW hw) Ac5.1) q7a q7c (g := (mkF m 93 (LQ pF 1 x0 x1 x2 x3 nA pk [sR b1, .unset, .unset]) [(.ref b1)])) rfl (by rw [hml]; rfl) (Steps.refl _) (argsL := []) (rest := []) (lenOf pd_8 rfl) rfl (leW rfl) (hb hby at_93) (fun _ _ => ⟨rfl, rfl, (by decide : 5 + 1 + 0 + 2 ≤ _), (by decide : 74 + 3 + 0 + 68 ≤ _)⟩)
  dsimp only [Pt.U, Pt.locs, Pt.cells, Pt.slots] at X7 hS7 l7 y7 z7 A7 st7 hQ7
  subst l7 y7 z7
  obtain ⟨b7_0, b7_1, rfl, N7q, Kq7, f7_0, f7_1, f7_2, f7_3, f7_4, f7_5, f7_6, f7_7, f7_8, f7_9, f7_10, f7_11⟩ := hQ7
  have Sf8_0 := A7.safe f4_0.lt Sf5_0
  have CR8c := CHr.trans CR5c A7
  have c9_0 := c6_0.keep Kq7 all0
  have c9_3 := S_EM.ext c9_0.2
  have c9_10 := f4_1.keep Kq7 nin0
  have c9_12 := f4_3.keep Kq7 nin0
  have K7 : Keep h0 T7.heap [] := K4.trans Kq7 all0
  have Z7 := Nat.le_trans Z4 Kq7.1
  have ne_b7_1_nA := AV.neExa f7_11 f7_2 (wq hw 9 rfl)
  have ne_b7_1_b1 := AV.neExa f7_11 f7_0 (wq hw 32 rfl)
  have ne_b7_1_b7_0 := AV.neExa f7_11 f7_8 (wq hw 9 rfl)
  have N7 := Fr.app N4 N7q
  have hS7c : s.Since T7.vm T7.heap.size := State.Since.trans hST hS7 (Nat.le_trans hk4 Kq7.1)
  replace hZ : Z.Warmed39 (s.setVm T7.vm).vm := State.Warmed39.trans (t := s.setVm vmT) hZ hS7.1
  replace hown : (s.setVm T7.vm).vm.findClass "com/example/bindery/bindery/compiler/JavaTypeOuterNamePinLaw" = some m.cls := by rw [show (s.setVm T7.vm).vm = T7.vm from rfl, hS7.1.alike.findClass]; exact hown
  refine Go.via (fun t k => st7.trans k) ?_
  refine Vi (T7.setTop (mkF m 167 (LQ pF 1 x0 x1 x2 x3 nA pk [sR b1, sR b7_0, sI 0]) [(.ref b7_0)])) (fun tZ kZ => ?_) ?_
  · refine XS.astore X7.here hx rfl (hb hby at_96) rfl rfl (l' := (LQ pF 1 x0 x1 x2 x3 nA pk [sR b1, sR b7_0, .unset])) rfl ?_
    refine XS.iload X7.here hx rfl (hb hby at_98) rfl ?_
    refine XS.istore X7.here hx rfl (hb hby at_100) rfl (l' := (LQ pF 1 x0 x1 x2 x3 nA pk [sR b1, sR b7_0, sI 1])) rfl ?_
    refine XS.iload X7.here hx rfl (hb hby at_102) rfl ?_
    refine XS.iconst X7.here hx rfl (hb hby at_104) ?_
    refine XS.icmpYes X7.here hx rfl (pc0 := 105) (pc' := 118) rfl (hb hby at_105) rfl (flt (by decide)).2.2.2 (by decide) (by decide) ?_
    refine XS.iload X7.here hx rfl (hb hby at_118) rfl ?_
    refine XS.iconst X7.here hx rfl (hb hby at_120) ?_
    refine XS.icmpYes X7.here hx rfl (pc0 := 121) (pc' := 134) rfl (hb hby at_121) rfl (flt (by decide)).2.2.2 (by decide) (by decide) ?_
    refine XS.iload X7.here hx rfl (hb hby at_134) rfl ?_
    refine XS.iconst X7.here hx rfl (hb hby at_136) ?_
    refine XS.icmpYes X7.here hx rfl (pc0 := 137) (pc' := 150) rfl (hb hby at_137) rfl (flt (by decide)).2.2.2 (by decide) (by decide) ?_
    refine XS.iload X7.here hx rfl (hb hby at_150) rfl ?_
    refine XS.ifNo X7.here hx rfl (hb hby at_152) rfl ((if0 _ _).trans (tlt (by decide)).2.2.2) ?_
    refine XS.iload X7.here hx rfl (hb hby at_155) rfl ?_
    refine XS.bipush X7.here hx rfl (hb hby at_157) ?_
    refine XS.icmpNo X7.here hx rfl (hb hby at_159) rfl (teq hd0).2 ?_
    refine XS.iconst X7.here hx rfl (hb hby at_162) ?_
    refine XS.istore X7.here hx rfl (hb hby at_163) rfl (l' := (LQ pF 1 x0 x1 x2 x3 nA pk [sR b1, sR b7_0, sI 0])) rfl ?_
    refine XS.aload X7.here hx rfl (hb hby at_165) rfl rfl ?_
    exact kZ
  obtain ⟨cq10, kq10, q10a, q10b, q10c⟩ := isOf hZ rfl f7_8
  obtain ⟨_, _, ⟨T10, L10, k10, n10⟩, -, X10, ⟨Lc10, hQ10, l10, y10, z10⟩, st10⟩ := X7.virtualBack hx (y := y14) (z := y14) hown (wz hZ hw 102 rfl) (wz hZ hw 79 rfl) (notFace_of_selects (args := #[]) (wz hZ hw 81 rfl)) (wz hZ hw 81 rfl) (wz hZ hw 80 rfl) (by decide) (backOf (W := 0) (rm14 l Z a0 hw [] b7_0 b7_1 0 (own_t []) cs T7.heap n0 Z7 f7_8 f7_9 f7_10 f7_11 f7_6 hcs) hZ (wq hw 82 rfl) (wq hw 10 rfl) (by decide) (by decide)) q10a q10c (g := (mkF m 167 (LQ pF 1 x0 x1 x2 x3 nA pk [sR b1, sR b7_0, sI 0]) [(.ref b7_0)])) rfl (by rw [hml]; rfl) (Steps.refl _) (argsL := []) (rest := []) (lenOf pd_12 rfl) rfl (leW rfl) (hb hby at_167) (fun _ _ => ⟨rfl, rfl, (by decide : 5 + 1 + 0 + 2 + 0 ≤ _), (by decide : 74 + 3 + 0 + 68 + 0 ≤ _)⟩)
  dsimp only [Pt.U, Pt.locs, Pt.cells, Pt.slots] at X10 l10 y10 z10 st10 hQ10
  subst l10 y10 z10
  obtain ⟨rfl, N10q, e10⟩ := hQ10
  have hv10 : (f14 b7_0 b7_1 0 (own_t []) cs) = (Int32.ofNat 0) := by unfold f14; exact own_sh0 _
  rw [hv10] at st10
  have N10 := Fr.app N7 N10q
  refine Go.via (fun t k => st10.trans k) ?_
  refine Vi (T10.setTop (mkF m 253 (LQ pF 1 x0 x1 x2 x3 nA pk [sR b1, sR b7_0, sI 0]) [(.int 1)])) (fun tZ kZ => ?_) ?_
  · refine XS.iload X10.here hx rfl (hb hby at_170) rfl ?_
    refine XS.icmpYes X10.here hx rfl (pc0 := 172) (pc' := 177) rfl (hb hby at_172) rfl (teq (by decide)).1 (by decide) (by decide) ?_
    refine XS.iload X10.here hx rfl (hb hby at_177) rfl ?_
    refine XS.ifYes X10.here hx rfl (pc0 := 179) (pc' := 195) rfl (hb hby at_179) rfl ((if0 _ _).trans (flt (by decide)).2.2.2) (by decide) (by decide) ?_
    refine XS.iload X10.here hx rfl (hb hby at_195) rfl ?_
    refine XS.iconst X10.here hx rfl (hb hby at_197) ?_
    refine XS.icmpYes X10.here hx rfl (pc0 := 198) (pc' := 214) rfl (hb hby at_198) rfl (flt (by decide)).2.2.2 (by decide) (by decide) ?_
    refine XS.iload X10.here hx rfl (hb hby at_214) rfl ?_
    refine XS.iconst X10.here hx rfl (hb hby at_216) ?_
    refine XS.icmpYes X10.here hx rfl (pc0 := 217) (pc' := 233) rfl (hb hby at_217) rfl (flt (by decide)).2.2.2 (by decide) (by decide) ?_
    refine XS.iload X10.here hx rfl (hb hby at_233) rfl ?_
    refine XS.iconst X10.here hx rfl (hb hby at_235) ?_
    refine XS.icmpYes X10.here hx rfl (pc0 := 236) (pc' := 252) rfl (hb hby at_236) rfl (flt (by decide)).2.2.2 (by decide) (by decide) ?_
    refine XS.iconst X10.here hx rfl (hb hby at_252) ?_
    exact kZ
  refine Go.retNW (s := s) (vm₁ := T7.vm) X10 hx hS7c (by rw [e10]; exact (Nat.le_refl _)) hlk (t := .boolean) hret (by simp) (hb hby at_253) (by decide) (by decide) ?_
  exact ⟨rfl, N10⟩
theorem tail_2_0 (l : Launch) (Z : State) (a0 : Array Value) (hw : HW a0 Z) {p : Program} {e : Env} {s : State} {m : MethodId} {args : Array Value} {below : List Frame} {meth : Method} {c : Code} {T0 : State} {locs0 : List Loc} {vmT : Vm} {h0 : Heap} {n0 kT : Nat} {x0 x1 x2 x3 cs : Int32} {sv : Value} {em : Addr} (hC : Com l Z a0 p e s m args below meth c T0 locs0 vmT 5 76 h0 n0 kT x0 x1 x2 x3 cs sv em) (pF : Nat → Int32) (nA bA pk : Addr) (fF : Nat → Int32) (hfit : ∀ k, k < 2 → fits .byte (.int (fF k)) = true) (hf0 : fF (0 : Int32).toNatClampNeg = nar .byte ((nar .char x0).toInt8.toInt32)) (hf1 : fF (1 : Int32).toNatClampNeg = nar .byte ((nar .char x1).toInt8.toInt32)) (E_n : Exa Z h0 nA "java/lang/String") (F_c : Fld Z h0 nA "java/lang/String" "coder" "B" (.int 0)) (F_v : Fld Z h0 nA "java/lang/String" "value" "[B" (.ref bA)) (V_b : AV Z h0 bA .byte 2 (fun k => .int (fF k))) (hd0 : ¬ x0 = 46) (hd1 : ¬ x1 = 46) :
    Go p e below (fun o u => ∃ v L, o = .returned v ∧ Q0 n0 v u.heap L ∧ ReturnedEndW s o u L 32 4224) (T0.setTop (mkF m 78 (LQ pF 2 x0 x1 x2 x3 nA pk [.unset, .unset, .unset]) [])) := by
  obtain ⟨X0, hx, hby, hml, hlk, hret, hZ, hown, wS, Z0, e0, N0, hST, hkT, hCH, hx0, hx1, hx2, hx3, hcs, hsv, S_CS, S_SV, S_EM, hold⟩ := hC
  obtain ⟨T1, h1, X1, e1, E1, A1, D1, -, st1⟩ := newO X0 hx hZ hown (wq hw 31 rfl) (wq hw 32 rfl) (wq hw 33 rfl) e0 (g := (mkF m 78 (LQ pF 2 x0 x1 x2 x3 nA pk [.unset, .unset, .unset]) [])) rfl (hb hby at_78) (by decide) (by decide)
  obtain ⟨b1, g1⟩ : ∃ z, z = h0.size := ⟨_, rfl⟩
  rw [← g1] at A1 D1 st1
  have g_b1 : n0 ≤ b1 := Nat.le_trans Z0 (Nat.le_of_eq g1.symm)
  have sz_b1 : h0.size ≤ b1 := Nat.le_trans ((Keep.refl h0 [])).1 (Nat.le_of_eq g1.symm)
  have ne_nA_b1 : nA ≠ b1 := Nat.ne_of_lt (Nat.lt_of_lt_of_le E_n.lt (Nat.le_of_eq g1.symm))
  have ne_bA_b1 : bA ≠ b1 := Nat.ne_of_lt (Nat.lt_of_lt_of_le V_b.lt (Nat.le_of_eq g1.symm))
  have Ac2 := CHr.ext E1 hCH
  have CR2c := CHr.trans (CHr.refl hCH) Ac2
  have c3_0 := hold.ext E1
  have c3_1 := S_CS.ext c3_0.2
  have c3_2 := S_SV.ext c3_0.2
  have c3_3 := S_EM.ext c3_0.2
  have c3_4 := E_n.ext E1
  have c3_5 := F_c.ext E1
  have c3_6 := F_v.ext E1
  have c3_7 := V_b.ext E1
  have K1 : Keep h0 h1 [] := (Keep.refl h0 []).ext E1
  have Z1 := Nat.le_trans Z0 E1.1
  have hk1 := Nat.le_trans hkT E1.1
  have Sf_b1 := Safe.ext E1 hCH (Safe.new (Nat.le_of_eq g1.symm))
  have F1_packageName : Fld Z h1 b1 "com/example/bindery/bindery/compiler/JavaType" "packageName" "Ljava/lang/String;" .null := D1 (Or.inr (wq hw 52 rfl)) (ty := (.object "java/lang/String")) (by decide)
  have F1_name : Fld Z h1 b1 "com/example/bindery/bindery/compiler/JavaType" "name" "Ljava/lang/String;" .null := D1 (Or.inr (wq hw 54 rfl)) (ty := (.object "java/lang/String")) (by decide)
  have F1_argument : Fld Z h1 b1 "com/example/bindery/bindery/compiler/JavaType" "argument" "Ljava/util/Optional;" .null := D1 (Or.inr (wq hw 56 rfl)) (ty := (.object "java/util/Optional")) (by decide)
  refine Go.via st1 ?_
  refine Vi (T1.setTop (mkF m 86 (LQ pF 2 x0 x1 x2 x3 nA pk [.unset, .unset, .unset]) [(.ref nA), (.ref pk), (.ref b1), (.ref b1)])) (fun tZ kZ => ?_) ?_
  · refine XS.dup X1.here hx rfl (hb hby at_81) rfl rfl ?_
    refine XS.aload X1.here hx rfl (hb hby at_82) rfl rfl ?_
    refine XS.aload X1.here hx rfl (hb hby at_84) rfl rfl ?_
    exact kZ
  obtain ⟨_, _, ⟨T4, L4, k4, n4⟩, -, X4, ⟨Lc4, hQ4, l4, y4, z4⟩, st4⟩ := X1.specialBack hx (y := y6) rfl hown (wz hZ hw 34 rfl) (wz hZ hw 35 rfl) (wz hZ hw 36 rfl) (by decide) (backOf (W := 1) (rm6 l Z a0 hw [] b1 pk nA em h1 n0 Z1 A1 F1_packageName F1_name F1_argument g_b1 c3_3) hZ (wq hw 36 rfl) (wq hw 33 rfl) (by decide) (by decide)) (g := (mkF m 86 (LQ pF 2 x0 x1 x2 x3 nA pk [.unset, .unset, .unset]) [(.ref nA), (.ref pk), (.ref b1), (.ref b1)])) rfl (by rw [hml]; rfl) (Steps.refl _) (a := b1) (argsL := [(.ref pk), (.ref nA)]) (rest := [(.ref b1)]) (lenOf pd_5 rfl) rfl (leW rfl) (hb hby at_86) (fun _ _ => ⟨rfl, e1, (by decide : 5 + 1 + 0 ≤ _), (by decide : 76 + 3 + 0 ≤ _)⟩)
  dsimp only [Pt.U, Pt.locs, Pt.cells, Pt.slots] at X4 l4 y4 z4 st4 hQ4
  subst l4 y4 z4
  obtain ⟨rfl, N4q, Kq4, f4_0, f4_1, f4_2, f4_3, f4_4⟩ := hQ4
  have Ac5 := CHr.keep Kq4 (allS Sf_b1 all0) Ac2.1
  have Sf5_0 := Ac5.safe A1.lt Sf_b1
  have CR5c := CHr.trans CR2c Ac5
  have c6_0 := c3_0.keep Kq4 (allS g_b1 all0)
  have c6_1 := S_CS.ext c6_0.2
  have c6_2 := S_SV.ext c6_0.2
  have c6_4 := c3_4.keep Kq4
  have c6_5 := c3_5.keep Kq4 (ninS ne_nA_b1 nin0)
  have c6_6 := c3_6.keep Kq4 (ninS ne_nA_b1 nin0)
  have c6_7 := c3_7.keep Kq4 (ninS ne_bA_b1 nin0)
  have K4 : Keep h0 T4.heap [] := K1.trans Kq4 (allS (Or.inr sz_b1) all0)
  have Z4 := Nat.le_trans Z1 Kq4.1
  have hk4 := Nat.le_trans hk1 Kq4.1
  have N4 := Fr.app N0 N4q
  refine Go.via (fun t k => st4.trans k) ?_
  refine Vi (T4.setTop (mkF m 93 (LQ pF 2 x0 x1 x2 x3 nA pk [sR b1, .unset, .unset]) [(.ref b1)])) (fun tZ kZ => ?_) ?_
  · refine XS.astore X4.here hx rfl (hb hby at_89) rfl rfl (l' := (LQ pF 2 x0 x1 x2 x3 nA pk [sR b1, .unset, .unset])) rfl ?_
    refine XS.aload X4.here hx rfl (hb hby at_91) rfl rfl ?_
    exact kZ
  obtain ⟨cq7, kq7, q7a, q7b, q7c⟩ := isOf hZ rfl f4_0
  obtain ⟨_, _, ⟨T7, L7, k7, n7⟩, -, X7, ⟨Lc7, hQ7, l7, y7, z7⟩, st7⟩ := X4.virtualBack hx (y := y10) (z := y10) hown (wz hZ hw 57 rfl) (wz hZ hw 58 rfl) (notFace_of_selects (args := #[]) (wz hZ hw 60 rfl)) (wz hZ hw 60 rfl) (wz hZ hw 59 rfl) (by decide) (backOf (W := 0) (rm10n2A l Z a0 hw [] b1 nA bA fF cs sv T4.heap n0 Z4 f4_0 f4_2 c6_4 c6_5 c6_6 c6_7 c6_1 c6_2 hcs hsv (own_l2_0 _ _ _ _ (by rw [hf0]; exact own_ndot hx0 hd0) (by rw [hf1]; exact own_ndot hx1 hd1))) hZ (wq hw 61 rfl) (wq hw 33 rfl) (by decide) (by decide)) q7a q7c (g := (mkF m 93 (LQ pF 2 x0 x1 x2 x3 nA pk [sR b1, .unset, .unset]) [(.ref b1)])) rfl (by rw [hml]; rfl) (Steps.refl _) (argsL := []) (rest := []) (lenOf pd_8 rfl) rfl (leW rfl) (hb hby at_93) (fun _ _ => ⟨rfl, rfl, (by decide : 5 + 1 + 0 + 0 ≤ _), (by decide : 76 + 3 + 0 + 0 ≤ _)⟩)
  dsimp only [Pt.U, Pt.locs, Pt.cells, Pt.slots] at X7 l7 y7 z7 st7 hQ7
  subst l7 y7 z7
  obtain ⟨rfl, N7q, e7⟩ := hQ7
  have N7 := Fr.app N4 N7q
  refine Go.via (fun t k => st7.trans k) ?_
  refine Vi (T7.setTop (mkF m 167 (LQ pF 2 x0 x1 x2 x3 nA pk [sR b1, sR nA, sI 2]) [(.ref nA)])) (fun tZ kZ => ?_) ?_
  · refine XS.astore X7.here hx rfl (hb hby at_96) rfl rfl (l' := (LQ pF 2 x0 x1 x2 x3 nA pk [sR b1, sR nA, .unset])) rfl ?_
    refine XS.iload X7.here hx rfl (hb hby at_98) rfl ?_
    refine XS.istore X7.here hx rfl (hb hby at_100) rfl (l' := (LQ pF 2 x0 x1 x2 x3 nA pk [sR b1, sR nA, sI 2])) rfl ?_
    refine XS.iload X7.here hx rfl (hb hby at_102) rfl ?_
    refine XS.iconst X7.here hx rfl (hb hby at_104) ?_
    refine XS.icmpYes X7.here hx rfl (pc0 := 105) (pc' := 118) rfl (hb hby at_105) rfl (flt (by decide)).2.2.2 (by decide) (by decide) ?_
    refine XS.iload X7.here hx rfl (hb hby at_118) rfl ?_
    refine XS.iconst X7.here hx rfl (hb hby at_120) ?_
    refine XS.icmpYes X7.here hx rfl (pc0 := 121) (pc' := 134) rfl (hb hby at_121) rfl (flt (by decide)).2.2.2 (by decide) (by decide) ?_
    refine XS.iload X7.here hx rfl (hb hby at_134) rfl ?_
    refine XS.iconst X7.here hx rfl (hb hby at_136) ?_
    refine XS.icmpNo X7.here hx rfl (hb hby at_137) rfl (tlt (by decide)).2.2.2 ?_
    refine XS.iload X7.here hx rfl (hb hby at_140) rfl ?_
    refine XS.bipush X7.here hx rfl (hb hby at_142) ?_
    refine XS.icmpYes X7.here hx rfl (pc0 := 144) (pc' := 150) rfl (hb hby at_144) rfl (feq hd1).2 (by decide) (by decide) ?_
    refine XS.iload X7.here hx rfl (hb hby at_150) rfl ?_
    refine XS.ifNo X7.here hx rfl (hb hby at_152) rfl ((if0 _ _).trans (tlt (by decide)).2.2.2) ?_
    refine XS.iload X7.here hx rfl (hb hby at_155) rfl ?_
    refine XS.bipush X7.here hx rfl (hb hby at_157) ?_
    refine XS.icmpYes X7.here hx rfl (pc0 := 159) (pc' := 165) rfl (hb hby at_159) rfl (feq hd0).2 (by decide) (by decide) ?_
    refine XS.aload X7.here hx rfl (hb hby at_165) rfl rfl ?_
    exact kZ
  obtain ⟨cq8, kq8, q8a, q8b, q8c⟩ := isOf hZ e7 c6_4
  obtain ⟨_, _, ⟨T8, L8, k8, n8⟩, -, X8, ⟨Lc8, hQ8, l8, y8, z8⟩, st8⟩ := X7.virtualBack hx (y := y14) (z := y14) hown (wz hZ hw 102 rfl) (wz hZ hw 79 rfl) (notFace_of_selects (args := #[]) (wz hZ hw 81 rfl)) (wz hZ hw 81 rfl) (wz hZ hw 80 rfl) (by decide) (backOf (W := 0) (rm14 l Z a0 hw [] nA bA 2 fF cs T4.heap n0 Z4 c6_4 c6_5 c6_6 c6_7 c6_1 hcs) hZ (wq hw 82 rfl) (wq hw 10 rfl) (by decide) (by decide)) q8a q8c (g := (mkF m 167 (LQ pF 2 x0 x1 x2 x3 nA pk [sR b1, sR nA, sI 2]) [(.ref nA)])) rfl (by rw [hml]; rfl) (Steps.refl _) (argsL := []) (rest := []) (lenOf pd_12 rfl) rfl (leW rfl) (hb hby at_167) (fun _ _ => ⟨rfl, e7, (by decide : 5 + 1 + 0 + 0 + 0 ≤ _), (by decide : 76 + 3 + 0 + 0 + 0 ≤ _)⟩)
  dsimp only [Pt.U, Pt.locs, Pt.cells, Pt.slots] at X8 l8 y8 z8 st8 hQ8
  subst l8 y8 z8
  obtain ⟨rfl, N8q, e8⟩ := hQ8
  have hv8 : (f14 nA bA 2 fF cs) = (Int32.ofNat 2) := by unfold f14; exact own_sh0 _
  rw [hv8] at st8
  have N8 := Fr.app N7 N8q
  refine Go.via (fun t k => st8.trans k) ?_
  refine Vi (T8.setTop (mkF m 185 (LQ pF 2 x0 x1 x2 x3 nA pk [sR b1, sR nA, sI 2]) [(.int 0), (.ref nA)])) (fun tZ kZ => ?_) ?_
  · refine XS.iload X8.here hx rfl (hb hby at_170) rfl ?_
    refine XS.icmpYes X8.here hx rfl (pc0 := 172) (pc' := 177) rfl (hb hby at_172) rfl (teq (by decide)).1 (by decide) (by decide) ?_
    refine XS.iload X8.here hx rfl (hb hby at_177) rfl ?_
    refine XS.ifNo X8.here hx rfl (hb hby at_179) rfl ((if0 _ _).trans (tlt (by decide)).2.2.2) ?_
    refine XS.aload X8.here hx rfl (hb hby at_182) rfl rfl ?_
    refine XS.iconst X8.here hx rfl (hb hby at_184) ?_
    exact kZ
  obtain ⟨cq9, kq9, q9a, q9b, q9c⟩ := isOf hZ e8 c6_4
  obtain ⟨_, _, ⟨T9, L9, k9, n9⟩, -, X9, ⟨Lc9, hQ9, l9, y9, z9⟩, st9⟩ := X8.virtualBack hx (y := y32) (z := y32) hown (wz hZ hw 151 rfl) (wz hZ hw 152 rfl) (notFace_of_selects (args := #[]) (wz hZ hw 154 rfl)) (wz hZ hw 154 rfl) (wz hZ hw 153 rfl) (by decide) (backOf (W := 0) (rm32 l Z a0 hw [] nA (0 : Int32) bA 2 fF cs sv T4.heap n0 Z4 c6_4 c6_5 c6_6 c6_7 c6_1 c6_2 hcs (by decide) (by decide) (by decide) hsv) hZ (wq hw 155 rfl) (wq hw 10 rfl) (by decide) (by decide)) q9a q9c (g := (mkF m 185 (LQ pF 2 x0 x1 x2 x3 nA pk [sR b1, sR nA, sI 2]) [(.int 0), (.ref nA)])) rfl (by rw [hml]; rfl) (Steps.refl _) (argsL := [(.int 0)]) (rest := []) (lenOf pd_27 rfl) rfl (leW rfl) (hb hby at_185) (fun _ _ => ⟨rfl, e8, (by decide : 5 + 1 + 0 + 0 + 0 + 0 ≤ _), (by decide : 76 + 3 + 0 + 0 + 0 + 0 ≤ _)⟩)
  dsimp only [Pt.U, Pt.locs, Pt.cells, Pt.slots] at X9 l9 y9 z9 st9 hQ9
  subst l9 y9 z9
  obtain ⟨rfl, N9q, e9⟩ := hQ9
  have N9 := Fr.app N8 N9q
  refine Go.via (fun t k => st9.trans k) ?_
  refine Vi (T9.setTop (mkF m 204 (LQ pF 2 x0 x1 x2 x3 nA pk [sR b1, sR nA, sI 2]) [(.int 1), (.ref nA)])) (fun tZ kZ => ?_) ?_
  · refine XS.iload X9.here hx rfl (hb hby at_188) rfl ?_
    refine XS.icmpYes X9.here hx rfl (pc0 := 190) (pc' := 195) rfl (hb hby at_190) rfl (teq (own_rt2 hx0 hf0)).1 (by decide) (by decide) ?_
    refine XS.iload X9.here hx rfl (hb hby at_195) rfl ?_
    refine XS.iconst X9.here hx rfl (hb hby at_197) ?_
    refine XS.icmpNo X9.here hx rfl (hb hby at_198) rfl (tlt (by decide)).2.2.2 ?_
    refine XS.aload X9.here hx rfl (hb hby at_201) rfl rfl ?_
    refine XS.iconst X9.here hx rfl (hb hby at_203) ?_
    exact kZ
  obtain ⟨cq10, kq10, q10a, q10b, q10c⟩ := isOf hZ e9 c6_4
  obtain ⟨_, _, ⟨T10, L10, k10, n10⟩, -, X10, ⟨Lc10, hQ10, l10, y10, z10⟩, st10⟩ := X9.virtualBack hx (y := y32) (z := y32) hown (wz hZ hw 151 rfl) (wz hZ hw 152 rfl) (notFace_of_selects (args := #[]) (wz hZ hw 154 rfl)) (wz hZ hw 154 rfl) (wz hZ hw 153 rfl) (by decide) (backOf (W := 0) (rm32 l Z a0 hw [] nA (1 : Int32) bA 2 fF cs sv T4.heap n0 Z4 c6_4 c6_5 c6_6 c6_7 c6_1 c6_2 hcs (by decide) (by decide) (by decide) hsv) hZ (wq hw 155 rfl) (wq hw 10 rfl) (by decide) (by decide)) q10a q10c (g := (mkF m 204 (LQ pF 2 x0 x1 x2 x3 nA pk [sR b1, sR nA, sI 2]) [(.int 1), (.ref nA)])) rfl (by rw [hml]; rfl) (Steps.refl _) (argsL := [(.int 1)]) (rest := []) (lenOf pd_27 rfl) rfl (leW rfl) (hb hby at_204) (fun _ _ => ⟨rfl, e9, (by decide : 5 + 1 + 0 + 0 + 0 + 0 + 0 ≤ _), (by decide : 76 + 3 + 0 + 0 + 0 + 0 + 0 ≤ _)⟩)
  dsimp only [Pt.U, Pt.locs, Pt.cells, Pt.slots] at X10 l10 y10 z10 st10 hQ10
  subst l10 y10 z10
  obtain ⟨rfl, N10q, e10⟩ := hQ10
  have N10 := Fr.app N9 N10q
  refine Go.via (fun t k => st10.trans k) ?_
  refine Vi (T10.setTop (mkF m 253 (LQ pF 2 x0 x1 x2 x3 nA pk [sR b1, sR nA, sI 2]) [(.int 1)])) (fun tZ kZ => ?_) ?_
  · refine XS.iload X10.here hx rfl (hb hby at_207) rfl ?_
    refine XS.icmpYes X10.here hx rfl (pc0 := 209) (pc' := 214) rfl (hb hby at_209) rfl (teq (own_rt2 hx1 hf1)).1 (by decide) (by decide) ?_
    refine XS.iload X10.here hx rfl (hb hby at_214) rfl ?_
    refine XS.iconst X10.here hx rfl (hb hby at_216) ?_
    refine XS.icmpYes X10.here hx rfl (pc0 := 217) (pc' := 233) rfl (hb hby at_217) rfl (flt (by decide)).2.2.2 (by decide) (by decide) ?_
    refine XS.iload X10.here hx rfl (hb hby at_233) rfl ?_
    refine XS.iconst X10.here hx rfl (hb hby at_235) ?_
    refine XS.icmpYes X10.here hx rfl (pc0 := 236) (pc' := 252) rfl (hb hby at_236) rfl (flt (by decide)).2.2.2 (by decide) (by decide) ?_
    refine XS.iconst X10.here hx rfl (hb hby at_252) ?_
    exact kZ
  refine Go.retNW (s := s) (vm₁ := vmT) X10 hx hST (by rw [e10]; exact hk4) hlk (t := .boolean) hret (by simp) (hb hby at_253) (by decide) (by decide) ?_
  exact ⟨rfl, N10⟩
theorem tail_2_1 (l : Launch) (Z : State) (a0 : Array Value) (hw : HW a0 Z) {p : Program} {e : Env} {s : State} {m : MethodId} {args : Array Value} {below : List Frame} {meth : Method} {c : Code} {T0 : State} {locs0 : List Loc} {vmT : Vm} {h0 : Heap} {n0 kT : Nat} {x0 x1 x2 x3 cs : Int32} {sv : Value} {em : Addr} (hC : Com l Z a0 p e s m args below meth c T0 locs0 vmT 5 76 h0 n0 kT x0 x1 x2 x3 cs sv em) (pF : Nat → Int32) (nA bA pk : Addr) (fF : Nat → Int32) (hfit : ∀ k, k < 2 → fits .byte (.int (fF k)) = true) (hf0 : fF (0 : Int32).toNatClampNeg = nar .byte ((nar .char x0).toInt8.toInt32)) (hf1 : fF (1 : Int32).toNatClampNeg = nar .byte ((nar .char x1).toInt8.toInt32)) (E_n : Exa Z h0 nA "java/lang/String") (F_c : Fld Z h0 nA "java/lang/String" "coder" "B" (.int 0)) (F_v : Fld Z h0 nA "java/lang/String" "value" "[B" (.ref bA)) (V_b : AV Z h0 bA .byte 2 (fun k => .int (fF k))) (hd0 : x0 = 46) :
    Go p e below (fun o u => ∃ v L, o = .returned v ∧ Q0 n0 v u.heap L ∧ ReturnedEndW s o u L 32 4224) (T0.setTop (mkF m 78 (LQ pF 2 x0 x1 x2 x3 nA pk [.unset, .unset, .unset]) [])) := by
  obtain ⟨X0, hx, hby, hml, hlk, hret, hZ, hown, wS, Z0, e0, N0, hST, hkT, hCH, hx0, hx1, hx2, hx3, hcs, hsv, S_CS, S_SV, S_EM, hold⟩ := hC
  obtain ⟨T1, h1, X1, e1, E1, A1, D1, -, st1⟩ := newO X0 hx hZ hown (wq hw 31 rfl) (wq hw 32 rfl) (wq hw 33 rfl) e0 (g := (mkF m 78 (LQ pF 2 x0 x1 x2 x3 nA pk [.unset, .unset, .unset]) [])) rfl (hb hby at_78) (by decide) (by decide)
  obtain ⟨b1, g1⟩ : ∃ z, z = h0.size := ⟨_, rfl⟩
  rw [← g1] at A1 D1 st1
  have g_b1 : n0 ≤ b1 := Nat.le_trans Z0 (Nat.le_of_eq g1.symm)
  have sz_b1 : h0.size ≤ b1 := Nat.le_trans ((Keep.refl h0 [])).1 (Nat.le_of_eq g1.symm)
  have ne_nA_b1 : nA ≠ b1 := Nat.ne_of_lt (Nat.lt_of_lt_of_le E_n.lt (Nat.le_of_eq g1.symm))
  have ne_bA_b1 : bA ≠ b1 := Nat.ne_of_lt (Nat.lt_of_lt_of_le V_b.lt (Nat.le_of_eq g1.symm))
  have Ac2 := CHr.ext E1 hCH
  have CR2c := CHr.trans (CHr.refl hCH) Ac2
  have c3_0 := hold.ext E1
  have c3_1 := S_CS.ext c3_0.2
  have c3_2 := S_SV.ext c3_0.2
  have c3_3 := S_EM.ext c3_0.2
  have c3_4 := E_n.ext E1
  have c3_5 := F_c.ext E1
  have c3_6 := F_v.ext E1
  have c3_7 := V_b.ext E1
  have K1 : Keep h0 h1 [] := (Keep.refl h0 []).ext E1
  have Z1 := Nat.le_trans Z0 E1.1
  have hk1 := Nat.le_trans hkT E1.1
  have Sf_b1 := Safe.ext E1 hCH (Safe.new (Nat.le_of_eq g1.symm))
  have F1_packageName : Fld Z h1 b1 "com/example/bindery/bindery/compiler/JavaType" "packageName" "Ljava/lang/String;" .null := D1 (Or.inr (wq hw 52 rfl)) (ty := (.object "java/lang/String")) (by decide)
  have F1_name : Fld Z h1 b1 "com/example/bindery/bindery/compiler/JavaType" "name" "Ljava/lang/String;" .null := D1 (Or.inr (wq hw 54 rfl)) (ty := (.object "java/lang/String")) (by decide)
  have F1_argument : Fld Z h1 b1 "com/example/bindery/bindery/compiler/JavaType" "argument" "Ljava/util/Optional;" .null := D1 (Or.inr (wq hw 56 rfl)) (ty := (.object "java/util/Optional")) (by decide)
  refine Go.via st1 ?_
  refine Vi (T1.setTop (mkF m 86 (LQ pF 2 x0 x1 x2 x3 nA pk [.unset, .unset, .unset]) [(.ref nA), (.ref pk), (.ref b1), (.ref b1)])) (fun tZ kZ => ?_) ?_
  · refine XS.dup X1.here hx rfl (hb hby at_81) rfl rfl ?_
    refine XS.aload X1.here hx rfl (hb hby at_82) rfl rfl ?_
    refine XS.aload X1.here hx rfl (hb hby at_84) rfl rfl ?_
    exact kZ
  obtain ⟨_, _, ⟨T4, L4, k4, n4⟩, -, X4, ⟨Lc4, hQ4, l4, y4, z4⟩, st4⟩ := X1.specialBack hx (y := y6) rfl hown (wz hZ hw 34 rfl) (wz hZ hw 35 rfl) (wz hZ hw 36 rfl) (by decide) (backOf (W := 1) (rm6 l Z a0 hw [] b1 pk nA em h1 n0 Z1 A1 F1_packageName F1_name F1_argument g_b1 c3_3) hZ (wq hw 36 rfl) (wq hw 33 rfl) (by decide) (by decide)) (g := (mkF m 86 (LQ pF 2 x0 x1 x2 x3 nA pk [.unset, .unset, .unset]) [(.ref nA), (.ref pk), (.ref b1), (.ref b1)])) rfl (by rw [hml]; rfl) (Steps.refl _) (a := b1) (argsL := [(.ref pk), (.ref nA)]) (rest := [(.ref b1)]) (lenOf pd_5 rfl) rfl (leW rfl) (hb hby at_86) (fun _ _ => ⟨rfl, e1, (by decide : 5 + 1 + 0 ≤ _), (by decide : 76 + 3 + 0 ≤ _)⟩)
  dsimp only [Pt.U, Pt.locs, Pt.cells, Pt.slots] at X4 l4 y4 z4 st4 hQ4
  subst l4 y4 z4
  obtain ⟨rfl, N4q, Kq4, f4_0, f4_1, f4_2, f4_3, f4_4⟩ := hQ4
  have Ac5 := CHr.keep Kq4 (allS Sf_b1 all0) Ac2.1
  have Sf5_0 := Ac5.safe A1.lt Sf_b1
  have CR5c := CHr.trans CR2c Ac5
  have c6_0 := c3_0.keep Kq4 (allS g_b1 all0)
  have c6_1 := S_CS.ext c6_0.2
  have c6_2 := S_SV.ext c6_0.2
  have c6_4 := c3_4.keep Kq4
  have c6_5 := c3_5.keep Kq4 (ninS ne_nA_b1 nin0)
  have c6_6 := c3_6.keep Kq4 (ninS ne_nA_b1 nin0)
  have c6_7 := c3_7.keep Kq4 (ninS ne_bA_b1 nin0)
  have K4 : Keep h0 T4.heap [] := K1.trans Kq4 (allS (Or.inr sz_b1) all0)
  have Z4 := Nat.le_trans Z1 Kq4.1
  have hk4 := Nat.le_trans hk1 Kq4.1
  have N4 := Fr.app N0 N4q
  refine Go.via (fun t k => st4.trans k) ?_
  refine Vi (T4.setTop (mkF m 93 (LQ pF 2 x0 x1 x2 x3 nA pk [sR b1, .unset, .unset]) [(.ref b1)])) (fun tZ kZ => ?_) ?_
  · refine XS.astore X4.here hx rfl (hb hby at_89) rfl rfl (l' := (LQ pF 2 x0 x1 x2 x3 nA pk [sR b1, .unset, .unset])) rfl ?_
    refine XS.aload X4.here hx rfl (hb hby at_91) rfl rfl ?_
    exact kZ
  obtain ⟨cq7, kq7, q7a, q7b, q7c⟩ := isOf hZ rfl f4_0
  obtain ⟨_, _, ⟨T7, L7, k7, n7⟩, -, X7, hS7, -, ⟨Lc7, hQ7, l7, y7, z7, A7⟩, st7⟩ := virtualBackS (s := s.setVm vmT) X4 hx (y := y10) (z := y10) hown (wz hZ hw 57 rfl) (wz hZ hw 58 rfl) (notFace_of_selects (args := #[]) (wz hZ hw 60 rfl)) (wz hZ hw 60 rfl) (wz hZ hw 59 rfl) (by decide) (backOfSH (s := s) (vm0 := vmT) (W := 0) (rm10n2B l Z a0 hw [] b1 nA bA fF cs sv 0 T4.heap n0 Z4 f4_0 f4_2 c6_4 c6_5 c6_6 c6_7 c6_1 c6_2 hcs hsv (by decide) (by decide) (by decide) (by decide) (by decide) (by decide) (own_l2_1 _ _ _ _ (by rw [hf0]; exact own_dot hd0)) (by decide)) hZ (wq hw 61 rfl) (wq hw 33 rfl) (by decide) (by decide) (own_EW hw) Ac5.1) q7a q7c (g := (mkF m 93 (LQ pF 2 x0 x1 x2 x3 nA pk [sR b1, .unset, .unset]) [(.ref b1)])) rfl (by rw [hml]; rfl) (Steps.refl _) (argsL := []) (rest := []) (lenOf pd_8 rfl) rfl (leW rfl) (hb hby at_93) (fun _ _ => ⟨rfl, rfl, (by decide : 5 + 1 + 0 + 2 ≤ _), (by decide : 76 + 3 + 0 + 68 ≤ _)⟩)
  dsimp only [Pt.U, Pt.locs, Pt.cells, Pt.slots] at X7 hS7 l7 y7 z7 A7 st7 hQ7
  subst l7 y7 z7
  obtain ⟨b7_0, b7_1, rfl, N7q, Kq7, f7_0, f7_1, f7_2, f7_3, f7_4, f7_5, f7_6, f7_7, f7_8, f7_9, f7_10, f7_11⟩ := hQ7
  have Sf8_0 := A7.safe f4_0.lt Sf5_0
  have CR8c := CHr.trans CR5c A7
  have c9_0 := c6_0.keep Kq7 all0
  have c9_3 := S_EM.ext c9_0.2
  have c9_10 := f4_1.keep Kq7 nin0
  have c9_12 := f4_3.keep Kq7 nin0
  have K7 : Keep h0 T7.heap [] := K4.trans Kq7 all0
  have Z7 := Nat.le_trans Z4 Kq7.1
  have ne_b7_1_nA := AV.neExa f7_11 f7_2 (wq hw 9 rfl)
  have ne_b7_1_b1 := AV.neExa f7_11 f7_0 (wq hw 32 rfl)
  have ne_b7_1_b7_0 := AV.neExa f7_11 f7_8 (wq hw 9 rfl)
  have N7 := Fr.app N4 N7q
  have hS7c : s.Since T7.vm T7.heap.size := State.Since.trans hST hS7 (Nat.le_trans hk4 Kq7.1)
  replace hZ : Z.Warmed39 (s.setVm T7.vm).vm := State.Warmed39.trans (t := s.setVm vmT) hZ hS7.1
  replace hown : (s.setVm T7.vm).vm.findClass "com/example/bindery/bindery/compiler/JavaTypeOuterNamePinLaw" = some m.cls := by rw [show (s.setVm T7.vm).vm = T7.vm from rfl, hS7.1.alike.findClass]; exact hown
  refine Go.via (fun t k => st7.trans k) ?_
  refine Vi (T7.setTop (mkF m 167 (LQ pF 2 x0 x1 x2 x3 nA pk [sR b1, sR b7_0, sI 0]) [(.ref b7_0)])) (fun tZ kZ => ?_) ?_
  · refine XS.astore X7.here hx rfl (hb hby at_96) rfl rfl (l' := (LQ pF 2 x0 x1 x2 x3 nA pk [sR b1, sR b7_0, .unset])) rfl ?_
    refine XS.iload X7.here hx rfl (hb hby at_98) rfl ?_
    refine XS.istore X7.here hx rfl (hb hby at_100) rfl (l' := (LQ pF 2 x0 x1 x2 x3 nA pk [sR b1, sR b7_0, sI 2])) rfl ?_
    refine XS.iload X7.here hx rfl (hb hby at_102) rfl ?_
    refine XS.iconst X7.here hx rfl (hb hby at_104) ?_
    refine XS.icmpYes X7.here hx rfl (pc0 := 105) (pc' := 118) rfl (hb hby at_105) rfl (flt (by decide)).2.2.2 (by decide) (by decide) ?_
    refine XS.iload X7.here hx rfl (hb hby at_118) rfl ?_
    refine XS.iconst X7.here hx rfl (hb hby at_120) ?_
    refine XS.icmpYes X7.here hx rfl (pc0 := 121) (pc' := 134) rfl (hb hby at_121) rfl (flt (by decide)).2.2.2 (by decide) (by decide) ?_
    refine XS.iload X7.here hx rfl (hb hby at_134) rfl ?_
    refine XS.iconst X7.here hx rfl (hb hby at_136) ?_
    refine XS.icmpNo X7.here hx rfl (hb hby at_137) rfl (tlt (by decide)).2.2.2 ?_
    refine XS.iload X7.here hx rfl (hb hby at_140) rfl ?_
    refine XS.bipush X7.here hx rfl (hb hby at_142) ?_
    have sg144 : Steps p.tables e below (T7.setTop (mkF m 150 (LQ pF 2 x0 x1 x2 x3 nA pk [sR b1, sR b7_0, sI (if x1 = (46 : Int32) then (1 : Int32) else (2 : Int32))]) [])) tZ → Steps p.tables e below (T7.setTop (mkF m 144 (LQ pF 2 x0 x1 x2 x3 nA pk [sR b1, sR b7_0, sI 2]) [(.int 46), (.int x1)])) tZ := by
      intro kj
      by_cases hc144 : x1 = (46 : Int32)
      · try simp only [if_pos hc144] at kj
        refine XS.icmpNo X7.here hx rfl (hb hby at_144) rfl (teq hc144).2 ?_
        refine XS.iconst X7.here hx rfl (hb hby at_147) ?_
        refine XS.istore X7.here hx rfl (hb hby at_148) rfl (l' := (LQ pF 2 x0 x1 x2 x3 nA pk [sR b1, sR b7_0, sI 1])) rfl ?_
        exact kj
      · try simp only [if_neg hc144] at kj
        refine XS.icmpYes X7.here hx rfl (pc0 := 144) (pc' := 150) rfl (hb hby at_144) rfl (feq hc144).2 (by decide) (by decide) ?_
        exact kj
    refine sg144 ?_
    show Steps p.tables e below (T7.setTop (mkF m 150 (LQ pF 2 x0 x1 x2 x3 nA pk [sR b1, sR b7_0, sI (if x1 = (46 : Int32) then (1 : Int32) else (2 : Int32))]) [])) _
    refine XS.iload X7.here hx rfl (hb hby at_150) rfl ?_
    refine XS.ifNo X7.here hx rfl (hb hby at_152) rfl ((if0 _ _).trans (tlt (by decide)).2.2.2) ?_
    refine XS.iload X7.here hx rfl (hb hby at_155) rfl ?_
    refine XS.bipush X7.here hx rfl (hb hby at_157) ?_
    refine XS.icmpNo X7.here hx rfl (hb hby at_159) rfl (teq hd0).2 ?_
    refine XS.iconst X7.here hx rfl (hb hby at_162) ?_
    refine XS.istore X7.here hx rfl (hb hby at_163) rfl (l' := (LQ pF 2 x0 x1 x2 x3 nA pk [sR b1, sR b7_0, sI 0])) rfl ?_
    refine XS.aload X7.here hx rfl (hb hby at_165) rfl rfl ?_
    exact kZ
  obtain ⟨cq10, kq10, q10a, q10b, q10c⟩ := isOf hZ rfl f7_8
  obtain ⟨_, _, ⟨T10, L10, k10, n10⟩, -, X10, ⟨Lc10, hQ10, l10, y10, z10⟩, st10⟩ := X7.virtualBack hx (y := y14) (z := y14) hown (wz hZ hw 102 rfl) (wz hZ hw 79 rfl) (notFace_of_selects (args := #[]) (wz hZ hw 81 rfl)) (wz hZ hw 81 rfl) (wz hZ hw 80 rfl) (by decide) (backOf (W := 0) (rm14 l Z a0 hw [] b7_0 b7_1 0 (own_t []) cs T7.heap n0 Z7 f7_8 f7_9 f7_10 f7_11 f7_6 hcs) hZ (wq hw 82 rfl) (wq hw 10 rfl) (by decide) (by decide)) q10a q10c (g := (mkF m 167 (LQ pF 2 x0 x1 x2 x3 nA pk [sR b1, sR b7_0, sI 0]) [(.ref b7_0)])) rfl (by rw [hml]; rfl) (Steps.refl _) (argsL := []) (rest := []) (lenOf pd_12 rfl) rfl (leW rfl) (hb hby at_167) (fun _ _ => ⟨rfl, rfl, (by decide : 5 + 1 + 0 + 2 + 0 ≤ _), (by decide : 76 + 3 + 0 + 68 + 0 ≤ _)⟩)
  dsimp only [Pt.U, Pt.locs, Pt.cells, Pt.slots] at X10 l10 y10 z10 st10 hQ10
  subst l10 y10 z10
  obtain ⟨rfl, N10q, e10⟩ := hQ10
  have hv10 : (f14 b7_0 b7_1 0 (own_t []) cs) = (Int32.ofNat 0) := by unfold f14; exact own_sh0 _
  rw [hv10] at st10
  have N10 := Fr.app N7 N10q
  refine Go.via (fun t k => st10.trans k) ?_
  refine Vi (T10.setTop (mkF m 253 (LQ pF 2 x0 x1 x2 x3 nA pk [sR b1, sR b7_0, sI 0]) [(.int 1)])) (fun tZ kZ => ?_) ?_
  · refine XS.iload X10.here hx rfl (hb hby at_170) rfl ?_
    refine XS.icmpYes X10.here hx rfl (pc0 := 172) (pc' := 177) rfl (hb hby at_172) rfl (teq (by decide)).1 (by decide) (by decide) ?_
    refine XS.iload X10.here hx rfl (hb hby at_177) rfl ?_
    refine XS.ifYes X10.here hx rfl (pc0 := 179) (pc' := 195) rfl (hb hby at_179) rfl ((if0 _ _).trans (flt (by decide)).2.2.2) (by decide) (by decide) ?_
    refine XS.iload X10.here hx rfl (hb hby at_195) rfl ?_
    refine XS.iconst X10.here hx rfl (hb hby at_197) ?_
    refine XS.icmpYes X10.here hx rfl (pc0 := 198) (pc' := 214) rfl (hb hby at_198) rfl (flt (by decide)).2.2.2 (by decide) (by decide) ?_
    refine XS.iload X10.here hx rfl (hb hby at_214) rfl ?_
    refine XS.iconst X10.here hx rfl (hb hby at_216) ?_
    refine XS.icmpYes X10.here hx rfl (pc0 := 217) (pc' := 233) rfl (hb hby at_217) rfl (flt (by decide)).2.2.2 (by decide) (by decide) ?_
    refine XS.iload X10.here hx rfl (hb hby at_233) rfl ?_
    refine XS.iconst X10.here hx rfl (hb hby at_235) ?_
    refine XS.icmpYes X10.here hx rfl (pc0 := 236) (pc' := 252) rfl (hb hby at_236) rfl (flt (by decide)).2.2.2 (by decide) (by decide) ?_
    refine XS.iconst X10.here hx rfl (hb hby at_252) ?_
    exact kZ
  refine Go.retNW (s := s) (vm₁ := T7.vm) X10 hx hS7c (by rw [e10]; exact (Nat.le_refl _)) hlk (t := .boolean) hret (by simp) (hb hby at_253) (by decide) (by decide) ?_
  exact ⟨rfl, N10⟩
theorem tail_2_2 (l : Launch) (Z : State) (a0 : Array Value) (hw : HW a0 Z) {p : Program} {e : Env} {s : State} {m : MethodId} {args : Array Value} {below : List Frame} {meth : Method} {c : Code} {T0 : State} {locs0 : List Loc} {vmT : Vm} {h0 : Heap} {n0 kT : Nat} {x0 x1 x2 x3 cs : Int32} {sv : Value} {em : Addr} (hC : Com l Z a0 p e s m args below meth c T0 locs0 vmT 5 76 h0 n0 kT x0 x1 x2 x3 cs sv em) (pF : Nat → Int32) (nA bA pk : Addr) (fF : Nat → Int32) (hfit : ∀ k, k < 2 → fits .byte (.int (fF k)) = true) (hf0 : fF (0 : Int32).toNatClampNeg = nar .byte ((nar .char x0).toInt8.toInt32)) (hf1 : fF (1 : Int32).toNatClampNeg = nar .byte ((nar .char x1).toInt8.toInt32)) (E_n : Exa Z h0 nA "java/lang/String") (F_c : Fld Z h0 nA "java/lang/String" "coder" "B" (.int 0)) (F_v : Fld Z h0 nA "java/lang/String" "value" "[B" (.ref bA)) (V_b : AV Z h0 bA .byte 2 (fun k => .int (fF k))) (hd0 : ¬ x0 = 46) (hd1 : x1 = 46) :
    Go p e below (fun o u => ∃ v L, o = .returned v ∧ Q0 n0 v u.heap L ∧ ReturnedEndW s o u L 32 4224) (T0.setTop (mkF m 78 (LQ pF 2 x0 x1 x2 x3 nA pk [.unset, .unset, .unset]) [])) := by
  obtain ⟨X0, hx, hby, hml, hlk, hret, hZ, hown, wS, Z0, e0, N0, hST, hkT, hCH, hx0, hx1, hx2, hx3, hcs, hsv, S_CS, S_SV, S_EM, hold⟩ := hC
  obtain ⟨T1, h1, X1, e1, E1, A1, D1, -, st1⟩ := newO X0 hx hZ hown (wq hw 31 rfl) (wq hw 32 rfl) (wq hw 33 rfl) e0 (g := (mkF m 78 (LQ pF 2 x0 x1 x2 x3 nA pk [.unset, .unset, .unset]) [])) rfl (hb hby at_78) (by decide) (by decide)
  obtain ⟨b1, g1⟩ : ∃ z, z = h0.size := ⟨_, rfl⟩
  rw [← g1] at A1 D1 st1
  have g_b1 : n0 ≤ b1 := Nat.le_trans Z0 (Nat.le_of_eq g1.symm)
  have sz_b1 : h0.size ≤ b1 := Nat.le_trans ((Keep.refl h0 [])).1 (Nat.le_of_eq g1.symm)
  have ne_nA_b1 : nA ≠ b1 := Nat.ne_of_lt (Nat.lt_of_lt_of_le E_n.lt (Nat.le_of_eq g1.symm))
  have ne_bA_b1 : bA ≠ b1 := Nat.ne_of_lt (Nat.lt_of_lt_of_le V_b.lt (Nat.le_of_eq g1.symm))
  have Ac2 := CHr.ext E1 hCH
  have CR2c := CHr.trans (CHr.refl hCH) Ac2
  have c3_0 := hold.ext E1
  have c3_1 := S_CS.ext c3_0.2
  have c3_2 := S_SV.ext c3_0.2
  have c3_3 := S_EM.ext c3_0.2
  have c3_4 := E_n.ext E1
  have c3_5 := F_c.ext E1
  have c3_6 := F_v.ext E1
  have c3_7 := V_b.ext E1
  have K1 : Keep h0 h1 [] := (Keep.refl h0 []).ext E1
  have Z1 := Nat.le_trans Z0 E1.1
  have hk1 := Nat.le_trans hkT E1.1
  have Sf_b1 := Safe.ext E1 hCH (Safe.new (Nat.le_of_eq g1.symm))
  have F1_packageName : Fld Z h1 b1 "com/example/bindery/bindery/compiler/JavaType" "packageName" "Ljava/lang/String;" .null := D1 (Or.inr (wq hw 52 rfl)) (ty := (.object "java/lang/String")) (by decide)
  have F1_name : Fld Z h1 b1 "com/example/bindery/bindery/compiler/JavaType" "name" "Ljava/lang/String;" .null := D1 (Or.inr (wq hw 54 rfl)) (ty := (.object "java/lang/String")) (by decide)
  have F1_argument : Fld Z h1 b1 "com/example/bindery/bindery/compiler/JavaType" "argument" "Ljava/util/Optional;" .null := D1 (Or.inr (wq hw 56 rfl)) (ty := (.object "java/util/Optional")) (by decide)
  refine Go.via st1 ?_
  refine Vi (T1.setTop (mkF m 86 (LQ pF 2 x0 x1 x2 x3 nA pk [.unset, .unset, .unset]) [(.ref nA), (.ref pk), (.ref b1), (.ref b1)])) (fun tZ kZ => ?_) ?_
  · refine XS.dup X1.here hx rfl (hb hby at_81) rfl rfl ?_
    refine XS.aload X1.here hx rfl (hb hby at_82) rfl rfl ?_
    refine XS.aload X1.here hx rfl (hb hby at_84) rfl rfl ?_
    exact kZ
  obtain ⟨_, _, ⟨T4, L4, k4, n4⟩, -, X4, ⟨Lc4, hQ4, l4, y4, z4⟩, st4⟩ := X1.specialBack hx (y := y6) rfl hown (wz hZ hw 34 rfl) (wz hZ hw 35 rfl) (wz hZ hw 36 rfl) (by decide) (backOf (W := 1) (rm6 l Z a0 hw [] b1 pk nA em h1 n0 Z1 A1 F1_packageName F1_name F1_argument g_b1 c3_3) hZ (wq hw 36 rfl) (wq hw 33 rfl) (by decide) (by decide)) (g := (mkF m 86 (LQ pF 2 x0 x1 x2 x3 nA pk [.unset, .unset, .unset]) [(.ref nA), (.ref pk), (.ref b1), (.ref b1)])) rfl (by rw [hml]; rfl) (Steps.refl _) (a := b1) (argsL := [(.ref pk), (.ref nA)]) (rest := [(.ref b1)]) (lenOf pd_5 rfl) rfl (leW rfl) (hb hby at_86) (fun _ _ => ⟨rfl, e1, (by decide : 5 + 1 + 0 ≤ _), (by decide : 76 + 3 + 0 ≤ _)⟩)
  dsimp only [Pt.U, Pt.locs, Pt.cells, Pt.slots] at X4 l4 y4 z4 st4 hQ4
  subst l4 y4 z4
  obtain ⟨rfl, N4q, Kq4, f4_0, f4_1, f4_2, f4_3, f4_4⟩ := hQ4
  have Ac5 := CHr.keep Kq4 (allS Sf_b1 all0) Ac2.1
  have Sf5_0 := Ac5.safe A1.lt Sf_b1
  have CR5c := CHr.trans CR2c Ac5
  have c6_0 := c3_0.keep Kq4 (allS g_b1 all0)
  have c6_1 := S_CS.ext c6_0.2
  have c6_2 := S_SV.ext c6_0.2
  have c6_4 := c3_4.keep Kq4
  have c6_5 := c3_5.keep Kq4 (ninS ne_nA_b1 nin0)
  have c6_6 := c3_6.keep Kq4 (ninS ne_nA_b1 nin0)
  have c6_7 := c3_7.keep Kq4 (ninS ne_bA_b1 nin0)
  have K4 : Keep h0 T4.heap [] := K1.trans Kq4 (allS (Or.inr sz_b1) all0)
  have Z4 := Nat.le_trans Z1 Kq4.1
  have hk4 := Nat.le_trans hk1 Kq4.1
  have N4 := Fr.app N0 N4q
  refine Go.via (fun t k => st4.trans k) ?_
  refine Vi (T4.setTop (mkF m 93 (LQ pF 2 x0 x1 x2 x3 nA pk [sR b1, .unset, .unset]) [(.ref b1)])) (fun tZ kZ => ?_) ?_
  · refine XS.astore X4.here hx rfl (hb hby at_89) rfl rfl (l' := (LQ pF 2 x0 x1 x2 x3 nA pk [sR b1, .unset, .unset])) rfl ?_
    refine XS.aload X4.here hx rfl (hb hby at_91) rfl rfl ?_
    exact kZ
  obtain ⟨cq7, kq7, q7a, q7b, q7c⟩ := isOf hZ rfl f4_0
  obtain ⟨_, _, ⟨T7, L7, k7, n7⟩, -, X7, ⟨Lc7, hQ7, l7, y7, z7⟩, st7⟩ := X4.virtualBack hx (y := y10) (z := y10) hown (wz hZ hw 57 rfl) (wz hZ hw 58 rfl) (notFace_of_selects (args := #[]) (wz hZ hw 60 rfl)) (wz hZ hw 60 rfl) (wz hZ hw 59 rfl) (by decide) (backOf (W := 0) (rm10n2C l Z a0 hw [] b1 nA bA fF cs sv 1 T4.heap n0 Z4 f4_0 f4_2 c6_4 c6_5 c6_6 c6_7 c6_1 c6_2 hcs hsv (by decide) (by decide) (by decide) (by decide) (by decide) (by decide) (by decide) (by decide) (by decide) (by decide) (by decide) (by decide) (by decide) hfit (own_l2_2 _ _ _ _ (by rw [hf0]; exact own_ndot hx0 hd0) (by rw [hf1]; exact own_dot hd1)) (by decide)) hZ (wq hw 61 rfl) (wq hw 33 rfl) (by decide) (by decide)) q7a q7c (g := (mkF m 93 (LQ pF 2 x0 x1 x2 x3 nA pk [sR b1, .unset, .unset]) [(.ref b1)])) rfl (by rw [hml]; rfl) (Steps.refl _) (argsL := []) (rest := []) (lenOf pd_8 rfl) rfl (leW rfl) (hb hby at_93) (fun _ _ => ⟨rfl, rfl, (by decide : 5 + 1 + 0 + 2 ≤ _), (by decide : 76 + 3 + 0 + 8 ≤ _)⟩)
  dsimp only [Pt.U, Pt.locs, Pt.cells, Pt.slots] at X7 l7 y7 z7 st7 hQ7
  subst l7 y7 z7
  obtain ⟨b7_0, b7_1, rfl, N7q, Kq7, hz_b7_0, hz_b7_1, f7_0, f7_1, f7_2, f7_3, f7_4, f7_5, f7_6, f7_7, f7_8, f7_9, f7_10, f7_11⟩ := hQ7
  have Ac8 := CHr.keep Kq7 all0 Ac5.1
  have Sf8_0 := Ac8.safe f4_0.lt Sf5_0
  have CR8c := CHr.trans CR5c Ac8
  have c9_0 := c6_0.keep Kq7 all0
  have c9_3 := S_EM.ext c9_0.2
  have c9_10 := f4_1.keep Kq7 nin0
  have c9_12 := f4_3.keep Kq7 nin0
  have K7 : Keep h0 T7.heap [] := K4.trans Kq7 all0
  have Z7 := Nat.le_trans Z4 Kq7.1
  have hk7 := Nat.le_trans hk4 Kq7.1
  have N7 := Fr.app N4 N7q
  refine Go.via (fun t k => st7.trans k) ?_
  refine Vi (T7.setTop (mkF m 167 (LQ pF 2 x0 x1 x2 x3 nA pk [sR b1, sR b7_0, sI 1]) [(.ref b7_0)])) (fun tZ kZ => ?_) ?_
  · refine XS.astore X7.here hx rfl (hb hby at_96) rfl rfl (l' := (LQ pF 2 x0 x1 x2 x3 nA pk [sR b1, sR b7_0, .unset])) rfl ?_
    refine XS.iload X7.here hx rfl (hb hby at_98) rfl ?_
    refine XS.istore X7.here hx rfl (hb hby at_100) rfl (l' := (LQ pF 2 x0 x1 x2 x3 nA pk [sR b1, sR b7_0, sI 2])) rfl ?_
    refine XS.iload X7.here hx rfl (hb hby at_102) rfl ?_
    refine XS.iconst X7.here hx rfl (hb hby at_104) ?_
    refine XS.icmpYes X7.here hx rfl (pc0 := 105) (pc' := 118) rfl (hb hby at_105) rfl (flt (by decide)).2.2.2 (by decide) (by decide) ?_
    refine XS.iload X7.here hx rfl (hb hby at_118) rfl ?_
    refine XS.iconst X7.here hx rfl (hb hby at_120) ?_
    refine XS.icmpYes X7.here hx rfl (pc0 := 121) (pc' := 134) rfl (hb hby at_121) rfl (flt (by decide)).2.2.2 (by decide) (by decide) ?_
    refine XS.iload X7.here hx rfl (hb hby at_134) rfl ?_
    refine XS.iconst X7.here hx rfl (hb hby at_136) ?_
    refine XS.icmpNo X7.here hx rfl (hb hby at_137) rfl (tlt (by decide)).2.2.2 ?_
    refine XS.iload X7.here hx rfl (hb hby at_140) rfl ?_
    refine XS.bipush X7.here hx rfl (hb hby at_142) ?_
    refine XS.icmpNo X7.here hx rfl (hb hby at_144) rfl (teq hd1).2 ?_
    refine XS.iconst X7.here hx rfl (hb hby at_147) ?_
    refine XS.istore X7.here hx rfl (hb hby at_148) rfl (l' := (LQ pF 2 x0 x1 x2 x3 nA pk [sR b1, sR b7_0, sI 1])) rfl ?_
    refine XS.iload X7.here hx rfl (hb hby at_150) rfl ?_
    refine XS.ifNo X7.here hx rfl (hb hby at_152) rfl ((if0 _ _).trans (tlt (by decide)).2.2.2) ?_
    refine XS.iload X7.here hx rfl (hb hby at_155) rfl ?_
    refine XS.bipush X7.here hx rfl (hb hby at_157) ?_
    refine XS.icmpYes X7.here hx rfl (pc0 := 159) (pc' := 165) rfl (hb hby at_159) rfl (feq hd0).2 (by decide) (by decide) ?_
    refine XS.aload X7.here hx rfl (hb hby at_165) rfl rfl ?_
    exact kZ
  obtain ⟨cq10, kq10, q10a, q10b, q10c⟩ := isOf hZ rfl f7_8
  obtain ⟨_, _, ⟨T10, L10, k10, n10⟩, -, X10, ⟨Lc10, hQ10, l10, y10, z10⟩, st10⟩ := X7.virtualBack hx (y := y14) (z := y14) hown (wz hZ hw 102 rfl) (wz hZ hw 79 rfl) (notFace_of_selects (args := #[]) (wz hZ hw 81 rfl)) (wz hZ hw 81 rfl) (wz hZ hw 80 rfl) (by decide) (backOf (W := 0) (rm14 l Z a0 hw [] b7_0 b7_1 1 (own_sh fF 0) cs T7.heap n0 Z7 f7_8 f7_10 f7_9 f7_11 f7_6 hcs) hZ (wq hw 82 rfl) (wq hw 10 rfl) (by decide) (by decide)) q10a q10c (g := (mkF m 167 (LQ pF 2 x0 x1 x2 x3 nA pk [sR b1, sR b7_0, sI 1]) [(.ref b7_0)])) rfl (by rw [hml]; rfl) (Steps.refl _) (argsL := []) (rest := []) (lenOf pd_12 rfl) rfl (leW rfl) (hb hby at_167) (fun _ _ => ⟨rfl, rfl, (by decide : 5 + 1 + 0 + 2 + 0 ≤ _), (by decide : 76 + 3 + 0 + 8 + 0 ≤ _)⟩)
  dsimp only [Pt.U, Pt.locs, Pt.cells, Pt.slots] at X10 l10 y10 z10 st10 hQ10
  subst l10 y10 z10
  obtain ⟨rfl, N10q, e10⟩ := hQ10
  have hv10 : (f14 b7_0 b7_1 1 (own_sh fF 0) cs) = (Int32.ofNat 1) := by unfold f14; exact own_sh0 _
  rw [hv10] at st10
  have N10 := Fr.app N7 N10q
  refine Go.via (fun t k => st10.trans k) ?_
  refine Vi (T10.setTop (mkF m 185 (LQ pF 2 x0 x1 x2 x3 nA pk [sR b1, sR b7_0, sI 1]) [(.int 0), (.ref b7_0)])) (fun tZ kZ => ?_) ?_
  · refine XS.iload X10.here hx rfl (hb hby at_170) rfl ?_
    refine XS.icmpYes X10.here hx rfl (pc0 := 172) (pc' := 177) rfl (hb hby at_172) rfl (teq (by decide)).1 (by decide) (by decide) ?_
    refine XS.iload X10.here hx rfl (hb hby at_177) rfl ?_
    refine XS.ifNo X10.here hx rfl (hb hby at_179) rfl ((if0 _ _).trans (tlt (by decide)).2.2.2) ?_
    refine XS.aload X10.here hx rfl (hb hby at_182) rfl rfl ?_
    refine XS.iconst X10.here hx rfl (hb hby at_184) ?_
    exact kZ
  obtain ⟨cq11, kq11, q11a, q11b, q11c⟩ := isOf hZ e10 f7_8
  obtain ⟨_, _, ⟨T11, L11, k11, n11⟩, -, X11, ⟨Lc11, hQ11, l11, y11, z11⟩, st11⟩ := X10.virtualBack hx (y := y32) (z := y32) hown (wz hZ hw 151 rfl) (wz hZ hw 152 rfl) (notFace_of_selects (args := #[]) (wz hZ hw 154 rfl)) (wz hZ hw 154 rfl) (wz hZ hw 153 rfl) (by decide) (backOf (W := 0) (rm32 l Z a0 hw [] b7_0 (0 : Int32) b7_1 1 (own_sh fF 0) cs sv T7.heap n0 Z7 f7_8 f7_10 f7_9 f7_11 f7_6 f7_7 hcs (by decide) (by decide) (by decide) hsv) hZ (wq hw 155 rfl) (wq hw 10 rfl) (by decide) (by decide)) q11a q11c (g := (mkF m 185 (LQ pF 2 x0 x1 x2 x3 nA pk [sR b1, sR b7_0, sI 1]) [(.int 0), (.ref b7_0)])) rfl (by rw [hml]; rfl) (Steps.refl _) (argsL := [(.int 0)]) (rest := []) (lenOf pd_27 rfl) rfl (leW rfl) (hb hby at_185) (fun _ _ => ⟨rfl, e10, (by decide : 5 + 1 + 0 + 2 + 0 + 0 ≤ _), (by decide : 76 + 3 + 0 + 8 + 0 + 0 ≤ _)⟩)
  dsimp only [Pt.U, Pt.locs, Pt.cells, Pt.slots] at X11 l11 y11 z11 st11 hQ11
  subst l11 y11 z11
  obtain ⟨rfl, N11q, e11⟩ := hQ11
  have N11 := Fr.app N10 N11q
  refine Go.via (fun t k => st11.trans k) ?_
  refine Vi (T11.setTop (mkF m 253 (LQ pF 2 x0 x1 x2 x3 nA pk [sR b1, sR b7_0, sI 1]) [(.int 1)])) (fun tZ kZ => ?_) ?_
  · refine XS.iload X11.here hx rfl (hb hby at_188) rfl ?_
    refine XS.icmpYes X11.here hx rfl (pc0 := 190) (pc' := 195) rfl (hb hby at_190) rfl (teq (own_rt2 hx0 hf0)).1 (by decide) (by decide) ?_
    refine XS.iload X11.here hx rfl (hb hby at_195) rfl ?_
    refine XS.iconst X11.here hx rfl (hb hby at_197) ?_
    refine XS.icmpYes X11.here hx rfl (pc0 := 198) (pc' := 214) rfl (hb hby at_198) rfl (flt (by decide)).2.2.2 (by decide) (by decide) ?_
    refine XS.iload X11.here hx rfl (hb hby at_214) rfl ?_
    refine XS.iconst X11.here hx rfl (hb hby at_216) ?_
    refine XS.icmpYes X11.here hx rfl (pc0 := 217) (pc' := 233) rfl (hb hby at_217) rfl (flt (by decide)).2.2.2 (by decide) (by decide) ?_
    refine XS.iload X11.here hx rfl (hb hby at_233) rfl ?_
    refine XS.iconst X11.here hx rfl (hb hby at_235) ?_
    refine XS.icmpYes X11.here hx rfl (pc0 := 236) (pc' := 252) rfl (hb hby at_236) rfl (flt (by decide)).2.2.2 (by decide) (by decide) ?_
    refine XS.iconst X11.here hx rfl (hb hby at_252) ?_
    exact kZ
  refine Go.retNW (s := s) (vm₁ := vmT) X11 hx hST (by rw [e11]; exact hk7) hlk (t := .boolean) hret (by simp) (hb hby at_253) (by decide) (by decide) ?_
  exact ⟨rfl, N11⟩
theorem tail_3_0 (l : Launch) (Z : State) (a0 : Array Value) (hw : HW a0 Z) {p : Program} {e : Env} {s : State} {m : MethodId} {args : Array Value} {below : List Frame} {meth : Method} {c : Code} {T0 : State} {locs0 : List Loc} {vmT : Vm} {h0 : Heap} {n0 kT : Nat} {x0 x1 x2 x3 cs : Int32} {sv : Value} {em : Addr} (hC : Com l Z a0 p e s m args below meth c T0 locs0 vmT 5 78 h0 n0 kT x0 x1 x2 x3 cs sv em) (pF : Nat → Int32) (nA bA pk : Addr) (fF : Nat → Int32) (hfit : ∀ k, k < 3 → fits .byte (.int (fF k)) = true) (hf0 : fF (0 : Int32).toNatClampNeg = nar .byte ((nar .char x0).toInt8.toInt32)) (hf1 : fF (1 : Int32).toNatClampNeg = nar .byte ((nar .char x1).toInt8.toInt32)) (hf2 : fF (2 : Int32).toNatClampNeg = nar .byte ((nar .char x2).toInt8.toInt32)) (E_n : Exa Z h0 nA "java/lang/String") (F_c : Fld Z h0 nA "java/lang/String" "coder" "B" (.int 0)) (F_v : Fld Z h0 nA "java/lang/String" "value" "[B" (.ref bA)) (V_b : AV Z h0 bA .byte 3 (fun k => .int (fF k))) (hd0 : ¬ x0 = 46) (hd1 : ¬ x1 = 46) (hd2 : ¬ x2 = 46) :
    Go p e below (fun o u => ∃ v L, o = .returned v ∧ Q0 n0 v u.heap L ∧ ReturnedEndW s o u L 32 4224) (T0.setTop (mkF m 78 (LQ pF 3 x0 x1 x2 x3 nA pk [.unset, .unset, .unset]) [])) := by
  obtain ⟨X0, hx, hby, hml, hlk, hret, hZ, hown, wS, Z0, e0, N0, hST, hkT, hCH, hx0, hx1, hx2, hx3, hcs, hsv, S_CS, S_SV, S_EM, hold⟩ := hC
  obtain ⟨T1, h1, X1, e1, E1, A1, D1, -, st1⟩ := newO X0 hx hZ hown (wq hw 31 rfl) (wq hw 32 rfl) (wq hw 33 rfl) e0 (g := (mkF m 78 (LQ pF 3 x0 x1 x2 x3 nA pk [.unset, .unset, .unset]) [])) rfl (hb hby at_78) (by decide) (by decide)
  obtain ⟨b1, g1⟩ : ∃ z, z = h0.size := ⟨_, rfl⟩
  rw [← g1] at A1 D1 st1
  have g_b1 : n0 ≤ b1 := Nat.le_trans Z0 (Nat.le_of_eq g1.symm)
  have sz_b1 : h0.size ≤ b1 := Nat.le_trans ((Keep.refl h0 [])).1 (Nat.le_of_eq g1.symm)
  have ne_nA_b1 : nA ≠ b1 := Nat.ne_of_lt (Nat.lt_of_lt_of_le E_n.lt (Nat.le_of_eq g1.symm))
  have ne_bA_b1 : bA ≠ b1 := Nat.ne_of_lt (Nat.lt_of_lt_of_le V_b.lt (Nat.le_of_eq g1.symm))
  have Ac2 := CHr.ext E1 hCH
  have CR2c := CHr.trans (CHr.refl hCH) Ac2
  have c3_0 := hold.ext E1
  have c3_1 := S_CS.ext c3_0.2
  have c3_2 := S_SV.ext c3_0.2
  have c3_3 := S_EM.ext c3_0.2
  have c3_4 := E_n.ext E1
  have c3_5 := F_c.ext E1
  have c3_6 := F_v.ext E1
  have c3_7 := V_b.ext E1
  have K1 : Keep h0 h1 [] := (Keep.refl h0 []).ext E1
  have Z1 := Nat.le_trans Z0 E1.1
  have hk1 := Nat.le_trans hkT E1.1
  have Sf_b1 := Safe.ext E1 hCH (Safe.new (Nat.le_of_eq g1.symm))
  have F1_packageName : Fld Z h1 b1 "com/example/bindery/bindery/compiler/JavaType" "packageName" "Ljava/lang/String;" .null := D1 (Or.inr (wq hw 52 rfl)) (ty := (.object "java/lang/String")) (by decide)
  have F1_name : Fld Z h1 b1 "com/example/bindery/bindery/compiler/JavaType" "name" "Ljava/lang/String;" .null := D1 (Or.inr (wq hw 54 rfl)) (ty := (.object "java/lang/String")) (by decide)
  have F1_argument : Fld Z h1 b1 "com/example/bindery/bindery/compiler/JavaType" "argument" "Ljava/util/Optional;" .null := D1 (Or.inr (wq hw 56 rfl)) (ty := (.object "java/util/Optional")) (by decide)
  refine Go.via st1 ?_
  refine Vi (T1.setTop (mkF m 86 (LQ pF 3 x0 x1 x2 x3 nA pk [.unset, .unset, .unset]) [(.ref nA), (.ref pk), (.ref b1), (.ref b1)])) (fun tZ kZ => ?_) ?_
  · refine XS.dup X1.here hx rfl (hb hby at_81) rfl rfl ?_
    refine XS.aload X1.here hx rfl (hb hby at_82) rfl rfl ?_
    refine XS.aload X1.here hx rfl (hb hby at_84) rfl rfl ?_
    exact kZ
  obtain ⟨_, _, ⟨T4, L4, k4, n4⟩, -, X4, ⟨Lc4, hQ4, l4, y4, z4⟩, st4⟩ := X1.specialBack hx (y := y6) rfl hown (wz hZ hw 34 rfl) (wz hZ hw 35 rfl) (wz hZ hw 36 rfl) (by decide) (backOf (W := 1) (rm6 l Z a0 hw [] b1 pk nA em h1 n0 Z1 A1 F1_packageName F1_name F1_argument g_b1 c3_3) hZ (wq hw 36 rfl) (wq hw 33 rfl) (by decide) (by decide)) (g := (mkF m 86 (LQ pF 3 x0 x1 x2 x3 nA pk [.unset, .unset, .unset]) [(.ref nA), (.ref pk), (.ref b1), (.ref b1)])) rfl (by rw [hml]; rfl) (Steps.refl _) (a := b1) (argsL := [(.ref pk), (.ref nA)]) (rest := [(.ref b1)]) (lenOf pd_5 rfl) rfl (leW rfl) (hb hby at_86) (fun _ _ => ⟨rfl, e1, (by decide : 5 + 1 + 0 ≤ _), (by decide : 78 + 3 + 0 ≤ _)⟩)
  dsimp only [Pt.U, Pt.locs, Pt.cells, Pt.slots] at X4 l4 y4 z4 st4 hQ4
  subst l4 y4 z4
  obtain ⟨rfl, N4q, Kq4, f4_0, f4_1, f4_2, f4_3, f4_4⟩ := hQ4
  have Ac5 := CHr.keep Kq4 (allS Sf_b1 all0) Ac2.1
  have Sf5_0 := Ac5.safe A1.lt Sf_b1
  have CR5c := CHr.trans CR2c Ac5
  have c6_0 := c3_0.keep Kq4 (allS g_b1 all0)
  have c6_1 := S_CS.ext c6_0.2
  have c6_2 := S_SV.ext c6_0.2
  have c6_4 := c3_4.keep Kq4
  have c6_5 := c3_5.keep Kq4 (ninS ne_nA_b1 nin0)
  have c6_6 := c3_6.keep Kq4 (ninS ne_nA_b1 nin0)
  have c6_7 := c3_7.keep Kq4 (ninS ne_bA_b1 nin0)
  have K4 : Keep h0 T4.heap [] := K1.trans Kq4 (allS (Or.inr sz_b1) all0)
  have Z4 := Nat.le_trans Z1 Kq4.1
  have hk4 := Nat.le_trans hk1 Kq4.1
  have N4 := Fr.app N0 N4q
  refine Go.via (fun t k => st4.trans k) ?_
  refine Vi (T4.setTop (mkF m 93 (LQ pF 3 x0 x1 x2 x3 nA pk [sR b1, .unset, .unset]) [(.ref b1)])) (fun tZ kZ => ?_) ?_
  · refine XS.astore X4.here hx rfl (hb hby at_89) rfl rfl (l' := (LQ pF 3 x0 x1 x2 x3 nA pk [sR b1, .unset, .unset])) rfl ?_
    refine XS.aload X4.here hx rfl (hb hby at_91) rfl rfl ?_
    exact kZ
  obtain ⟨cq7, kq7, q7a, q7b, q7c⟩ := isOf hZ rfl f4_0
  obtain ⟨_, _, ⟨T7, L7, k7, n7⟩, -, X7, ⟨Lc7, hQ7, l7, y7, z7⟩, st7⟩ := X4.virtualBack hx (y := y10) (z := y10) hown (wz hZ hw 57 rfl) (wz hZ hw 58 rfl) (notFace_of_selects (args := #[]) (wz hZ hw 60 rfl)) (wz hZ hw 60 rfl) (wz hZ hw 59 rfl) (by decide) (backOf (W := 0) (rm10n3A l Z a0 hw [] b1 nA bA fF cs sv T4.heap n0 Z4 f4_0 f4_2 c6_4 c6_5 c6_6 c6_7 c6_1 c6_2 hcs hsv (own_l3_0 _ _ _ _ (by rw [hf0]; exact own_ndot hx0 hd0) (by rw [hf1]; exact own_ndot hx1 hd1) (by rw [hf2]; exact own_ndot hx2 hd2))) hZ (wq hw 61 rfl) (wq hw 33 rfl) (by decide) (by decide)) q7a q7c (g := (mkF m 93 (LQ pF 3 x0 x1 x2 x3 nA pk [sR b1, .unset, .unset]) [(.ref b1)])) rfl (by rw [hml]; rfl) (Steps.refl _) (argsL := []) (rest := []) (lenOf pd_8 rfl) rfl (leW rfl) (hb hby at_93) (fun _ _ => ⟨rfl, rfl, (by decide : 5 + 1 + 0 + 0 ≤ _), (by decide : 78 + 3 + 0 + 0 ≤ _)⟩)
  dsimp only [Pt.U, Pt.locs, Pt.cells, Pt.slots] at X7 l7 y7 z7 st7 hQ7
  subst l7 y7 z7
  obtain ⟨rfl, N7q, e7⟩ := hQ7
  have N7 := Fr.app N4 N7q
  refine Go.via (fun t k => st7.trans k) ?_
  refine Vi (T7.setTop (mkF m 167 (LQ pF 3 x0 x1 x2 x3 nA pk [sR b1, sR nA, sI 3]) [(.ref nA)])) (fun tZ kZ => ?_) ?_
  · refine XS.astore X7.here hx rfl (hb hby at_96) rfl rfl (l' := (LQ pF 3 x0 x1 x2 x3 nA pk [sR b1, sR nA, .unset])) rfl ?_
    refine XS.iload X7.here hx rfl (hb hby at_98) rfl ?_
    refine XS.istore X7.here hx rfl (hb hby at_100) rfl (l' := (LQ pF 3 x0 x1 x2 x3 nA pk [sR b1, sR nA, sI 3])) rfl ?_
    refine XS.iload X7.here hx rfl (hb hby at_102) rfl ?_
    refine XS.iconst X7.here hx rfl (hb hby at_104) ?_
    refine XS.icmpYes X7.here hx rfl (pc0 := 105) (pc' := 118) rfl (hb hby at_105) rfl (flt (by decide)).2.2.2 (by decide) (by decide) ?_
    refine XS.iload X7.here hx rfl (hb hby at_118) rfl ?_
    refine XS.iconst X7.here hx rfl (hb hby at_120) ?_
    refine XS.icmpNo X7.here hx rfl (hb hby at_121) rfl (tlt (by decide)).2.2.2 ?_
    refine XS.iload X7.here hx rfl (hb hby at_124) rfl ?_
    refine XS.bipush X7.here hx rfl (hb hby at_126) ?_
    refine XS.icmpYes X7.here hx rfl (pc0 := 128) (pc' := 134) rfl (hb hby at_128) rfl (feq hd2).2 (by decide) (by decide) ?_
    refine XS.iload X7.here hx rfl (hb hby at_134) rfl ?_
    refine XS.iconst X7.here hx rfl (hb hby at_136) ?_
    refine XS.icmpNo X7.here hx rfl (hb hby at_137) rfl (tlt (by decide)).2.2.2 ?_
    refine XS.iload X7.here hx rfl (hb hby at_140) rfl ?_
    refine XS.bipush X7.here hx rfl (hb hby at_142) ?_
    refine XS.icmpYes X7.here hx rfl (pc0 := 144) (pc' := 150) rfl (hb hby at_144) rfl (feq hd1).2 (by decide) (by decide) ?_
    refine XS.iload X7.here hx rfl (hb hby at_150) rfl ?_
    refine XS.ifNo X7.here hx rfl (hb hby at_152) rfl ((if0 _ _).trans (tlt (by decide)).2.2.2) ?_
    refine XS.iload X7.here hx rfl (hb hby at_155) rfl ?_
    refine XS.bipush X7.here hx rfl (hb hby at_157) ?_
    refine XS.icmpYes X7.here hx rfl (pc0 := 159) (pc' := 165) rfl (hb hby at_159) rfl (feq hd0).2 (by decide) (by decide) ?_
    refine XS.aload X7.here hx rfl (hb hby at_165) rfl rfl ?_
    exact kZ
  obtain ⟨cq8, kq8, q8a, q8b, q8c⟩ := isOf hZ e7 c6_4
  obtain ⟨_, _, ⟨T8, L8, k8, n8⟩, -, X8, ⟨Lc8, hQ8, l8, y8, z8⟩, st8⟩ := X7.virtualBack hx (y := y14) (z := y14) hown (wz hZ hw 102 rfl) (wz hZ hw 79 rfl) (notFace_of_selects (args := #[]) (wz hZ hw 81 rfl)) (wz hZ hw 81 rfl) (wz hZ hw 80 rfl) (by decide) (backOf (W := 0) (rm14 l Z a0 hw [] nA bA 3 fF cs T4.heap n0 Z4 c6_4 c6_5 c6_6 c6_7 c6_1 hcs) hZ (wq hw 82 rfl) (wq hw 10 rfl) (by decide) (by decide)) q8a q8c (g := (mkF m 167 (LQ pF 3 x0 x1 x2 x3 nA pk [sR b1, sR nA, sI 3]) [(.ref nA)])) rfl (by rw [hml]; rfl) (Steps.refl _) (argsL := []) (rest := []) (lenOf pd_12 rfl) rfl (leW rfl) (hb hby at_167) (fun _ _ => ⟨rfl, e7, (by decide : 5 + 1 + 0 + 0 + 0 ≤ _), (by decide : 78 + 3 + 0 + 0 + 0 ≤ _)⟩)
  dsimp only [Pt.U, Pt.locs, Pt.cells, Pt.slots] at X8 l8 y8 z8 st8 hQ8
  subst l8 y8 z8
  obtain ⟨rfl, N8q, e8⟩ := hQ8
  have hv8 : (f14 nA bA 3 fF cs) = (Int32.ofNat 3) := by unfold f14; exact own_sh0 _
  rw [hv8] at st8
  have N8 := Fr.app N7 N8q
  refine Go.via (fun t k => st8.trans k) ?_
  refine Vi (T8.setTop (mkF m 185 (LQ pF 3 x0 x1 x2 x3 nA pk [sR b1, sR nA, sI 3]) [(.int 0), (.ref nA)])) (fun tZ kZ => ?_) ?_
  · refine XS.iload X8.here hx rfl (hb hby at_170) rfl ?_
    refine XS.icmpYes X8.here hx rfl (pc0 := 172) (pc' := 177) rfl (hb hby at_172) rfl (teq (by decide)).1 (by decide) (by decide) ?_
    refine XS.iload X8.here hx rfl (hb hby at_177) rfl ?_
    refine XS.ifNo X8.here hx rfl (hb hby at_179) rfl ((if0 _ _).trans (tlt (by decide)).2.2.2) ?_
    refine XS.aload X8.here hx rfl (hb hby at_182) rfl rfl ?_
    refine XS.iconst X8.here hx rfl (hb hby at_184) ?_
    exact kZ
  obtain ⟨cq9, kq9, q9a, q9b, q9c⟩ := isOf hZ e8 c6_4
  obtain ⟨_, _, ⟨T9, L9, k9, n9⟩, -, X9, ⟨Lc9, hQ9, l9, y9, z9⟩, st9⟩ := X8.virtualBack hx (y := y32) (z := y32) hown (wz hZ hw 151 rfl) (wz hZ hw 152 rfl) (notFace_of_selects (args := #[]) (wz hZ hw 154 rfl)) (wz hZ hw 154 rfl) (wz hZ hw 153 rfl) (by decide) (backOf (W := 0) (rm32 l Z a0 hw [] nA (0 : Int32) bA 3 fF cs sv T4.heap n0 Z4 c6_4 c6_5 c6_6 c6_7 c6_1 c6_2 hcs (by decide) (by decide) (by decide) hsv) hZ (wq hw 155 rfl) (wq hw 10 rfl) (by decide) (by decide)) q9a q9c (g := (mkF m 185 (LQ pF 3 x0 x1 x2 x3 nA pk [sR b1, sR nA, sI 3]) [(.int 0), (.ref nA)])) rfl (by rw [hml]; rfl) (Steps.refl _) (argsL := [(.int 0)]) (rest := []) (lenOf pd_27 rfl) rfl (leW rfl) (hb hby at_185) (fun _ _ => ⟨rfl, e8, (by decide : 5 + 1 + 0 + 0 + 0 + 0 ≤ _), (by decide : 78 + 3 + 0 + 0 + 0 + 0 ≤ _)⟩)
  dsimp only [Pt.U, Pt.locs, Pt.cells, Pt.slots] at X9 l9 y9 z9 st9 hQ9
  subst l9 y9 z9
  obtain ⟨rfl, N9q, e9⟩ := hQ9
  have N9 := Fr.app N8 N9q
  refine Go.via (fun t k => st9.trans k) ?_
  refine Vi (T9.setTop (mkF m 204 (LQ pF 3 x0 x1 x2 x3 nA pk [sR b1, sR nA, sI 3]) [(.int 1), (.ref nA)])) (fun tZ kZ => ?_) ?_
  · refine XS.iload X9.here hx rfl (hb hby at_188) rfl ?_
    refine XS.icmpYes X9.here hx rfl (pc0 := 190) (pc' := 195) rfl (hb hby at_190) rfl (teq (own_rt2 hx0 hf0)).1 (by decide) (by decide) ?_
    refine XS.iload X9.here hx rfl (hb hby at_195) rfl ?_
    refine XS.iconst X9.here hx rfl (hb hby at_197) ?_
    refine XS.icmpNo X9.here hx rfl (hb hby at_198) rfl (tlt (by decide)).2.2.2 ?_
    refine XS.aload X9.here hx rfl (hb hby at_201) rfl rfl ?_
    refine XS.iconst X9.here hx rfl (hb hby at_203) ?_
    exact kZ
  obtain ⟨cq10, kq10, q10a, q10b, q10c⟩ := isOf hZ e9 c6_4
  obtain ⟨_, _, ⟨T10, L10, k10, n10⟩, -, X10, ⟨Lc10, hQ10, l10, y10, z10⟩, st10⟩ := X9.virtualBack hx (y := y32) (z := y32) hown (wz hZ hw 151 rfl) (wz hZ hw 152 rfl) (notFace_of_selects (args := #[]) (wz hZ hw 154 rfl)) (wz hZ hw 154 rfl) (wz hZ hw 153 rfl) (by decide) (backOf (W := 0) (rm32 l Z a0 hw [] nA (1 : Int32) bA 3 fF cs sv T4.heap n0 Z4 c6_4 c6_5 c6_6 c6_7 c6_1 c6_2 hcs (by decide) (by decide) (by decide) hsv) hZ (wq hw 155 rfl) (wq hw 10 rfl) (by decide) (by decide)) q10a q10c (g := (mkF m 204 (LQ pF 3 x0 x1 x2 x3 nA pk [sR b1, sR nA, sI 3]) [(.int 1), (.ref nA)])) rfl (by rw [hml]; rfl) (Steps.refl _) (argsL := [(.int 1)]) (rest := []) (lenOf pd_27 rfl) rfl (leW rfl) (hb hby at_204) (fun _ _ => ⟨rfl, e9, (by decide : 5 + 1 + 0 + 0 + 0 + 0 + 0 ≤ _), (by decide : 78 + 3 + 0 + 0 + 0 + 0 + 0 ≤ _)⟩)
  dsimp only [Pt.U, Pt.locs, Pt.cells, Pt.slots] at X10 l10 y10 z10 st10 hQ10
  subst l10 y10 z10
  obtain ⟨rfl, N10q, e10⟩ := hQ10
  have N10 := Fr.app N9 N10q
  refine Go.via (fun t k => st10.trans k) ?_
  refine Vi (T10.setTop (mkF m 223 (LQ pF 3 x0 x1 x2 x3 nA pk [sR b1, sR nA, sI 3]) [(.int 2), (.ref nA)])) (fun tZ kZ => ?_) ?_
  · refine XS.iload X10.here hx rfl (hb hby at_207) rfl ?_
    refine XS.icmpYes X10.here hx rfl (pc0 := 209) (pc' := 214) rfl (hb hby at_209) rfl (teq (own_rt2 hx1 hf1)).1 (by decide) (by decide) ?_
    refine XS.iload X10.here hx rfl (hb hby at_214) rfl ?_
    refine XS.iconst X10.here hx rfl (hb hby at_216) ?_
    refine XS.icmpNo X10.here hx rfl (hb hby at_217) rfl (tlt (by decide)).2.2.2 ?_
    refine XS.aload X10.here hx rfl (hb hby at_220) rfl rfl ?_
    refine XS.iconst X10.here hx rfl (hb hby at_222) ?_
    exact kZ
  obtain ⟨cq11, kq11, q11a, q11b, q11c⟩ := isOf hZ e10 c6_4
  obtain ⟨_, _, ⟨T11, L11, k11, n11⟩, -, X11, ⟨Lc11, hQ11, l11, y11, z11⟩, st11⟩ := X10.virtualBack hx (y := y32) (z := y32) hown (wz hZ hw 151 rfl) (wz hZ hw 152 rfl) (notFace_of_selects (args := #[]) (wz hZ hw 154 rfl)) (wz hZ hw 154 rfl) (wz hZ hw 153 rfl) (by decide) (backOf (W := 0) (rm32 l Z a0 hw [] nA (2 : Int32) bA 3 fF cs sv T4.heap n0 Z4 c6_4 c6_5 c6_6 c6_7 c6_1 c6_2 hcs (by decide) (by decide) (by decide) hsv) hZ (wq hw 155 rfl) (wq hw 10 rfl) (by decide) (by decide)) q11a q11c (g := (mkF m 223 (LQ pF 3 x0 x1 x2 x3 nA pk [sR b1, sR nA, sI 3]) [(.int 2), (.ref nA)])) rfl (by rw [hml]; rfl) (Steps.refl _) (argsL := [(.int 2)]) (rest := []) (lenOf pd_27 rfl) rfl (leW rfl) (hb hby at_223) (fun _ _ => ⟨rfl, e10, (by decide : 5 + 1 + 0 + 0 + 0 + 0 + 0 + 0 ≤ _), (by decide : 78 + 3 + 0 + 0 + 0 + 0 + 0 + 0 ≤ _)⟩)
  dsimp only [Pt.U, Pt.locs, Pt.cells, Pt.slots] at X11 l11 y11 z11 st11 hQ11
  subst l11 y11 z11
  obtain ⟨rfl, N11q, e11⟩ := hQ11
  have N11 := Fr.app N10 N11q
  refine Go.via (fun t k => st11.trans k) ?_
  refine Vi (T11.setTop (mkF m 253 (LQ pF 3 x0 x1 x2 x3 nA pk [sR b1, sR nA, sI 3]) [(.int 1)])) (fun tZ kZ => ?_) ?_
  · refine XS.iload X11.here hx rfl (hb hby at_226) rfl ?_
    refine XS.icmpYes X11.here hx rfl (pc0 := 228) (pc' := 233) rfl (hb hby at_228) rfl (teq (own_rt2 hx2 hf2)).1 (by decide) (by decide) ?_
    refine XS.iload X11.here hx rfl (hb hby at_233) rfl ?_
    refine XS.iconst X11.here hx rfl (hb hby at_235) ?_
    refine XS.icmpYes X11.here hx rfl (pc0 := 236) (pc' := 252) rfl (hb hby at_236) rfl (flt (by decide)).2.2.2 (by decide) (by decide) ?_
    refine XS.iconst X11.here hx rfl (hb hby at_252) ?_
    exact kZ
  refine Go.retNW (s := s) (vm₁ := vmT) X11 hx hST (by rw [e11]; exact hk4) hlk (t := .boolean) hret (by simp) (hb hby at_253) (by decide) (by decide) ?_
  exact ⟨rfl, N11⟩
theorem tail_3_1 (l : Launch) (Z : State) (a0 : Array Value) (hw : HW a0 Z) {p : Program} {e : Env} {s : State} {m : MethodId} {args : Array Value} {below : List Frame} {meth : Method} {c : Code} {T0 : State} {locs0 : List Loc} {vmT : Vm} {h0 : Heap} {n0 kT : Nat} {x0 x1 x2 x3 cs : Int32} {sv : Value} {em : Addr} (hC : Com l Z a0 p e s m args below meth c T0 locs0 vmT 5 78 h0 n0 kT x0 x1 x2 x3 cs sv em) (pF : Nat → Int32) (nA bA pk : Addr) (fF : Nat → Int32) (hfit : ∀ k, k < 3 → fits .byte (.int (fF k)) = true) (hf0 : fF (0 : Int32).toNatClampNeg = nar .byte ((nar .char x0).toInt8.toInt32)) (hf1 : fF (1 : Int32).toNatClampNeg = nar .byte ((nar .char x1).toInt8.toInt32)) (hf2 : fF (2 : Int32).toNatClampNeg = nar .byte ((nar .char x2).toInt8.toInt32)) (E_n : Exa Z h0 nA "java/lang/String") (F_c : Fld Z h0 nA "java/lang/String" "coder" "B" (.int 0)) (F_v : Fld Z h0 nA "java/lang/String" "value" "[B" (.ref bA)) (V_b : AV Z h0 bA .byte 3 (fun k => .int (fF k))) (hd0 : x0 = 46) :
    Go p e below (fun o u => ∃ v L, o = .returned v ∧ Q0 n0 v u.heap L ∧ ReturnedEndW s o u L 32 4224) (T0.setTop (mkF m 78 (LQ pF 3 x0 x1 x2 x3 nA pk [.unset, .unset, .unset]) [])) := by
  obtain ⟨X0, hx, hby, hml, hlk, hret, hZ, hown, wS, Z0, e0, N0, hST, hkT, hCH, hx0, hx1, hx2, hx3, hcs, hsv, S_CS, S_SV, S_EM, hold⟩ := hC
  obtain ⟨T1, h1, X1, e1, E1, A1, D1, -, st1⟩ := newO X0 hx hZ hown (wq hw 31 rfl) (wq hw 32 rfl) (wq hw 33 rfl) e0 (g := (mkF m 78 (LQ pF 3 x0 x1 x2 x3 nA pk [.unset, .unset, .unset]) [])) rfl (hb hby at_78) (by decide) (by decide)
  obtain ⟨b1, g1⟩ : ∃ z, z = h0.size := ⟨_, rfl⟩
  rw [← g1] at A1 D1 st1
  have g_b1 : n0 ≤ b1 := Nat.le_trans Z0 (Nat.le_of_eq g1.symm)
  have sz_b1 : h0.size ≤ b1 := Nat.le_trans ((Keep.refl h0 [])).1 (Nat.le_of_eq g1.symm)
  have ne_nA_b1 : nA ≠ b1 := Nat.ne_of_lt (Nat.lt_of_lt_of_le E_n.lt (Nat.le_of_eq g1.symm))
  have ne_bA_b1 : bA ≠ b1 := Nat.ne_of_lt (Nat.lt_of_lt_of_le V_b.lt (Nat.le_of_eq g1.symm))
  have Ac2 := CHr.ext E1 hCH
  have CR2c := CHr.trans (CHr.refl hCH) Ac2
  have c3_0 := hold.ext E1
  have c3_1 := S_CS.ext c3_0.2
  have c3_2 := S_SV.ext c3_0.2
  have c3_3 := S_EM.ext c3_0.2
  have c3_4 := E_n.ext E1
  have c3_5 := F_c.ext E1
  have c3_6 := F_v.ext E1
  have c3_7 := V_b.ext E1
  have K1 : Keep h0 h1 [] := (Keep.refl h0 []).ext E1
  have Z1 := Nat.le_trans Z0 E1.1
  have hk1 := Nat.le_trans hkT E1.1
  have Sf_b1 := Safe.ext E1 hCH (Safe.new (Nat.le_of_eq g1.symm))
  have F1_packageName : Fld Z h1 b1 "com/example/bindery/bindery/compiler/JavaType" "packageName" "Ljava/lang/String;" .null := D1 (Or.inr (wq hw 52 rfl)) (ty := (.object "java/lang/String")) (by decide)
  have F1_name : Fld Z h1 b1 "com/example/bindery/bindery/compiler/JavaType" "name" "Ljava/lang/String;" .null := D1 (Or.inr (wq hw 54 rfl)) (ty := (.object "java/lang/String")) (by decide)
  have F1_argument : Fld Z h1 b1 "com/example/bindery/bindery/compiler/JavaType" "argument" "Ljava/util/Optional;" .null := D1 (Or.inr (wq hw 56 rfl)) (ty := (.object "java/util/Optional")) (by decide)
  refine Go.via st1 ?_
  refine Vi (T1.setTop (mkF m 86 (LQ pF 3 x0 x1 x2 x3 nA pk [.unset, .unset, .unset]) [(.ref nA), (.ref pk), (.ref b1), (.ref b1)])) (fun tZ kZ => ?_) ?_
  · refine XS.dup X1.here hx rfl (hb hby at_81) rfl rfl ?_
    refine XS.aload X1.here hx rfl (hb hby at_82) rfl rfl ?_
    refine XS.aload X1.here hx rfl (hb hby at_84) rfl rfl ?_
    exact kZ
  obtain ⟨_, _, ⟨T4, L4, k4, n4⟩, -, X4, ⟨Lc4, hQ4, l4, y4, z4⟩, st4⟩ := X1.specialBack hx (y := y6) rfl hown (wz hZ hw 34 rfl) (wz hZ hw 35 rfl) (wz hZ hw 36 rfl) (by decide) (backOf (W := 1) (rm6 l Z a0 hw [] b1 pk nA em h1 n0 Z1 A1 F1_packageName F1_name F1_argument g_b1 c3_3) hZ (wq hw 36 rfl) (wq hw 33 rfl) (by decide) (by decide)) (g := (mkF m 86 (LQ pF 3 x0 x1 x2 x3 nA pk [.unset, .unset, .unset]) [(.ref nA), (.ref pk), (.ref b1), (.ref b1)])) rfl (by rw [hml]; rfl) (Steps.refl _) (a := b1) (argsL := [(.ref pk), (.ref nA)]) (rest := [(.ref b1)]) (lenOf pd_5 rfl) rfl (leW rfl) (hb hby at_86) (fun _ _ => ⟨rfl, e1, (by decide : 5 + 1 + 0 ≤ _), (by decide : 78 + 3 + 0 ≤ _)⟩)
  dsimp only [Pt.U, Pt.locs, Pt.cells, Pt.slots] at X4 l4 y4 z4 st4 hQ4
  subst l4 y4 z4
  obtain ⟨rfl, N4q, Kq4, f4_0, f4_1, f4_2, f4_3, f4_4⟩ := hQ4
  have Ac5 := CHr.keep Kq4 (allS Sf_b1 all0) Ac2.1
  have Sf5_0 := Ac5.safe A1.lt Sf_b1
  have CR5c := CHr.trans CR2c Ac5
  have c6_0 := c3_0.keep Kq4 (allS g_b1 all0)
  have c6_1 := S_CS.ext c6_0.2
  have c6_2 := S_SV.ext c6_0.2
  have c6_4 := c3_4.keep Kq4
  have c6_5 := c3_5.keep Kq4 (ninS ne_nA_b1 nin0)
  have c6_6 := c3_6.keep Kq4 (ninS ne_nA_b1 nin0)
  have c6_7 := c3_7.keep Kq4 (ninS ne_bA_b1 nin0)
  have K4 : Keep h0 T4.heap [] := K1.trans Kq4 (allS (Or.inr sz_b1) all0)
  have Z4 := Nat.le_trans Z1 Kq4.1
  have hk4 := Nat.le_trans hk1 Kq4.1
  have N4 := Fr.app N0 N4q
  refine Go.via (fun t k => st4.trans k) ?_
  refine Vi (T4.setTop (mkF m 93 (LQ pF 3 x0 x1 x2 x3 nA pk [sR b1, .unset, .unset]) [(.ref b1)])) (fun tZ kZ => ?_) ?_
  · refine XS.astore X4.here hx rfl (hb hby at_89) rfl rfl (l' := (LQ pF 3 x0 x1 x2 x3 nA pk [sR b1, .unset, .unset])) rfl ?_
    refine XS.aload X4.here hx rfl (hb hby at_91) rfl rfl ?_
    exact kZ
  obtain ⟨cq7, kq7, q7a, q7b, q7c⟩ := isOf hZ rfl f4_0
  obtain ⟨_, _, ⟨T7, L7, k7, n7⟩, -, X7, hS7, -, ⟨Lc7, hQ7, l7, y7, z7, A7⟩, st7⟩ := virtualBackS (s := s.setVm vmT) X4 hx (y := y10) (z := y10) hown (wz hZ hw 57 rfl) (wz hZ hw 58 rfl) (notFace_of_selects (args := #[]) (wz hZ hw 60 rfl)) (wz hZ hw 60 rfl) (wz hZ hw 59 rfl) (by decide) (backOfSH (s := s) (vm0 := vmT) (W := 0) (rm10n3B l Z a0 hw [] b1 nA bA fF cs sv 0 T4.heap n0 Z4 f4_0 f4_2 c6_4 c6_5 c6_6 c6_7 c6_1 c6_2 hcs hsv (by decide) (by decide) (by decide) (by decide) (by decide) (by decide) (own_l3_1 _ _ _ _ (by rw [hf0]; exact own_dot hd0)) (by decide)) hZ (wq hw 61 rfl) (wq hw 33 rfl) (by decide) (by decide) (own_EW hw) Ac5.1) q7a q7c (g := (mkF m 93 (LQ pF 3 x0 x1 x2 x3 nA pk [sR b1, .unset, .unset]) [(.ref b1)])) rfl (by rw [hml]; rfl) (Steps.refl _) (argsL := []) (rest := []) (lenOf pd_8 rfl) rfl (leW rfl) (hb hby at_93) (fun _ _ => ⟨rfl, rfl, (by decide : 5 + 1 + 0 + 2 ≤ _), (by decide : 78 + 3 + 0 + 68 ≤ _)⟩)
  dsimp only [Pt.U, Pt.locs, Pt.cells, Pt.slots] at X7 hS7 l7 y7 z7 A7 st7 hQ7
  subst l7 y7 z7
  obtain ⟨b7_0, b7_1, rfl, N7q, Kq7, f7_0, f7_1, f7_2, f7_3, f7_4, f7_5, f7_6, f7_7, f7_8, f7_9, f7_10, f7_11⟩ := hQ7
  have Sf8_0 := A7.safe f4_0.lt Sf5_0
  have CR8c := CHr.trans CR5c A7
  have c9_0 := c6_0.keep Kq7 all0
  have c9_3 := S_EM.ext c9_0.2
  have c9_10 := f4_1.keep Kq7 nin0
  have c9_12 := f4_3.keep Kq7 nin0
  have K7 : Keep h0 T7.heap [] := K4.trans Kq7 all0
  have Z7 := Nat.le_trans Z4 Kq7.1
  have ne_b7_1_nA := AV.neExa f7_11 f7_2 (wq hw 9 rfl)
  have ne_b7_1_b1 := AV.neExa f7_11 f7_0 (wq hw 32 rfl)
  have ne_b7_1_b7_0 := AV.neExa f7_11 f7_8 (wq hw 9 rfl)
  have N7 := Fr.app N4 N7q
  have hS7c : s.Since T7.vm T7.heap.size := State.Since.trans hST hS7 (Nat.le_trans hk4 Kq7.1)
  replace hZ : Z.Warmed39 (s.setVm T7.vm).vm := State.Warmed39.trans (t := s.setVm vmT) hZ hS7.1
  replace hown : (s.setVm T7.vm).vm.findClass "com/example/bindery/bindery/compiler/JavaTypeOuterNamePinLaw" = some m.cls := by rw [show (s.setVm T7.vm).vm = T7.vm from rfl, hS7.1.alike.findClass]; exact hown
  refine Go.via (fun t k => st7.trans k) ?_
  refine Vi (T7.setTop (mkF m 167 (LQ pF 3 x0 x1 x2 x3 nA pk [sR b1, sR b7_0, sI 0]) [(.ref b7_0)])) (fun tZ kZ => ?_) ?_
  · refine XS.astore X7.here hx rfl (hb hby at_96) rfl rfl (l' := (LQ pF 3 x0 x1 x2 x3 nA pk [sR b1, sR b7_0, .unset])) rfl ?_
    refine XS.iload X7.here hx rfl (hb hby at_98) rfl ?_
    refine XS.istore X7.here hx rfl (hb hby at_100) rfl (l' := (LQ pF 3 x0 x1 x2 x3 nA pk [sR b1, sR b7_0, sI 3])) rfl ?_
    refine XS.iload X7.here hx rfl (hb hby at_102) rfl ?_
    refine XS.iconst X7.here hx rfl (hb hby at_104) ?_
    refine XS.icmpYes X7.here hx rfl (pc0 := 105) (pc' := 118) rfl (hb hby at_105) rfl (flt (by decide)).2.2.2 (by decide) (by decide) ?_
    refine XS.iload X7.here hx rfl (hb hby at_118) rfl ?_
    refine XS.iconst X7.here hx rfl (hb hby at_120) ?_
    refine XS.icmpNo X7.here hx rfl (hb hby at_121) rfl (tlt (by decide)).2.2.2 ?_
    refine XS.iload X7.here hx rfl (hb hby at_124) rfl ?_
    refine XS.bipush X7.here hx rfl (hb hby at_126) ?_
    have sg128 : Steps p.tables e below (T7.setTop (mkF m 134 (LQ pF 3 x0 x1 x2 x3 nA pk [sR b1, sR b7_0, sI (if x2 = (46 : Int32) then (2 : Int32) else (3 : Int32))]) [])) tZ → Steps p.tables e below (T7.setTop (mkF m 128 (LQ pF 3 x0 x1 x2 x3 nA pk [sR b1, sR b7_0, sI 3]) [(.int 46), (.int x2)])) tZ := by
      intro kj
      by_cases hc128 : x2 = (46 : Int32)
      · try simp only [if_pos hc128] at kj
        refine XS.icmpNo X7.here hx rfl (hb hby at_128) rfl (teq hc128).2 ?_
        refine XS.iconst X7.here hx rfl (hb hby at_131) ?_
        refine XS.istore X7.here hx rfl (hb hby at_132) rfl (l' := (LQ pF 3 x0 x1 x2 x3 nA pk [sR b1, sR b7_0, sI 2])) rfl ?_
        exact kj
      · try simp only [if_neg hc128] at kj
        refine XS.icmpYes X7.here hx rfl (pc0 := 128) (pc' := 134) rfl (hb hby at_128) rfl (feq hc128).2 (by decide) (by decide) ?_
        exact kj
    refine sg128 ?_
    show Steps p.tables e below (T7.setTop (mkF m 134 (LQ pF 3 x0 x1 x2 x3 nA pk [sR b1, sR b7_0, sI (if x2 = (46 : Int32) then (2 : Int32) else (3 : Int32))]) [])) _
    refine XS.iload X7.here hx rfl (hb hby at_134) rfl ?_
    refine XS.iconst X7.here hx rfl (hb hby at_136) ?_
    refine XS.icmpNo X7.here hx rfl (hb hby at_137) rfl (tlt (by decide)).2.2.2 ?_
    refine XS.iload X7.here hx rfl (hb hby at_140) rfl ?_
    refine XS.bipush X7.here hx rfl (hb hby at_142) ?_
    have sg144 : Steps p.tables e below (T7.setTop (mkF m 150 (LQ pF 3 x0 x1 x2 x3 nA pk [sR b1, sR b7_0, sI (if x1 = (46 : Int32) then (1 : Int32) else (if x2 = (46 : Int32) then (2 : Int32) else (3 : Int32)))]) [])) tZ → Steps p.tables e below (T7.setTop (mkF m 144 (LQ pF 3 x0 x1 x2 x3 nA pk [sR b1, sR b7_0, sI (if x2 = (46 : Int32) then (2 : Int32) else (3 : Int32))]) [(.int 46), (.int x1)])) tZ := by
      intro kj
      by_cases hc144 : x1 = (46 : Int32)
      · try simp only [if_pos hc144] at kj
        refine XS.icmpNo X7.here hx rfl (hb hby at_144) rfl (teq hc144).2 ?_
        refine XS.iconst X7.here hx rfl (hb hby at_147) ?_
        refine XS.istore X7.here hx rfl (hb hby at_148) rfl (l' := (LQ pF 3 x0 x1 x2 x3 nA pk [sR b1, sR b7_0, sI 1])) rfl ?_
        exact kj
      · try simp only [if_neg hc144] at kj
        refine XS.icmpYes X7.here hx rfl (pc0 := 144) (pc' := 150) rfl (hb hby at_144) rfl (feq hc144).2 (by decide) (by decide) ?_
        exact kj
    refine sg144 ?_
    show Steps p.tables e below (T7.setTop (mkF m 150 (LQ pF 3 x0 x1 x2 x3 nA pk [sR b1, sR b7_0, sI (if x1 = (46 : Int32) then (1 : Int32) else (if x2 = (46 : Int32) then (2 : Int32) else (3 : Int32)))]) [])) _
    refine XS.iload X7.here hx rfl (hb hby at_150) rfl ?_
    refine XS.ifNo X7.here hx rfl (hb hby at_152) rfl ((if0 _ _).trans (tlt (by decide)).2.2.2) ?_
    refine XS.iload X7.here hx rfl (hb hby at_155) rfl ?_
    refine XS.bipush X7.here hx rfl (hb hby at_157) ?_
    refine XS.icmpNo X7.here hx rfl (hb hby at_159) rfl (teq hd0).2 ?_
    refine XS.iconst X7.here hx rfl (hb hby at_162) ?_
    refine XS.istore X7.here hx rfl (hb hby at_163) rfl (l' := (LQ pF 3 x0 x1 x2 x3 nA pk [sR b1, sR b7_0, sI 0])) rfl ?_
    refine XS.aload X7.here hx rfl (hb hby at_165) rfl rfl ?_
    exact kZ
  obtain ⟨cq10, kq10, q10a, q10b, q10c⟩ := isOf hZ rfl f7_8
  obtain ⟨_, _, ⟨T10, L10, k10, n10⟩, -, X10, ⟨Lc10, hQ10, l10, y10, z10⟩, st10⟩ := X7.virtualBack hx (y := y14) (z := y14) hown (wz hZ hw 102 rfl) (wz hZ hw 79 rfl) (notFace_of_selects (args := #[]) (wz hZ hw 81 rfl)) (wz hZ hw 81 rfl) (wz hZ hw 80 rfl) (by decide) (backOf (W := 0) (rm14 l Z a0 hw [] b7_0 b7_1 0 (own_t []) cs T7.heap n0 Z7 f7_8 f7_9 f7_10 f7_11 f7_6 hcs) hZ (wq hw 82 rfl) (wq hw 10 rfl) (by decide) (by decide)) q10a q10c (g := (mkF m 167 (LQ pF 3 x0 x1 x2 x3 nA pk [sR b1, sR b7_0, sI 0]) [(.ref b7_0)])) rfl (by rw [hml]; rfl) (Steps.refl _) (argsL := []) (rest := []) (lenOf pd_12 rfl) rfl (leW rfl) (hb hby at_167) (fun _ _ => ⟨rfl, rfl, (by decide : 5 + 1 + 0 + 2 + 0 ≤ _), (by decide : 78 + 3 + 0 + 68 + 0 ≤ _)⟩)
  dsimp only [Pt.U, Pt.locs, Pt.cells, Pt.slots] at X10 l10 y10 z10 st10 hQ10
  subst l10 y10 z10
  obtain ⟨rfl, N10q, e10⟩ := hQ10
  have hv10 : (f14 b7_0 b7_1 0 (own_t []) cs) = (Int32.ofNat 0) := by unfold f14; exact own_sh0 _
  rw [hv10] at st10
  have N10 := Fr.app N7 N10q
  refine Go.via (fun t k => st10.trans k) ?_
  refine Vi (T10.setTop (mkF m 253 (LQ pF 3 x0 x1 x2 x3 nA pk [sR b1, sR b7_0, sI 0]) [(.int 1)])) (fun tZ kZ => ?_) ?_
  · refine XS.iload X10.here hx rfl (hb hby at_170) rfl ?_
    refine XS.icmpYes X10.here hx rfl (pc0 := 172) (pc' := 177) rfl (hb hby at_172) rfl (teq (by decide)).1 (by decide) (by decide) ?_
    refine XS.iload X10.here hx rfl (hb hby at_177) rfl ?_
    refine XS.ifYes X10.here hx rfl (pc0 := 179) (pc' := 195) rfl (hb hby at_179) rfl ((if0 _ _).trans (flt (by decide)).2.2.2) (by decide) (by decide) ?_
    refine XS.iload X10.here hx rfl (hb hby at_195) rfl ?_
    refine XS.iconst X10.here hx rfl (hb hby at_197) ?_
    refine XS.icmpYes X10.here hx rfl (pc0 := 198) (pc' := 214) rfl (hb hby at_198) rfl (flt (by decide)).2.2.2 (by decide) (by decide) ?_
    refine XS.iload X10.here hx rfl (hb hby at_214) rfl ?_
    refine XS.iconst X10.here hx rfl (hb hby at_216) ?_
    refine XS.icmpYes X10.here hx rfl (pc0 := 217) (pc' := 233) rfl (hb hby at_217) rfl (flt (by decide)).2.2.2 (by decide) (by decide) ?_
    refine XS.iload X10.here hx rfl (hb hby at_233) rfl ?_
    refine XS.iconst X10.here hx rfl (hb hby at_235) ?_
    refine XS.icmpYes X10.here hx rfl (pc0 := 236) (pc' := 252) rfl (hb hby at_236) rfl (flt (by decide)).2.2.2 (by decide) (by decide) ?_
    refine XS.iconst X10.here hx rfl (hb hby at_252) ?_
    exact kZ
  refine Go.retNW (s := s) (vm₁ := T7.vm) X10 hx hS7c (by rw [e10]; exact (Nat.le_refl _)) hlk (t := .boolean) hret (by simp) (hb hby at_253) (by decide) (by decide) ?_
  exact ⟨rfl, N10⟩
theorem tail_3_2 (l : Launch) (Z : State) (a0 : Array Value) (hw : HW a0 Z) {p : Program} {e : Env} {s : State} {m : MethodId} {args : Array Value} {below : List Frame} {meth : Method} {c : Code} {T0 : State} {locs0 : List Loc} {vmT : Vm} {h0 : Heap} {n0 kT : Nat} {x0 x1 x2 x3 cs : Int32} {sv : Value} {em : Addr} (hC : Com l Z a0 p e s m args below meth c T0 locs0 vmT 5 78 h0 n0 kT x0 x1 x2 x3 cs sv em) (pF : Nat → Int32) (nA bA pk : Addr) (fF : Nat → Int32) (hfit : ∀ k, k < 3 → fits .byte (.int (fF k)) = true) (hf0 : fF (0 : Int32).toNatClampNeg = nar .byte ((nar .char x0).toInt8.toInt32)) (hf1 : fF (1 : Int32).toNatClampNeg = nar .byte ((nar .char x1).toInt8.toInt32)) (hf2 : fF (2 : Int32).toNatClampNeg = nar .byte ((nar .char x2).toInt8.toInt32)) (E_n : Exa Z h0 nA "java/lang/String") (F_c : Fld Z h0 nA "java/lang/String" "coder" "B" (.int 0)) (F_v : Fld Z h0 nA "java/lang/String" "value" "[B" (.ref bA)) (V_b : AV Z h0 bA .byte 3 (fun k => .int (fF k))) (hd0 : ¬ x0 = 46) (hd1 : x1 = 46) :
    Go p e below (fun o u => ∃ v L, o = .returned v ∧ Q0 n0 v u.heap L ∧ ReturnedEndW s o u L 32 4224) (T0.setTop (mkF m 78 (LQ pF 3 x0 x1 x2 x3 nA pk [.unset, .unset, .unset]) [])) := by
  obtain ⟨X0, hx, hby, hml, hlk, hret, hZ, hown, wS, Z0, e0, N0, hST, hkT, hCH, hx0, hx1, hx2, hx3, hcs, hsv, S_CS, S_SV, S_EM, hold⟩ := hC
  obtain ⟨T1, h1, X1, e1, E1, A1, D1, -, st1⟩ := newO X0 hx hZ hown (wq hw 31 rfl) (wq hw 32 rfl) (wq hw 33 rfl) e0 (g := (mkF m 78 (LQ pF 3 x0 x1 x2 x3 nA pk [.unset, .unset, .unset]) [])) rfl (hb hby at_78) (by decide) (by decide)
  obtain ⟨b1, g1⟩ : ∃ z, z = h0.size := ⟨_, rfl⟩
  rw [← g1] at A1 D1 st1
  have g_b1 : n0 ≤ b1 := Nat.le_trans Z0 (Nat.le_of_eq g1.symm)
  have sz_b1 : h0.size ≤ b1 := Nat.le_trans ((Keep.refl h0 [])).1 (Nat.le_of_eq g1.symm)
  have ne_nA_b1 : nA ≠ b1 := Nat.ne_of_lt (Nat.lt_of_lt_of_le E_n.lt (Nat.le_of_eq g1.symm))
  have ne_bA_b1 : bA ≠ b1 := Nat.ne_of_lt (Nat.lt_of_lt_of_le V_b.lt (Nat.le_of_eq g1.symm))
  have Ac2 := CHr.ext E1 hCH
  have CR2c := CHr.trans (CHr.refl hCH) Ac2
  have c3_0 := hold.ext E1
  have c3_1 := S_CS.ext c3_0.2
  have c3_2 := S_SV.ext c3_0.2
  have c3_3 := S_EM.ext c3_0.2
  have c3_4 := E_n.ext E1
  have c3_5 := F_c.ext E1
  have c3_6 := F_v.ext E1
  have c3_7 := V_b.ext E1
  have K1 : Keep h0 h1 [] := (Keep.refl h0 []).ext E1
  have Z1 := Nat.le_trans Z0 E1.1
  have hk1 := Nat.le_trans hkT E1.1
  have Sf_b1 := Safe.ext E1 hCH (Safe.new (Nat.le_of_eq g1.symm))
  have F1_packageName : Fld Z h1 b1 "com/example/bindery/bindery/compiler/JavaType" "packageName" "Ljava/lang/String;" .null := D1 (Or.inr (wq hw 52 rfl)) (ty := (.object "java/lang/String")) (by decide)
  have F1_name : Fld Z h1 b1 "com/example/bindery/bindery/compiler/JavaType" "name" "Ljava/lang/String;" .null := D1 (Or.inr (wq hw 54 rfl)) (ty := (.object "java/lang/String")) (by decide)
  have F1_argument : Fld Z h1 b1 "com/example/bindery/bindery/compiler/JavaType" "argument" "Ljava/util/Optional;" .null := D1 (Or.inr (wq hw 56 rfl)) (ty := (.object "java/util/Optional")) (by decide)
  refine Go.via st1 ?_
  refine Vi (T1.setTop (mkF m 86 (LQ pF 3 x0 x1 x2 x3 nA pk [.unset, .unset, .unset]) [(.ref nA), (.ref pk), (.ref b1), (.ref b1)])) (fun tZ kZ => ?_) ?_
  · refine XS.dup X1.here hx rfl (hb hby at_81) rfl rfl ?_
    refine XS.aload X1.here hx rfl (hb hby at_82) rfl rfl ?_
    refine XS.aload X1.here hx rfl (hb hby at_84) rfl rfl ?_
    exact kZ
  obtain ⟨_, _, ⟨T4, L4, k4, n4⟩, -, X4, ⟨Lc4, hQ4, l4, y4, z4⟩, st4⟩ := X1.specialBack hx (y := y6) rfl hown (wz hZ hw 34 rfl) (wz hZ hw 35 rfl) (wz hZ hw 36 rfl) (by decide) (backOf (W := 1) (rm6 l Z a0 hw [] b1 pk nA em h1 n0 Z1 A1 F1_packageName F1_name F1_argument g_b1 c3_3) hZ (wq hw 36 rfl) (wq hw 33 rfl) (by decide) (by decide)) (g := (mkF m 86 (LQ pF 3 x0 x1 x2 x3 nA pk [.unset, .unset, .unset]) [(.ref nA), (.ref pk), (.ref b1), (.ref b1)])) rfl (by rw [hml]; rfl) (Steps.refl _) (a := b1) (argsL := [(.ref pk), (.ref nA)]) (rest := [(.ref b1)]) (lenOf pd_5 rfl) rfl (leW rfl) (hb hby at_86) (fun _ _ => ⟨rfl, e1, (by decide : 5 + 1 + 0 ≤ _), (by decide : 78 + 3 + 0 ≤ _)⟩)
  dsimp only [Pt.U, Pt.locs, Pt.cells, Pt.slots] at X4 l4 y4 z4 st4 hQ4
  subst l4 y4 z4
  obtain ⟨rfl, N4q, Kq4, f4_0, f4_1, f4_2, f4_3, f4_4⟩ := hQ4
  have Ac5 := CHr.keep Kq4 (allS Sf_b1 all0) Ac2.1
  have Sf5_0 := Ac5.safe A1.lt Sf_b1
  have CR5c := CHr.trans CR2c Ac5
  have c6_0 := c3_0.keep Kq4 (allS g_b1 all0)
  have c6_1 := S_CS.ext c6_0.2
  have c6_2 := S_SV.ext c6_0.2
  have c6_4 := c3_4.keep Kq4
  have c6_5 := c3_5.keep Kq4 (ninS ne_nA_b1 nin0)
  have c6_6 := c3_6.keep Kq4 (ninS ne_nA_b1 nin0)
  have c6_7 := c3_7.keep Kq4 (ninS ne_bA_b1 nin0)
  have K4 : Keep h0 T4.heap [] := K1.trans Kq4 (allS (Or.inr sz_b1) all0)
  have Z4 := Nat.le_trans Z1 Kq4.1
  have hk4 := Nat.le_trans hk1 Kq4.1
  have N4 := Fr.app N0 N4q
  refine Go.via (fun t k => st4.trans k) ?_
  refine Vi (T4.setTop (mkF m 93 (LQ pF 3 x0 x1 x2 x3 nA pk [sR b1, .unset, .unset]) [(.ref b1)])) (fun tZ kZ => ?_) ?_
  · refine XS.astore X4.here hx rfl (hb hby at_89) rfl rfl (l' := (LQ pF 3 x0 x1 x2 x3 nA pk [sR b1, .unset, .unset])) rfl ?_
    refine XS.aload X4.here hx rfl (hb hby at_91) rfl rfl ?_
    exact kZ
  obtain ⟨cq7, kq7, q7a, q7b, q7c⟩ := isOf hZ rfl f4_0
  obtain ⟨_, _, ⟨T7, L7, k7, n7⟩, -, X7, ⟨Lc7, hQ7, l7, y7, z7⟩, st7⟩ := X4.virtualBack hx (y := y10) (z := y10) hown (wz hZ hw 57 rfl) (wz hZ hw 58 rfl) (notFace_of_selects (args := #[]) (wz hZ hw 60 rfl)) (wz hZ hw 60 rfl) (wz hZ hw 59 rfl) (by decide) (backOf (W := 0) (rm10n3C l Z a0 hw [] b1 nA bA fF cs sv 1 T4.heap n0 Z4 f4_0 f4_2 c6_4 c6_5 c6_6 c6_7 c6_1 c6_2 hcs hsv (by decide) (by decide) (by decide) (by decide) (by decide) (by decide) (by decide) (by decide) (by decide) (by decide) (by decide) (by decide) (by decide) hfit (own_l3_2 _ _ _ _ (by rw [hf0]; exact own_ndot hx0 hd0) (by rw [hf1]; exact own_dot hd1)) (by decide)) hZ (wq hw 61 rfl) (wq hw 33 rfl) (by decide) (by decide)) q7a q7c (g := (mkF m 93 (LQ pF 3 x0 x1 x2 x3 nA pk [sR b1, .unset, .unset]) [(.ref b1)])) rfl (by rw [hml]; rfl) (Steps.refl _) (argsL := []) (rest := []) (lenOf pd_8 rfl) rfl (leW rfl) (hb hby at_93) (fun _ _ => ⟨rfl, rfl, (by decide : 5 + 1 + 0 + 2 ≤ _), (by decide : 78 + 3 + 0 + 8 ≤ _)⟩)
  dsimp only [Pt.U, Pt.locs, Pt.cells, Pt.slots] at X7 l7 y7 z7 st7 hQ7
  subst l7 y7 z7
  obtain ⟨b7_0, b7_1, rfl, N7q, Kq7, hz_b7_0, hz_b7_1, f7_0, f7_1, f7_2, f7_3, f7_4, f7_5, f7_6, f7_7, f7_8, f7_9, f7_10, f7_11⟩ := hQ7
  have Ac8 := CHr.keep Kq7 all0 Ac5.1
  have Sf8_0 := Ac8.safe f4_0.lt Sf5_0
  have CR8c := CHr.trans CR5c Ac8
  have c9_0 := c6_0.keep Kq7 all0
  have c9_3 := S_EM.ext c9_0.2
  have c9_10 := f4_1.keep Kq7 nin0
  have c9_12 := f4_3.keep Kq7 nin0
  have K7 : Keep h0 T7.heap [] := K4.trans Kq7 all0
  have Z7 := Nat.le_trans Z4 Kq7.1
  have hk7 := Nat.le_trans hk4 Kq7.1
  have N7 := Fr.app N4 N7q
  refine Go.via (fun t k => st7.trans k) ?_
  refine Vi (T7.setTop (mkF m 167 (LQ pF 3 x0 x1 x2 x3 nA pk [sR b1, sR b7_0, sI 1]) [(.ref b7_0)])) (fun tZ kZ => ?_) ?_
  · refine XS.astore X7.here hx rfl (hb hby at_96) rfl rfl (l' := (LQ pF 3 x0 x1 x2 x3 nA pk [sR b1, sR b7_0, .unset])) rfl ?_
    refine XS.iload X7.here hx rfl (hb hby at_98) rfl ?_
    refine XS.istore X7.here hx rfl (hb hby at_100) rfl (l' := (LQ pF 3 x0 x1 x2 x3 nA pk [sR b1, sR b7_0, sI 3])) rfl ?_
    refine XS.iload X7.here hx rfl (hb hby at_102) rfl ?_
    refine XS.iconst X7.here hx rfl (hb hby at_104) ?_
    refine XS.icmpYes X7.here hx rfl (pc0 := 105) (pc' := 118) rfl (hb hby at_105) rfl (flt (by decide)).2.2.2 (by decide) (by decide) ?_
    refine XS.iload X7.here hx rfl (hb hby at_118) rfl ?_
    refine XS.iconst X7.here hx rfl (hb hby at_120) ?_
    refine XS.icmpNo X7.here hx rfl (hb hby at_121) rfl (tlt (by decide)).2.2.2 ?_
    refine XS.iload X7.here hx rfl (hb hby at_124) rfl ?_
    refine XS.bipush X7.here hx rfl (hb hby at_126) ?_
    have sg128 : Steps p.tables e below (T7.setTop (mkF m 134 (LQ pF 3 x0 x1 x2 x3 nA pk [sR b1, sR b7_0, sI (if x2 = (46 : Int32) then (2 : Int32) else (3 : Int32))]) [])) tZ → Steps p.tables e below (T7.setTop (mkF m 128 (LQ pF 3 x0 x1 x2 x3 nA pk [sR b1, sR b7_0, sI 3]) [(.int 46), (.int x2)])) tZ := by
      intro kj
      by_cases hc128 : x2 = (46 : Int32)
      · try simp only [if_pos hc128] at kj
        refine XS.icmpNo X7.here hx rfl (hb hby at_128) rfl (teq hc128).2 ?_
        refine XS.iconst X7.here hx rfl (hb hby at_131) ?_
        refine XS.istore X7.here hx rfl (hb hby at_132) rfl (l' := (LQ pF 3 x0 x1 x2 x3 nA pk [sR b1, sR b7_0, sI 2])) rfl ?_
        exact kj
      · try simp only [if_neg hc128] at kj
        refine XS.icmpYes X7.here hx rfl (pc0 := 128) (pc' := 134) rfl (hb hby at_128) rfl (feq hc128).2 (by decide) (by decide) ?_
        exact kj
    refine sg128 ?_
    show Steps p.tables e below (T7.setTop (mkF m 134 (LQ pF 3 x0 x1 x2 x3 nA pk [sR b1, sR b7_0, sI (if x2 = (46 : Int32) then (2 : Int32) else (3 : Int32))]) [])) _
    refine XS.iload X7.here hx rfl (hb hby at_134) rfl ?_
    refine XS.iconst X7.here hx rfl (hb hby at_136) ?_
    refine XS.icmpNo X7.here hx rfl (hb hby at_137) rfl (tlt (by decide)).2.2.2 ?_
    refine XS.iload X7.here hx rfl (hb hby at_140) rfl ?_
    refine XS.bipush X7.here hx rfl (hb hby at_142) ?_
    refine XS.icmpNo X7.here hx rfl (hb hby at_144) rfl (teq hd1).2 ?_
    refine XS.iconst X7.here hx rfl (hb hby at_147) ?_
    refine XS.istore X7.here hx rfl (hb hby at_148) rfl (l' := (LQ pF 3 x0 x1 x2 x3 nA pk [sR b1, sR b7_0, sI 1])) rfl ?_
    refine XS.iload X7.here hx rfl (hb hby at_150) rfl ?_
    refine XS.ifNo X7.here hx rfl (hb hby at_152) rfl ((if0 _ _).trans (tlt (by decide)).2.2.2) ?_
    refine XS.iload X7.here hx rfl (hb hby at_155) rfl ?_
    refine XS.bipush X7.here hx rfl (hb hby at_157) ?_
    refine XS.icmpYes X7.here hx rfl (pc0 := 159) (pc' := 165) rfl (hb hby at_159) rfl (feq hd0).2 (by decide) (by decide) ?_
    refine XS.aload X7.here hx rfl (hb hby at_165) rfl rfl ?_
    exact kZ
  obtain ⟨cq10, kq10, q10a, q10b, q10c⟩ := isOf hZ rfl f7_8
  obtain ⟨_, _, ⟨T10, L10, k10, n10⟩, -, X10, ⟨Lc10, hQ10, l10, y10, z10⟩, st10⟩ := X7.virtualBack hx (y := y14) (z := y14) hown (wz hZ hw 102 rfl) (wz hZ hw 79 rfl) (notFace_of_selects (args := #[]) (wz hZ hw 81 rfl)) (wz hZ hw 81 rfl) (wz hZ hw 80 rfl) (by decide) (backOf (W := 0) (rm14 l Z a0 hw [] b7_0 b7_1 1 (own_sh fF 0) cs T7.heap n0 Z7 f7_8 f7_10 f7_9 f7_11 f7_6 hcs) hZ (wq hw 82 rfl) (wq hw 10 rfl) (by decide) (by decide)) q10a q10c (g := (mkF m 167 (LQ pF 3 x0 x1 x2 x3 nA pk [sR b1, sR b7_0, sI 1]) [(.ref b7_0)])) rfl (by rw [hml]; rfl) (Steps.refl _) (argsL := []) (rest := []) (lenOf pd_12 rfl) rfl (leW rfl) (hb hby at_167) (fun _ _ => ⟨rfl, rfl, (by decide : 5 + 1 + 0 + 2 + 0 ≤ _), (by decide : 78 + 3 + 0 + 8 + 0 ≤ _)⟩)
  dsimp only [Pt.U, Pt.locs, Pt.cells, Pt.slots] at X10 l10 y10 z10 st10 hQ10
  subst l10 y10 z10
  obtain ⟨rfl, N10q, e10⟩ := hQ10
  have hv10 : (f14 b7_0 b7_1 1 (own_sh fF 0) cs) = (Int32.ofNat 1) := by unfold f14; exact own_sh0 _
  rw [hv10] at st10
  have N10 := Fr.app N7 N10q
  refine Go.via (fun t k => st10.trans k) ?_
  refine Vi (T10.setTop (mkF m 185 (LQ pF 3 x0 x1 x2 x3 nA pk [sR b1, sR b7_0, sI 1]) [(.int 0), (.ref b7_0)])) (fun tZ kZ => ?_) ?_
  · refine XS.iload X10.here hx rfl (hb hby at_170) rfl ?_
    refine XS.icmpYes X10.here hx rfl (pc0 := 172) (pc' := 177) rfl (hb hby at_172) rfl (teq (by decide)).1 (by decide) (by decide) ?_
    refine XS.iload X10.here hx rfl (hb hby at_177) rfl ?_
    refine XS.ifNo X10.here hx rfl (hb hby at_179) rfl ((if0 _ _).trans (tlt (by decide)).2.2.2) ?_
    refine XS.aload X10.here hx rfl (hb hby at_182) rfl rfl ?_
    refine XS.iconst X10.here hx rfl (hb hby at_184) ?_
    exact kZ
  obtain ⟨cq11, kq11, q11a, q11b, q11c⟩ := isOf hZ e10 f7_8
  obtain ⟨_, _, ⟨T11, L11, k11, n11⟩, -, X11, ⟨Lc11, hQ11, l11, y11, z11⟩, st11⟩ := X10.virtualBack hx (y := y32) (z := y32) hown (wz hZ hw 151 rfl) (wz hZ hw 152 rfl) (notFace_of_selects (args := #[]) (wz hZ hw 154 rfl)) (wz hZ hw 154 rfl) (wz hZ hw 153 rfl) (by decide) (backOf (W := 0) (rm32 l Z a0 hw [] b7_0 (0 : Int32) b7_1 1 (own_sh fF 0) cs sv T7.heap n0 Z7 f7_8 f7_10 f7_9 f7_11 f7_6 f7_7 hcs (by decide) (by decide) (by decide) hsv) hZ (wq hw 155 rfl) (wq hw 10 rfl) (by decide) (by decide)) q11a q11c (g := (mkF m 185 (LQ pF 3 x0 x1 x2 x3 nA pk [sR b1, sR b7_0, sI 1]) [(.int 0), (.ref b7_0)])) rfl (by rw [hml]; rfl) (Steps.refl _) (argsL := [(.int 0)]) (rest := []) (lenOf pd_27 rfl) rfl (leW rfl) (hb hby at_185) (fun _ _ => ⟨rfl, e10, (by decide : 5 + 1 + 0 + 2 + 0 + 0 ≤ _), (by decide : 78 + 3 + 0 + 8 + 0 + 0 ≤ _)⟩)
  dsimp only [Pt.U, Pt.locs, Pt.cells, Pt.slots] at X11 l11 y11 z11 st11 hQ11
  subst l11 y11 z11
  obtain ⟨rfl, N11q, e11⟩ := hQ11
  have N11 := Fr.app N10 N11q
  refine Go.via (fun t k => st11.trans k) ?_
  refine Vi (T11.setTop (mkF m 253 (LQ pF 3 x0 x1 x2 x3 nA pk [sR b1, sR b7_0, sI 1]) [(.int 1)])) (fun tZ kZ => ?_) ?_
  · refine XS.iload X11.here hx rfl (hb hby at_188) rfl ?_
    refine XS.icmpYes X11.here hx rfl (pc0 := 190) (pc' := 195) rfl (hb hby at_190) rfl (teq (own_rt2 hx0 hf0)).1 (by decide) (by decide) ?_
    refine XS.iload X11.here hx rfl (hb hby at_195) rfl ?_
    refine XS.iconst X11.here hx rfl (hb hby at_197) ?_
    refine XS.icmpYes X11.here hx rfl (pc0 := 198) (pc' := 214) rfl (hb hby at_198) rfl (flt (by decide)).2.2.2 (by decide) (by decide) ?_
    refine XS.iload X11.here hx rfl (hb hby at_214) rfl ?_
    refine XS.iconst X11.here hx rfl (hb hby at_216) ?_
    refine XS.icmpYes X11.here hx rfl (pc0 := 217) (pc' := 233) rfl (hb hby at_217) rfl (flt (by decide)).2.2.2 (by decide) (by decide) ?_
    refine XS.iload X11.here hx rfl (hb hby at_233) rfl ?_
    refine XS.iconst X11.here hx rfl (hb hby at_235) ?_
    refine XS.icmpYes X11.here hx rfl (pc0 := 236) (pc' := 252) rfl (hb hby at_236) rfl (flt (by decide)).2.2.2 (by decide) (by decide) ?_
    refine XS.iconst X11.here hx rfl (hb hby at_252) ?_
    exact kZ
  refine Go.retNW (s := s) (vm₁ := vmT) X11 hx hST (by rw [e11]; exact hk7) hlk (t := .boolean) hret (by simp) (hb hby at_253) (by decide) (by decide) ?_
  exact ⟨rfl, N11⟩
theorem tail_3_3 (l : Launch) (Z : State) (a0 : Array Value) (hw : HW a0 Z) {p : Program} {e : Env} {s : State} {m : MethodId} {args : Array Value} {below : List Frame} {meth : Method} {c : Code} {T0 : State} {locs0 : List Loc} {vmT : Vm} {h0 : Heap} {n0 kT : Nat} {x0 x1 x2 x3 cs : Int32} {sv : Value} {em : Addr} (hC : Com l Z a0 p e s m args below meth c T0 locs0 vmT 5 78 h0 n0 kT x0 x1 x2 x3 cs sv em) (pF : Nat → Int32) (nA bA pk : Addr) (fF : Nat → Int32) (hfit : ∀ k, k < 3 → fits .byte (.int (fF k)) = true) (hf0 : fF (0 : Int32).toNatClampNeg = nar .byte ((nar .char x0).toInt8.toInt32)) (hf1 : fF (1 : Int32).toNatClampNeg = nar .byte ((nar .char x1).toInt8.toInt32)) (hf2 : fF (2 : Int32).toNatClampNeg = nar .byte ((nar .char x2).toInt8.toInt32)) (E_n : Exa Z h0 nA "java/lang/String") (F_c : Fld Z h0 nA "java/lang/String" "coder" "B" (.int 0)) (F_v : Fld Z h0 nA "java/lang/String" "value" "[B" (.ref bA)) (V_b : AV Z h0 bA .byte 3 (fun k => .int (fF k))) (hd0 : ¬ x0 = 46) (hd1 : ¬ x1 = 46) (hd2 : x2 = 46) :
    Go p e below (fun o u => ∃ v L, o = .returned v ∧ Q0 n0 v u.heap L ∧ ReturnedEndW s o u L 32 4224) (T0.setTop (mkF m 78 (LQ pF 3 x0 x1 x2 x3 nA pk [.unset, .unset, .unset]) [])) := by
  obtain ⟨X0, hx, hby, hml, hlk, hret, hZ, hown, wS, Z0, e0, N0, hST, hkT, hCH, hx0, hx1, hx2, hx3, hcs, hsv, S_CS, S_SV, S_EM, hold⟩ := hC
  obtain ⟨T1, h1, X1, e1, E1, A1, D1, -, st1⟩ := newO X0 hx hZ hown (wq hw 31 rfl) (wq hw 32 rfl) (wq hw 33 rfl) e0 (g := (mkF m 78 (LQ pF 3 x0 x1 x2 x3 nA pk [.unset, .unset, .unset]) [])) rfl (hb hby at_78) (by decide) (by decide)
  obtain ⟨b1, g1⟩ : ∃ z, z = h0.size := ⟨_, rfl⟩
  rw [← g1] at A1 D1 st1
  have g_b1 : n0 ≤ b1 := Nat.le_trans Z0 (Nat.le_of_eq g1.symm)
  have sz_b1 : h0.size ≤ b1 := Nat.le_trans ((Keep.refl h0 [])).1 (Nat.le_of_eq g1.symm)
  have ne_nA_b1 : nA ≠ b1 := Nat.ne_of_lt (Nat.lt_of_lt_of_le E_n.lt (Nat.le_of_eq g1.symm))
  have ne_bA_b1 : bA ≠ b1 := Nat.ne_of_lt (Nat.lt_of_lt_of_le V_b.lt (Nat.le_of_eq g1.symm))
  have Ac2 := CHr.ext E1 hCH
  have CR2c := CHr.trans (CHr.refl hCH) Ac2
  have c3_0 := hold.ext E1
  have c3_1 := S_CS.ext c3_0.2
  have c3_2 := S_SV.ext c3_0.2
  have c3_3 := S_EM.ext c3_0.2
  have c3_4 := E_n.ext E1
  have c3_5 := F_c.ext E1
  have c3_6 := F_v.ext E1
  have c3_7 := V_b.ext E1
  have K1 : Keep h0 h1 [] := (Keep.refl h0 []).ext E1
  have Z1 := Nat.le_trans Z0 E1.1
  have hk1 := Nat.le_trans hkT E1.1
  have Sf_b1 := Safe.ext E1 hCH (Safe.new (Nat.le_of_eq g1.symm))
  have F1_packageName : Fld Z h1 b1 "com/example/bindery/bindery/compiler/JavaType" "packageName" "Ljava/lang/String;" .null := D1 (Or.inr (wq hw 52 rfl)) (ty := (.object "java/lang/String")) (by decide)
  have F1_name : Fld Z h1 b1 "com/example/bindery/bindery/compiler/JavaType" "name" "Ljava/lang/String;" .null := D1 (Or.inr (wq hw 54 rfl)) (ty := (.object "java/lang/String")) (by decide)
  have F1_argument : Fld Z h1 b1 "com/example/bindery/bindery/compiler/JavaType" "argument" "Ljava/util/Optional;" .null := D1 (Or.inr (wq hw 56 rfl)) (ty := (.object "java/util/Optional")) (by decide)
  refine Go.via st1 ?_
  refine Vi (T1.setTop (mkF m 86 (LQ pF 3 x0 x1 x2 x3 nA pk [.unset, .unset, .unset]) [(.ref nA), (.ref pk), (.ref b1), (.ref b1)])) (fun tZ kZ => ?_) ?_
  · refine XS.dup X1.here hx rfl (hb hby at_81) rfl rfl ?_
    refine XS.aload X1.here hx rfl (hb hby at_82) rfl rfl ?_
    refine XS.aload X1.here hx rfl (hb hby at_84) rfl rfl ?_
    exact kZ
  obtain ⟨_, _, ⟨T4, L4, k4, n4⟩, -, X4, ⟨Lc4, hQ4, l4, y4, z4⟩, st4⟩ := X1.specialBack hx (y := y6) rfl hown (wz hZ hw 34 rfl) (wz hZ hw 35 rfl) (wz hZ hw 36 rfl) (by decide) (backOf (W := 1) (rm6 l Z a0 hw [] b1 pk nA em h1 n0 Z1 A1 F1_packageName F1_name F1_argument g_b1 c3_3) hZ (wq hw 36 rfl) (wq hw 33 rfl) (by decide) (by decide)) (g := (mkF m 86 (LQ pF 3 x0 x1 x2 x3 nA pk [.unset, .unset, .unset]) [(.ref nA), (.ref pk), (.ref b1), (.ref b1)])) rfl (by rw [hml]; rfl) (Steps.refl _) (a := b1) (argsL := [(.ref pk), (.ref nA)]) (rest := [(.ref b1)]) (lenOf pd_5 rfl) rfl (leW rfl) (hb hby at_86) (fun _ _ => ⟨rfl, e1, (by decide : 5 + 1 + 0 ≤ _), (by decide : 78 + 3 + 0 ≤ _)⟩)
  dsimp only [Pt.U, Pt.locs, Pt.cells, Pt.slots] at X4 l4 y4 z4 st4 hQ4
  subst l4 y4 z4
  obtain ⟨rfl, N4q, Kq4, f4_0, f4_1, f4_2, f4_3, f4_4⟩ := hQ4
  have Ac5 := CHr.keep Kq4 (allS Sf_b1 all0) Ac2.1
  have Sf5_0 := Ac5.safe A1.lt Sf_b1
  have CR5c := CHr.trans CR2c Ac5
  have c6_0 := c3_0.keep Kq4 (allS g_b1 all0)
  have c6_1 := S_CS.ext c6_0.2
  have c6_2 := S_SV.ext c6_0.2
  have c6_4 := c3_4.keep Kq4
  have c6_5 := c3_5.keep Kq4 (ninS ne_nA_b1 nin0)
  have c6_6 := c3_6.keep Kq4 (ninS ne_nA_b1 nin0)
  have c6_7 := c3_7.keep Kq4 (ninS ne_bA_b1 nin0)
  have K4 : Keep h0 T4.heap [] := K1.trans Kq4 (allS (Or.inr sz_b1) all0)
  have Z4 := Nat.le_trans Z1 Kq4.1
  have hk4 := Nat.le_trans hk1 Kq4.1
  have N4 := Fr.app N0 N4q
  refine Go.via (fun t k => st4.trans k) ?_
  refine Vi (T4.setTop (mkF m 93 (LQ pF 3 x0 x1 x2 x3 nA pk [sR b1, .unset, .unset]) [(.ref b1)])) (fun tZ kZ => ?_) ?_
  · refine XS.astore X4.here hx rfl (hb hby at_89) rfl rfl (l' := (LQ pF 3 x0 x1 x2 x3 nA pk [sR b1, .unset, .unset])) rfl ?_
    refine XS.aload X4.here hx rfl (hb hby at_91) rfl rfl ?_
    exact kZ
  obtain ⟨cq7, kq7, q7a, q7b, q7c⟩ := isOf hZ rfl f4_0
  obtain ⟨_, _, ⟨T7, L7, k7, n7⟩, -, X7, ⟨Lc7, hQ7, l7, y7, z7⟩, st7⟩ := X4.virtualBack hx (y := y10) (z := y10) hown (wz hZ hw 57 rfl) (wz hZ hw 58 rfl) (notFace_of_selects (args := #[]) (wz hZ hw 60 rfl)) (wz hZ hw 60 rfl) (wz hZ hw 59 rfl) (by decide) (backOf (W := 0) (rm10n3C l Z a0 hw [] b1 nA bA fF cs sv 2 T4.heap n0 Z4 f4_0 f4_2 c6_4 c6_5 c6_6 c6_7 c6_1 c6_2 hcs hsv (by decide) (by decide) (by decide) (by decide) (by decide) (by decide) (by decide) (by decide) (by decide) (by decide) (by decide) (by decide) (by decide) hfit (own_l3_3 _ _ _ _ (by rw [hf0]; exact own_ndot hx0 hd0) (by rw [hf1]; exact own_ndot hx1 hd1) (by rw [hf2]; exact own_dot hd2)) (by decide)) hZ (wq hw 61 rfl) (wq hw 33 rfl) (by decide) (by decide)) q7a q7c (g := (mkF m 93 (LQ pF 3 x0 x1 x2 x3 nA pk [sR b1, .unset, .unset]) [(.ref b1)])) rfl (by rw [hml]; rfl) (Steps.refl _) (argsL := []) (rest := []) (lenOf pd_8 rfl) rfl (leW rfl) (hb hby at_93) (fun _ _ => ⟨rfl, rfl, (by decide : 5 + 1 + 0 + 2 ≤ _), (by decide : 78 + 3 + 0 + 8 ≤ _)⟩)
  dsimp only [Pt.U, Pt.locs, Pt.cells, Pt.slots] at X7 l7 y7 z7 st7 hQ7
  subst l7 y7 z7
  obtain ⟨b7_0, b7_1, rfl, N7q, Kq7, hz_b7_0, hz_b7_1, f7_0, f7_1, f7_2, f7_3, f7_4, f7_5, f7_6, f7_7, f7_8, f7_9, f7_10, f7_11⟩ := hQ7
  have Ac8 := CHr.keep Kq7 all0 Ac5.1
  have Sf8_0 := Ac8.safe f4_0.lt Sf5_0
  have CR8c := CHr.trans CR5c Ac8
  have c9_0 := c6_0.keep Kq7 all0
  have c9_3 := S_EM.ext c9_0.2
  have c9_10 := f4_1.keep Kq7 nin0
  have c9_12 := f4_3.keep Kq7 nin0
  have K7 : Keep h0 T7.heap [] := K4.trans Kq7 all0
  have Z7 := Nat.le_trans Z4 Kq7.1
  have hk7 := Nat.le_trans hk4 Kq7.1
  have N7 := Fr.app N4 N7q
  refine Go.via (fun t k => st7.trans k) ?_
  refine Vi (T7.setTop (mkF m 167 (LQ pF 3 x0 x1 x2 x3 nA pk [sR b1, sR b7_0, sI 2]) [(.ref b7_0)])) (fun tZ kZ => ?_) ?_
  · refine XS.astore X7.here hx rfl (hb hby at_96) rfl rfl (l' := (LQ pF 3 x0 x1 x2 x3 nA pk [sR b1, sR b7_0, .unset])) rfl ?_
    refine XS.iload X7.here hx rfl (hb hby at_98) rfl ?_
    refine XS.istore X7.here hx rfl (hb hby at_100) rfl (l' := (LQ pF 3 x0 x1 x2 x3 nA pk [sR b1, sR b7_0, sI 3])) rfl ?_
    refine XS.iload X7.here hx rfl (hb hby at_102) rfl ?_
    refine XS.iconst X7.here hx rfl (hb hby at_104) ?_
    refine XS.icmpYes X7.here hx rfl (pc0 := 105) (pc' := 118) rfl (hb hby at_105) rfl (flt (by decide)).2.2.2 (by decide) (by decide) ?_
    refine XS.iload X7.here hx rfl (hb hby at_118) rfl ?_
    refine XS.iconst X7.here hx rfl (hb hby at_120) ?_
    refine XS.icmpNo X7.here hx rfl (hb hby at_121) rfl (tlt (by decide)).2.2.2 ?_
    refine XS.iload X7.here hx rfl (hb hby at_124) rfl ?_
    refine XS.bipush X7.here hx rfl (hb hby at_126) ?_
    refine XS.icmpNo X7.here hx rfl (hb hby at_128) rfl (teq hd2).2 ?_
    refine XS.iconst X7.here hx rfl (hb hby at_131) ?_
    refine XS.istore X7.here hx rfl (hb hby at_132) rfl (l' := (LQ pF 3 x0 x1 x2 x3 nA pk [sR b1, sR b7_0, sI 2])) rfl ?_
    refine XS.iload X7.here hx rfl (hb hby at_134) rfl ?_
    refine XS.iconst X7.here hx rfl (hb hby at_136) ?_
    refine XS.icmpNo X7.here hx rfl (hb hby at_137) rfl (tlt (by decide)).2.2.2 ?_
    refine XS.iload X7.here hx rfl (hb hby at_140) rfl ?_
    refine XS.bipush X7.here hx rfl (hb hby at_142) ?_
    refine XS.icmpYes X7.here hx rfl (pc0 := 144) (pc' := 150) rfl (hb hby at_144) rfl (feq hd1).2 (by decide) (by decide) ?_
    refine XS.iload X7.here hx rfl (hb hby at_150) rfl ?_
    refine XS.ifNo X7.here hx rfl (hb hby at_152) rfl ((if0 _ _).trans (tlt (by decide)).2.2.2) ?_
    refine XS.iload X7.here hx rfl (hb hby at_155) rfl ?_
    refine XS.bipush X7.here hx rfl (hb hby at_157) ?_
    refine XS.icmpYes X7.here hx rfl (pc0 := 159) (pc' := 165) rfl (hb hby at_159) rfl (feq hd0).2 (by decide) (by decide) ?_
    refine XS.aload X7.here hx rfl (hb hby at_165) rfl rfl ?_
    exact kZ
  obtain ⟨cq10, kq10, q10a, q10b, q10c⟩ := isOf hZ rfl f7_8
  obtain ⟨_, _, ⟨T10, L10, k10, n10⟩, -, X10, ⟨Lc10, hQ10, l10, y10, z10⟩, st10⟩ := X7.virtualBack hx (y := y14) (z := y14) hown (wz hZ hw 102 rfl) (wz hZ hw 79 rfl) (notFace_of_selects (args := #[]) (wz hZ hw 81 rfl)) (wz hZ hw 81 rfl) (wz hZ hw 80 rfl) (by decide) (backOf (W := 0) (rm14 l Z a0 hw [] b7_0 b7_1 2 (own_sh fF 0) cs T7.heap n0 Z7 f7_8 f7_10 f7_9 f7_11 f7_6 hcs) hZ (wq hw 82 rfl) (wq hw 10 rfl) (by decide) (by decide)) q10a q10c (g := (mkF m 167 (LQ pF 3 x0 x1 x2 x3 nA pk [sR b1, sR b7_0, sI 2]) [(.ref b7_0)])) rfl (by rw [hml]; rfl) (Steps.refl _) (argsL := []) (rest := []) (lenOf pd_12 rfl) rfl (leW rfl) (hb hby at_167) (fun _ _ => ⟨rfl, rfl, (by decide : 5 + 1 + 0 + 2 + 0 ≤ _), (by decide : 78 + 3 + 0 + 8 + 0 ≤ _)⟩)
  dsimp only [Pt.U, Pt.locs, Pt.cells, Pt.slots] at X10 l10 y10 z10 st10 hQ10
  subst l10 y10 z10
  obtain ⟨rfl, N10q, e10⟩ := hQ10
  have hv10 : (f14 b7_0 b7_1 2 (own_sh fF 0) cs) = (Int32.ofNat 2) := by unfold f14; exact own_sh0 _
  rw [hv10] at st10
  have N10 := Fr.app N7 N10q
  refine Go.via (fun t k => st10.trans k) ?_
  refine Vi (T10.setTop (mkF m 185 (LQ pF 3 x0 x1 x2 x3 nA pk [sR b1, sR b7_0, sI 2]) [(.int 0), (.ref b7_0)])) (fun tZ kZ => ?_) ?_
  · refine XS.iload X10.here hx rfl (hb hby at_170) rfl ?_
    refine XS.icmpYes X10.here hx rfl (pc0 := 172) (pc' := 177) rfl (hb hby at_172) rfl (teq (by decide)).1 (by decide) (by decide) ?_
    refine XS.iload X10.here hx rfl (hb hby at_177) rfl ?_
    refine XS.ifNo X10.here hx rfl (hb hby at_179) rfl ((if0 _ _).trans (tlt (by decide)).2.2.2) ?_
    refine XS.aload X10.here hx rfl (hb hby at_182) rfl rfl ?_
    refine XS.iconst X10.here hx rfl (hb hby at_184) ?_
    exact kZ
  obtain ⟨cq11, kq11, q11a, q11b, q11c⟩ := isOf hZ e10 f7_8
  obtain ⟨_, _, ⟨T11, L11, k11, n11⟩, -, X11, ⟨Lc11, hQ11, l11, y11, z11⟩, st11⟩ := X10.virtualBack hx (y := y32) (z := y32) hown (wz hZ hw 151 rfl) (wz hZ hw 152 rfl) (notFace_of_selects (args := #[]) (wz hZ hw 154 rfl)) (wz hZ hw 154 rfl) (wz hZ hw 153 rfl) (by decide) (backOf (W := 0) (rm32 l Z a0 hw [] b7_0 (0 : Int32) b7_1 2 (own_sh fF 0) cs sv T7.heap n0 Z7 f7_8 f7_10 f7_9 f7_11 f7_6 f7_7 hcs (by decide) (by decide) (by decide) hsv) hZ (wq hw 155 rfl) (wq hw 10 rfl) (by decide) (by decide)) q11a q11c (g := (mkF m 185 (LQ pF 3 x0 x1 x2 x3 nA pk [sR b1, sR b7_0, sI 2]) [(.int 0), (.ref b7_0)])) rfl (by rw [hml]; rfl) (Steps.refl _) (argsL := [(.int 0)]) (rest := []) (lenOf pd_27 rfl) rfl (leW rfl) (hb hby at_185) (fun _ _ => ⟨rfl, e10, (by decide : 5 + 1 + 0 + 2 + 0 + 0 ≤ _), (by decide : 78 + 3 + 0 + 8 + 0 + 0 ≤ _)⟩)
  dsimp only [Pt.U, Pt.locs, Pt.cells, Pt.slots] at X11 l11 y11 z11 st11 hQ11
  subst l11 y11 z11
  obtain ⟨rfl, N11q, e11⟩ := hQ11
  have N11 := Fr.app N10 N11q
  refine Go.via (fun t k => st11.trans k) ?_
  refine Vi (T11.setTop (mkF m 204 (LQ pF 3 x0 x1 x2 x3 nA pk [sR b1, sR b7_0, sI 2]) [(.int 1), (.ref b7_0)])) (fun tZ kZ => ?_) ?_
  · refine XS.iload X11.here hx rfl (hb hby at_188) rfl ?_
    refine XS.icmpYes X11.here hx rfl (pc0 := 190) (pc' := 195) rfl (hb hby at_190) rfl (teq (own_rt2 hx0 hf0)).1 (by decide) (by decide) ?_
    refine XS.iload X11.here hx rfl (hb hby at_195) rfl ?_
    refine XS.iconst X11.here hx rfl (hb hby at_197) ?_
    refine XS.icmpNo X11.here hx rfl (hb hby at_198) rfl (tlt (by decide)).2.2.2 ?_
    refine XS.aload X11.here hx rfl (hb hby at_201) rfl rfl ?_
    refine XS.iconst X11.here hx rfl (hb hby at_203) ?_
    exact kZ
  obtain ⟨cq12, kq12, q12a, q12b, q12c⟩ := isOf hZ e11 f7_8
  obtain ⟨_, _, ⟨T12, L12, k12, n12⟩, -, X12, ⟨Lc12, hQ12, l12, y12, z12⟩, st12⟩ := X11.virtualBack hx (y := y32) (z := y32) hown (wz hZ hw 151 rfl) (wz hZ hw 152 rfl) (notFace_of_selects (args := #[]) (wz hZ hw 154 rfl)) (wz hZ hw 154 rfl) (wz hZ hw 153 rfl) (by decide) (backOf (W := 0) (rm32 l Z a0 hw [] b7_0 (1 : Int32) b7_1 2 (own_sh fF 0) cs sv T7.heap n0 Z7 f7_8 f7_10 f7_9 f7_11 f7_6 f7_7 hcs (by decide) (by decide) (by decide) hsv) hZ (wq hw 155 rfl) (wq hw 10 rfl) (by decide) (by decide)) q12a q12c (g := (mkF m 204 (LQ pF 3 x0 x1 x2 x3 nA pk [sR b1, sR b7_0, sI 2]) [(.int 1), (.ref b7_0)])) rfl (by rw [hml]; rfl) (Steps.refl _) (argsL := [(.int 1)]) (rest := []) (lenOf pd_27 rfl) rfl (leW rfl) (hb hby at_204) (fun _ _ => ⟨rfl, e11, (by decide : 5 + 1 + 0 + 2 + 0 + 0 + 0 ≤ _), (by decide : 78 + 3 + 0 + 8 + 0 + 0 + 0 ≤ _)⟩)
  dsimp only [Pt.U, Pt.locs, Pt.cells, Pt.slots] at X12 l12 y12 z12 st12 hQ12
  subst l12 y12 z12
  obtain ⟨rfl, N12q, e12⟩ := hQ12
  have N12 := Fr.app N11 N12q
  refine Go.via (fun t k => st12.trans k) ?_
  refine Vi (T12.setTop (mkF m 253 (LQ pF 3 x0 x1 x2 x3 nA pk [sR b1, sR b7_0, sI 2]) [(.int 1)])) (fun tZ kZ => ?_) ?_
  · refine XS.iload X12.here hx rfl (hb hby at_207) rfl ?_
    refine XS.icmpYes X12.here hx rfl (pc0 := 209) (pc' := 214) rfl (hb hby at_209) rfl (teq (own_rt2 hx1 hf1)).1 (by decide) (by decide) ?_
    refine XS.iload X12.here hx rfl (hb hby at_214) rfl ?_
    refine XS.iconst X12.here hx rfl (hb hby at_216) ?_
    refine XS.icmpYes X12.here hx rfl (pc0 := 217) (pc' := 233) rfl (hb hby at_217) rfl (flt (by decide)).2.2.2 (by decide) (by decide) ?_
    refine XS.iload X12.here hx rfl (hb hby at_233) rfl ?_
    refine XS.iconst X12.here hx rfl (hb hby at_235) ?_
    refine XS.icmpYes X12.here hx rfl (pc0 := 236) (pc' := 252) rfl (hb hby at_236) rfl (flt (by decide)).2.2.2 (by decide) (by decide) ?_
    refine XS.iconst X12.here hx rfl (hb hby at_252) ?_
    exact kZ
  refine Go.retNW (s := s) (vm₁ := vmT) X12 hx hST (by rw [e12]; exact hk7) hlk (t := .boolean) hret (by simp) (hb hby at_253) (by decide) (by decide) ?_
  exact ⟨rfl, N12⟩
theorem tail_4_0 (l : Launch) (Z : State) (a0 : Array Value) (hw : HW a0 Z) {p : Program} {e : Env} {s : State} {m : MethodId} {args : Array Value} {below : List Frame} {meth : Method} {c : Code} {T0 : State} {locs0 : List Loc} {vmT : Vm} {h0 : Heap} {n0 kT : Nat} {x0 x1 x2 x3 cs : Int32} {sv : Value} {em : Addr} (hC : Com l Z a0 p e s m args below meth c T0 locs0 vmT 5 80 h0 n0 kT x0 x1 x2 x3 cs sv em) (pF : Nat → Int32) (nA bA pk : Addr) (fF : Nat → Int32) (hfit : ∀ k, k < 4 → fits .byte (.int (fF k)) = true) (hf0 : fF (0 : Int32).toNatClampNeg = nar .byte ((nar .char x0).toInt8.toInt32)) (hf1 : fF (1 : Int32).toNatClampNeg = nar .byte ((nar .char x1).toInt8.toInt32)) (hf2 : fF (2 : Int32).toNatClampNeg = nar .byte ((nar .char x2).toInt8.toInt32)) (hf3 : fF (3 : Int32).toNatClampNeg = nar .byte ((nar .char x3).toInt8.toInt32)) (E_n : Exa Z h0 nA "java/lang/String") (F_c : Fld Z h0 nA "java/lang/String" "coder" "B" (.int 0)) (F_v : Fld Z h0 nA "java/lang/String" "value" "[B" (.ref bA)) (V_b : AV Z h0 bA .byte 4 (fun k => .int (fF k))) (hd0 : ¬ x0 = 46) (hd1 : ¬ x1 = 46) (hd2 : ¬ x2 = 46) (hd3 : ¬ x3 = 46) :
    Go p e below (fun o u => ∃ v L, o = .returned v ∧ Q0 n0 v u.heap L ∧ ReturnedEndW s o u L 32 4224) (T0.setTop (mkF m 78 (LQ pF 4 x0 x1 x2 x3 nA pk [.unset, .unset, .unset]) [])) := by
  obtain ⟨X0, hx, hby, hml, hlk, hret, hZ, hown, wS, Z0, e0, N0, hST, hkT, hCH, hx0, hx1, hx2, hx3, hcs, hsv, S_CS, S_SV, S_EM, hold⟩ := hC
  obtain ⟨T1, h1, X1, e1, E1, A1, D1, -, st1⟩ := newO X0 hx hZ hown (wq hw 31 rfl) (wq hw 32 rfl) (wq hw 33 rfl) e0 (g := (mkF m 78 (LQ pF 4 x0 x1 x2 x3 nA pk [.unset, .unset, .unset]) [])) rfl (hb hby at_78) (by decide) (by decide)
  obtain ⟨b1, g1⟩ : ∃ z, z = h0.size := ⟨_, rfl⟩
  rw [← g1] at A1 D1 st1
  have g_b1 : n0 ≤ b1 := Nat.le_trans Z0 (Nat.le_of_eq g1.symm)
  have sz_b1 : h0.size ≤ b1 := Nat.le_trans ((Keep.refl h0 [])).1 (Nat.le_of_eq g1.symm)
  have ne_nA_b1 : nA ≠ b1 := Nat.ne_of_lt (Nat.lt_of_lt_of_le E_n.lt (Nat.le_of_eq g1.symm))
  have ne_bA_b1 : bA ≠ b1 := Nat.ne_of_lt (Nat.lt_of_lt_of_le V_b.lt (Nat.le_of_eq g1.symm))
  have Ac2 := CHr.ext E1 hCH
  have CR2c := CHr.trans (CHr.refl hCH) Ac2
  have c3_0 := hold.ext E1
  have c3_1 := S_CS.ext c3_0.2
  have c3_2 := S_SV.ext c3_0.2
  have c3_3 := S_EM.ext c3_0.2
  have c3_4 := E_n.ext E1
  have c3_5 := F_c.ext E1
  have c3_6 := F_v.ext E1
  have c3_7 := V_b.ext E1
  have K1 : Keep h0 h1 [] := (Keep.refl h0 []).ext E1
  have Z1 := Nat.le_trans Z0 E1.1
  have hk1 := Nat.le_trans hkT E1.1
  have Sf_b1 := Safe.ext E1 hCH (Safe.new (Nat.le_of_eq g1.symm))
  have F1_packageName : Fld Z h1 b1 "com/example/bindery/bindery/compiler/JavaType" "packageName" "Ljava/lang/String;" .null := D1 (Or.inr (wq hw 52 rfl)) (ty := (.object "java/lang/String")) (by decide)
  have F1_name : Fld Z h1 b1 "com/example/bindery/bindery/compiler/JavaType" "name" "Ljava/lang/String;" .null := D1 (Or.inr (wq hw 54 rfl)) (ty := (.object "java/lang/String")) (by decide)
  have F1_argument : Fld Z h1 b1 "com/example/bindery/bindery/compiler/JavaType" "argument" "Ljava/util/Optional;" .null := D1 (Or.inr (wq hw 56 rfl)) (ty := (.object "java/util/Optional")) (by decide)
  refine Go.via st1 ?_
  refine Vi (T1.setTop (mkF m 86 (LQ pF 4 x0 x1 x2 x3 nA pk [.unset, .unset, .unset]) [(.ref nA), (.ref pk), (.ref b1), (.ref b1)])) (fun tZ kZ => ?_) ?_
  · refine XS.dup X1.here hx rfl (hb hby at_81) rfl rfl ?_
    refine XS.aload X1.here hx rfl (hb hby at_82) rfl rfl ?_
    refine XS.aload X1.here hx rfl (hb hby at_84) rfl rfl ?_
    exact kZ
  obtain ⟨_, _, ⟨T4, L4, k4, n4⟩, -, X4, ⟨Lc4, hQ4, l4, y4, z4⟩, st4⟩ := X1.specialBack hx (y := y6) rfl hown (wz hZ hw 34 rfl) (wz hZ hw 35 rfl) (wz hZ hw 36 rfl) (by decide) (backOf (W := 1) (rm6 l Z a0 hw [] b1 pk nA em h1 n0 Z1 A1 F1_packageName F1_name F1_argument g_b1 c3_3) hZ (wq hw 36 rfl) (wq hw 33 rfl) (by decide) (by decide)) (g := (mkF m 86 (LQ pF 4 x0 x1 x2 x3 nA pk [.unset, .unset, .unset]) [(.ref nA), (.ref pk), (.ref b1), (.ref b1)])) rfl (by rw [hml]; rfl) (Steps.refl _) (a := b1) (argsL := [(.ref pk), (.ref nA)]) (rest := [(.ref b1)]) (lenOf pd_5 rfl) rfl (leW rfl) (hb hby at_86) (fun _ _ => ⟨rfl, e1, (by decide : 5 + 1 + 0 ≤ _), (by decide : 80 + 3 + 0 ≤ _)⟩)
  dsimp only [Pt.U, Pt.locs, Pt.cells, Pt.slots] at X4 l4 y4 z4 st4 hQ4
  subst l4 y4 z4
  obtain ⟨rfl, N4q, Kq4, f4_0, f4_1, f4_2, f4_3, f4_4⟩ := hQ4
  have Ac5 := CHr.keep Kq4 (allS Sf_b1 all0) Ac2.1
  have Sf5_0 := Ac5.safe A1.lt Sf_b1
  have CR5c := CHr.trans CR2c Ac5
  have c6_0 := c3_0.keep Kq4 (allS g_b1 all0)
  have c6_1 := S_CS.ext c6_0.2
  have c6_2 := S_SV.ext c6_0.2
  have c6_4 := c3_4.keep Kq4
  have c6_5 := c3_5.keep Kq4 (ninS ne_nA_b1 nin0)
  have c6_6 := c3_6.keep Kq4 (ninS ne_nA_b1 nin0)
  have c6_7 := c3_7.keep Kq4 (ninS ne_bA_b1 nin0)
  have K4 : Keep h0 T4.heap [] := K1.trans Kq4 (allS (Or.inr sz_b1) all0)
  have Z4 := Nat.le_trans Z1 Kq4.1
  have hk4 := Nat.le_trans hk1 Kq4.1
  have N4 := Fr.app N0 N4q
  refine Go.via (fun t k => st4.trans k) ?_
  refine Vi (T4.setTop (mkF m 93 (LQ pF 4 x0 x1 x2 x3 nA pk [sR b1, .unset, .unset]) [(.ref b1)])) (fun tZ kZ => ?_) ?_
  · refine XS.astore X4.here hx rfl (hb hby at_89) rfl rfl (l' := (LQ pF 4 x0 x1 x2 x3 nA pk [sR b1, .unset, .unset])) rfl ?_
    refine XS.aload X4.here hx rfl (hb hby at_91) rfl rfl ?_
    exact kZ
  obtain ⟨cq7, kq7, q7a, q7b, q7c⟩ := isOf hZ rfl f4_0
  obtain ⟨_, _, ⟨T7, L7, k7, n7⟩, -, X7, ⟨Lc7, hQ7, l7, y7, z7⟩, st7⟩ := X4.virtualBack hx (y := y10) (z := y10) hown (wz hZ hw 57 rfl) (wz hZ hw 58 rfl) (notFace_of_selects (args := #[]) (wz hZ hw 60 rfl)) (wz hZ hw 60 rfl) (wz hZ hw 59 rfl) (by decide) (backOf (W := 0) (rm10n4A l Z a0 hw [] b1 nA bA fF cs sv T4.heap n0 Z4 f4_0 f4_2 c6_4 c6_5 c6_6 c6_7 c6_1 c6_2 hcs hsv (own_l4_0 _ _ _ _ (by rw [hf0]; exact own_ndot hx0 hd0) (by rw [hf1]; exact own_ndot hx1 hd1) (by rw [hf2]; exact own_ndot hx2 hd2) (by rw [hf3]; exact own_ndot hx3 hd3))) hZ (wq hw 61 rfl) (wq hw 33 rfl) (by decide) (by decide)) q7a q7c (g := (mkF m 93 (LQ pF 4 x0 x1 x2 x3 nA pk [sR b1, .unset, .unset]) [(.ref b1)])) rfl (by rw [hml]; rfl) (Steps.refl _) (argsL := []) (rest := []) (lenOf pd_8 rfl) rfl (leW rfl) (hb hby at_93) (fun _ _ => ⟨rfl, rfl, (by decide : 5 + 1 + 0 + 0 ≤ _), (by decide : 80 + 3 + 0 + 0 ≤ _)⟩)
  dsimp only [Pt.U, Pt.locs, Pt.cells, Pt.slots] at X7 l7 y7 z7 st7 hQ7
  subst l7 y7 z7
  obtain ⟨rfl, N7q, e7⟩ := hQ7
  have N7 := Fr.app N4 N7q
  refine Go.via (fun t k => st7.trans k) ?_
  refine Vi (T7.setTop (mkF m 167 (LQ pF 4 x0 x1 x2 x3 nA pk [sR b1, sR nA, sI 4]) [(.ref nA)])) (fun tZ kZ => ?_) ?_
  · refine XS.astore X7.here hx rfl (hb hby at_96) rfl rfl (l' := (LQ pF 4 x0 x1 x2 x3 nA pk [sR b1, sR nA, .unset])) rfl ?_
    refine XS.iload X7.here hx rfl (hb hby at_98) rfl ?_
    refine XS.istore X7.here hx rfl (hb hby at_100) rfl (l' := (LQ pF 4 x0 x1 x2 x3 nA pk [sR b1, sR nA, sI 4])) rfl ?_
    refine XS.iload X7.here hx rfl (hb hby at_102) rfl ?_
    refine XS.iconst X7.here hx rfl (hb hby at_104) ?_
    refine XS.icmpNo X7.here hx rfl (hb hby at_105) rfl (tlt (by decide)).2.2.2 ?_
    refine XS.iload X7.here hx rfl (hb hby at_108) rfl ?_
    refine XS.bipush X7.here hx rfl (hb hby at_110) ?_
    refine XS.icmpYes X7.here hx rfl (pc0 := 112) (pc' := 118) rfl (hb hby at_112) rfl (feq hd3).2 (by decide) (by decide) ?_
    refine XS.iload X7.here hx rfl (hb hby at_118) rfl ?_
    refine XS.iconst X7.here hx rfl (hb hby at_120) ?_
    refine XS.icmpNo X7.here hx rfl (hb hby at_121) rfl (tlt (by decide)).2.2.2 ?_
    refine XS.iload X7.here hx rfl (hb hby at_124) rfl ?_
    refine XS.bipush X7.here hx rfl (hb hby at_126) ?_
    refine XS.icmpYes X7.here hx rfl (pc0 := 128) (pc' := 134) rfl (hb hby at_128) rfl (feq hd2).2 (by decide) (by decide) ?_
    refine XS.iload X7.here hx rfl (hb hby at_134) rfl ?_
    refine XS.iconst X7.here hx rfl (hb hby at_136) ?_
    refine XS.icmpNo X7.here hx rfl (hb hby at_137) rfl (tlt (by decide)).2.2.2 ?_
    refine XS.iload X7.here hx rfl (hb hby at_140) rfl ?_
    refine XS.bipush X7.here hx rfl (hb hby at_142) ?_
    refine XS.icmpYes X7.here hx rfl (pc0 := 144) (pc' := 150) rfl (hb hby at_144) rfl (feq hd1).2 (by decide) (by decide) ?_
    refine XS.iload X7.here hx rfl (hb hby at_150) rfl ?_
    refine XS.ifNo X7.here hx rfl (hb hby at_152) rfl ((if0 _ _).trans (tlt (by decide)).2.2.2) ?_
    refine XS.iload X7.here hx rfl (hb hby at_155) rfl ?_
    refine XS.bipush X7.here hx rfl (hb hby at_157) ?_
    refine XS.icmpYes X7.here hx rfl (pc0 := 159) (pc' := 165) rfl (hb hby at_159) rfl (feq hd0).2 (by decide) (by decide) ?_
    refine XS.aload X7.here hx rfl (hb hby at_165) rfl rfl ?_
    exact kZ
  obtain ⟨cq8, kq8, q8a, q8b, q8c⟩ := isOf hZ e7 c6_4
  obtain ⟨_, _, ⟨T8, L8, k8, n8⟩, -, X8, ⟨Lc8, hQ8, l8, y8, z8⟩, st8⟩ := X7.virtualBack hx (y := y14) (z := y14) hown (wz hZ hw 102 rfl) (wz hZ hw 79 rfl) (notFace_of_selects (args := #[]) (wz hZ hw 81 rfl)) (wz hZ hw 81 rfl) (wz hZ hw 80 rfl) (by decide) (backOf (W := 0) (rm14 l Z a0 hw [] nA bA 4 fF cs T4.heap n0 Z4 c6_4 c6_5 c6_6 c6_7 c6_1 hcs) hZ (wq hw 82 rfl) (wq hw 10 rfl) (by decide) (by decide)) q8a q8c (g := (mkF m 167 (LQ pF 4 x0 x1 x2 x3 nA pk [sR b1, sR nA, sI 4]) [(.ref nA)])) rfl (by rw [hml]; rfl) (Steps.refl _) (argsL := []) (rest := []) (lenOf pd_12 rfl) rfl (leW rfl) (hb hby at_167) (fun _ _ => ⟨rfl, e7, (by decide : 5 + 1 + 0 + 0 + 0 ≤ _), (by decide : 80 + 3 + 0 + 0 + 0 ≤ _)⟩)
  dsimp only [Pt.U, Pt.locs, Pt.cells, Pt.slots] at X8 l8 y8 z8 st8 hQ8
  subst l8 y8 z8
  obtain ⟨rfl, N8q, e8⟩ := hQ8
  have hv8 : (f14 nA bA 4 fF cs) = (Int32.ofNat 4) := by unfold f14; exact own_sh0 _
  rw [hv8] at st8
  have N8 := Fr.app N7 N8q
  refine Go.via (fun t k => st8.trans k) ?_
  refine Vi (T8.setTop (mkF m 185 (LQ pF 4 x0 x1 x2 x3 nA pk [sR b1, sR nA, sI 4]) [(.int 0), (.ref nA)])) (fun tZ kZ => ?_) ?_
  · refine XS.iload X8.here hx rfl (hb hby at_170) rfl ?_
    refine XS.icmpYes X8.here hx rfl (pc0 := 172) (pc' := 177) rfl (hb hby at_172) rfl (teq (by decide)).1 (by decide) (by decide) ?_
    refine XS.iload X8.here hx rfl (hb hby at_177) rfl ?_
    refine XS.ifNo X8.here hx rfl (hb hby at_179) rfl ((if0 _ _).trans (tlt (by decide)).2.2.2) ?_
    refine XS.aload X8.here hx rfl (hb hby at_182) rfl rfl ?_
    refine XS.iconst X8.here hx rfl (hb hby at_184) ?_
    exact kZ
  obtain ⟨cq9, kq9, q9a, q9b, q9c⟩ := isOf hZ e8 c6_4
  obtain ⟨_, _, ⟨T9, L9, k9, n9⟩, -, X9, ⟨Lc9, hQ9, l9, y9, z9⟩, st9⟩ := X8.virtualBack hx (y := y32) (z := y32) hown (wz hZ hw 151 rfl) (wz hZ hw 152 rfl) (notFace_of_selects (args := #[]) (wz hZ hw 154 rfl)) (wz hZ hw 154 rfl) (wz hZ hw 153 rfl) (by decide) (backOf (W := 0) (rm32 l Z a0 hw [] nA (0 : Int32) bA 4 fF cs sv T4.heap n0 Z4 c6_4 c6_5 c6_6 c6_7 c6_1 c6_2 hcs (by decide) (by decide) (by decide) hsv) hZ (wq hw 155 rfl) (wq hw 10 rfl) (by decide) (by decide)) q9a q9c (g := (mkF m 185 (LQ pF 4 x0 x1 x2 x3 nA pk [sR b1, sR nA, sI 4]) [(.int 0), (.ref nA)])) rfl (by rw [hml]; rfl) (Steps.refl _) (argsL := [(.int 0)]) (rest := []) (lenOf pd_27 rfl) rfl (leW rfl) (hb hby at_185) (fun _ _ => ⟨rfl, e8, (by decide : 5 + 1 + 0 + 0 + 0 + 0 ≤ _), (by decide : 80 + 3 + 0 + 0 + 0 + 0 ≤ _)⟩)
  dsimp only [Pt.U, Pt.locs, Pt.cells, Pt.slots] at X9 l9 y9 z9 st9 hQ9
  subst l9 y9 z9
  obtain ⟨rfl, N9q, e9⟩ := hQ9
  have N9 := Fr.app N8 N9q
  refine Go.via (fun t k => st9.trans k) ?_
  refine Vi (T9.setTop (mkF m 204 (LQ pF 4 x0 x1 x2 x3 nA pk [sR b1, sR nA, sI 4]) [(.int 1), (.ref nA)])) (fun tZ kZ => ?_) ?_
  · refine XS.iload X9.here hx rfl (hb hby at_188) rfl ?_
    refine XS.icmpYes X9.here hx rfl (pc0 := 190) (pc' := 195) rfl (hb hby at_190) rfl (teq (own_rt2 hx0 hf0)).1 (by decide) (by decide) ?_
    refine XS.iload X9.here hx rfl (hb hby at_195) rfl ?_
    refine XS.iconst X9.here hx rfl (hb hby at_197) ?_
    refine XS.icmpNo X9.here hx rfl (hb hby at_198) rfl (tlt (by decide)).2.2.2 ?_
    refine XS.aload X9.here hx rfl (hb hby at_201) rfl rfl ?_
    refine XS.iconst X9.here hx rfl (hb hby at_203) ?_
    exact kZ
  obtain ⟨cq10, kq10, q10a, q10b, q10c⟩ := isOf hZ e9 c6_4
  obtain ⟨_, _, ⟨T10, L10, k10, n10⟩, -, X10, ⟨Lc10, hQ10, l10, y10, z10⟩, st10⟩ := X9.virtualBack hx (y := y32) (z := y32) hown (wz hZ hw 151 rfl) (wz hZ hw 152 rfl) (notFace_of_selects (args := #[]) (wz hZ hw 154 rfl)) (wz hZ hw 154 rfl) (wz hZ hw 153 rfl) (by decide) (backOf (W := 0) (rm32 l Z a0 hw [] nA (1 : Int32) bA 4 fF cs sv T4.heap n0 Z4 c6_4 c6_5 c6_6 c6_7 c6_1 c6_2 hcs (by decide) (by decide) (by decide) hsv) hZ (wq hw 155 rfl) (wq hw 10 rfl) (by decide) (by decide)) q10a q10c (g := (mkF m 204 (LQ pF 4 x0 x1 x2 x3 nA pk [sR b1, sR nA, sI 4]) [(.int 1), (.ref nA)])) rfl (by rw [hml]; rfl) (Steps.refl _) (argsL := [(.int 1)]) (rest := []) (lenOf pd_27 rfl) rfl (leW rfl) (hb hby at_204) (fun _ _ => ⟨rfl, e9, (by decide : 5 + 1 + 0 + 0 + 0 + 0 + 0 ≤ _), (by decide : 80 + 3 + 0 + 0 + 0 + 0 + 0 ≤ _)⟩)
  dsimp only [Pt.U, Pt.locs, Pt.cells, Pt.slots] at X10 l10 y10 z10 st10 hQ10
  subst l10 y10 z10
  obtain ⟨rfl, N10q, e10⟩ := hQ10
  have N10 := Fr.app N9 N10q
  refine Go.via (fun t k => st10.trans k) ?_
  refine Vi (T10.setTop (mkF m 223 (LQ pF 4 x0 x1 x2 x3 nA pk [sR b1, sR nA, sI 4]) [(.int 2), (.ref nA)])) (fun tZ kZ => ?_) ?_
  · refine XS.iload X10.here hx rfl (hb hby at_207) rfl ?_
    refine XS.icmpYes X10.here hx rfl (pc0 := 209) (pc' := 214) rfl (hb hby at_209) rfl (teq (own_rt2 hx1 hf1)).1 (by decide) (by decide) ?_
    refine XS.iload X10.here hx rfl (hb hby at_214) rfl ?_
    refine XS.iconst X10.here hx rfl (hb hby at_216) ?_
    refine XS.icmpNo X10.here hx rfl (hb hby at_217) rfl (tlt (by decide)).2.2.2 ?_
    refine XS.aload X10.here hx rfl (hb hby at_220) rfl rfl ?_
    refine XS.iconst X10.here hx rfl (hb hby at_222) ?_
    exact kZ
  obtain ⟨cq11, kq11, q11a, q11b, q11c⟩ := isOf hZ e10 c6_4
  obtain ⟨_, _, ⟨T11, L11, k11, n11⟩, -, X11, ⟨Lc11, hQ11, l11, y11, z11⟩, st11⟩ := X10.virtualBack hx (y := y32) (z := y32) hown (wz hZ hw 151 rfl) (wz hZ hw 152 rfl) (notFace_of_selects (args := #[]) (wz hZ hw 154 rfl)) (wz hZ hw 154 rfl) (wz hZ hw 153 rfl) (by decide) (backOf (W := 0) (rm32 l Z a0 hw [] nA (2 : Int32) bA 4 fF cs sv T4.heap n0 Z4 c6_4 c6_5 c6_6 c6_7 c6_1 c6_2 hcs (by decide) (by decide) (by decide) hsv) hZ (wq hw 155 rfl) (wq hw 10 rfl) (by decide) (by decide)) q11a q11c (g := (mkF m 223 (LQ pF 4 x0 x1 x2 x3 nA pk [sR b1, sR nA, sI 4]) [(.int 2), (.ref nA)])) rfl (by rw [hml]; rfl) (Steps.refl _) (argsL := [(.int 2)]) (rest := []) (lenOf pd_27 rfl) rfl (leW rfl) (hb hby at_223) (fun _ _ => ⟨rfl, e10, (by decide : 5 + 1 + 0 + 0 + 0 + 0 + 0 + 0 ≤ _), (by decide : 80 + 3 + 0 + 0 + 0 + 0 + 0 + 0 ≤ _)⟩)
  dsimp only [Pt.U, Pt.locs, Pt.cells, Pt.slots] at X11 l11 y11 z11 st11 hQ11
  subst l11 y11 z11
  obtain ⟨rfl, N11q, e11⟩ := hQ11
  have N11 := Fr.app N10 N11q
  refine Go.via (fun t k => st11.trans k) ?_
  refine Vi (T11.setTop (mkF m 242 (LQ pF 4 x0 x1 x2 x3 nA pk [sR b1, sR nA, sI 4]) [(.int 3), (.ref nA)])) (fun tZ kZ => ?_) ?_
  · refine XS.iload X11.here hx rfl (hb hby at_226) rfl ?_
    refine XS.icmpYes X11.here hx rfl (pc0 := 228) (pc' := 233) rfl (hb hby at_228) rfl (teq (own_rt2 hx2 hf2)).1 (by decide) (by decide) ?_
    refine XS.iload X11.here hx rfl (hb hby at_233) rfl ?_
    refine XS.iconst X11.here hx rfl (hb hby at_235) ?_
    refine XS.icmpNo X11.here hx rfl (hb hby at_236) rfl (tlt (by decide)).2.2.2 ?_
    refine XS.aload X11.here hx rfl (hb hby at_239) rfl rfl ?_
    refine XS.iconst X11.here hx rfl (hb hby at_241) ?_
    exact kZ
  obtain ⟨cq12, kq12, q12a, q12b, q12c⟩ := isOf hZ e11 c6_4
  obtain ⟨_, _, ⟨T12, L12, k12, n12⟩, -, X12, ⟨Lc12, hQ12, l12, y12, z12⟩, st12⟩ := X11.virtualBack hx (y := y32) (z := y32) hown (wz hZ hw 151 rfl) (wz hZ hw 152 rfl) (notFace_of_selects (args := #[]) (wz hZ hw 154 rfl)) (wz hZ hw 154 rfl) (wz hZ hw 153 rfl) (by decide) (backOf (W := 0) (rm32 l Z a0 hw [] nA (3 : Int32) bA 4 fF cs sv T4.heap n0 Z4 c6_4 c6_5 c6_6 c6_7 c6_1 c6_2 hcs (by decide) (by decide) (by decide) hsv) hZ (wq hw 155 rfl) (wq hw 10 rfl) (by decide) (by decide)) q12a q12c (g := (mkF m 242 (LQ pF 4 x0 x1 x2 x3 nA pk [sR b1, sR nA, sI 4]) [(.int 3), (.ref nA)])) rfl (by rw [hml]; rfl) (Steps.refl _) (argsL := [(.int 3)]) (rest := []) (lenOf pd_27 rfl) rfl (leW rfl) (hb hby at_242) (fun _ _ => ⟨rfl, e11, (by decide : 5 + 1 + 0 + 0 + 0 + 0 + 0 + 0 + 0 ≤ _), (by decide : 80 + 3 + 0 + 0 + 0 + 0 + 0 + 0 + 0 ≤ _)⟩)
  dsimp only [Pt.U, Pt.locs, Pt.cells, Pt.slots] at X12 l12 y12 z12 st12 hQ12
  subst l12 y12 z12
  obtain ⟨rfl, N12q, e12⟩ := hQ12
  have N12 := Fr.app N11 N12q
  refine Go.via (fun t k => st12.trans k) ?_
  refine Vi (T12.setTop (mkF m 253 (LQ pF 4 x0 x1 x2 x3 nA pk [sR b1, sR nA, sI 4]) [(.int 1)])) (fun tZ kZ => ?_) ?_
  · refine XS.iload X12.here hx rfl (hb hby at_245) rfl ?_
    refine XS.icmpYes X12.here hx rfl (pc0 := 247) (pc' := 252) rfl (hb hby at_247) rfl (teq (own_rt2 hx3 hf3)).1 (by decide) (by decide) ?_
    refine XS.iconst X12.here hx rfl (hb hby at_252) ?_
    exact kZ
  refine Go.retNW (s := s) (vm₁ := vmT) X12 hx hST (by rw [e12]; exact hk4) hlk (t := .boolean) hret (by simp) (hb hby at_253) (by decide) (by decide) ?_
  exact ⟨rfl, N12⟩
theorem tail_4_1 (l : Launch) (Z : State) (a0 : Array Value) (hw : HW a0 Z) {p : Program} {e : Env} {s : State} {m : MethodId} {args : Array Value} {below : List Frame} {meth : Method} {c : Code} {T0 : State} {locs0 : List Loc} {vmT : Vm} {h0 : Heap} {n0 kT : Nat} {x0 x1 x2 x3 cs : Int32} {sv : Value} {em : Addr} (hC : Com l Z a0 p e s m args below meth c T0 locs0 vmT 5 80 h0 n0 kT x0 x1 x2 x3 cs sv em) (pF : Nat → Int32) (nA bA pk : Addr) (fF : Nat → Int32) (hfit : ∀ k, k < 4 → fits .byte (.int (fF k)) = true) (hf0 : fF (0 : Int32).toNatClampNeg = nar .byte ((nar .char x0).toInt8.toInt32)) (hf1 : fF (1 : Int32).toNatClampNeg = nar .byte ((nar .char x1).toInt8.toInt32)) (hf2 : fF (2 : Int32).toNatClampNeg = nar .byte ((nar .char x2).toInt8.toInt32)) (hf3 : fF (3 : Int32).toNatClampNeg = nar .byte ((nar .char x3).toInt8.toInt32)) (E_n : Exa Z h0 nA "java/lang/String") (F_c : Fld Z h0 nA "java/lang/String" "coder" "B" (.int 0)) (F_v : Fld Z h0 nA "java/lang/String" "value" "[B" (.ref bA)) (V_b : AV Z h0 bA .byte 4 (fun k => .int (fF k))) (hd0 : x0 = 46) :
    Go p e below (fun o u => ∃ v L, o = .returned v ∧ Q0 n0 v u.heap L ∧ ReturnedEndW s o u L 32 4224) (T0.setTop (mkF m 78 (LQ pF 4 x0 x1 x2 x3 nA pk [.unset, .unset, .unset]) [])) := by
  obtain ⟨X0, hx, hby, hml, hlk, hret, hZ, hown, wS, Z0, e0, N0, hST, hkT, hCH, hx0, hx1, hx2, hx3, hcs, hsv, S_CS, S_SV, S_EM, hold⟩ := hC
  obtain ⟨T1, h1, X1, e1, E1, A1, D1, -, st1⟩ := newO X0 hx hZ hown (wq hw 31 rfl) (wq hw 32 rfl) (wq hw 33 rfl) e0 (g := (mkF m 78 (LQ pF 4 x0 x1 x2 x3 nA pk [.unset, .unset, .unset]) [])) rfl (hb hby at_78) (by decide) (by decide)
  obtain ⟨b1, g1⟩ : ∃ z, z = h0.size := ⟨_, rfl⟩
  rw [← g1] at A1 D1 st1
  have g_b1 : n0 ≤ b1 := Nat.le_trans Z0 (Nat.le_of_eq g1.symm)
  have sz_b1 : h0.size ≤ b1 := Nat.le_trans ((Keep.refl h0 [])).1 (Nat.le_of_eq g1.symm)
  have ne_nA_b1 : nA ≠ b1 := Nat.ne_of_lt (Nat.lt_of_lt_of_le E_n.lt (Nat.le_of_eq g1.symm))
  have ne_bA_b1 : bA ≠ b1 := Nat.ne_of_lt (Nat.lt_of_lt_of_le V_b.lt (Nat.le_of_eq g1.symm))
  have Ac2 := CHr.ext E1 hCH
  have CR2c := CHr.trans (CHr.refl hCH) Ac2
  have c3_0 := hold.ext E1
  have c3_1 := S_CS.ext c3_0.2
  have c3_2 := S_SV.ext c3_0.2
  have c3_3 := S_EM.ext c3_0.2
  have c3_4 := E_n.ext E1
  have c3_5 := F_c.ext E1
  have c3_6 := F_v.ext E1
  have c3_7 := V_b.ext E1
  have K1 : Keep h0 h1 [] := (Keep.refl h0 []).ext E1
  have Z1 := Nat.le_trans Z0 E1.1
  have hk1 := Nat.le_trans hkT E1.1
  have Sf_b1 := Safe.ext E1 hCH (Safe.new (Nat.le_of_eq g1.symm))
  have F1_packageName : Fld Z h1 b1 "com/example/bindery/bindery/compiler/JavaType" "packageName" "Ljava/lang/String;" .null := D1 (Or.inr (wq hw 52 rfl)) (ty := (.object "java/lang/String")) (by decide)
  have F1_name : Fld Z h1 b1 "com/example/bindery/bindery/compiler/JavaType" "name" "Ljava/lang/String;" .null := D1 (Or.inr (wq hw 54 rfl)) (ty := (.object "java/lang/String")) (by decide)
  have F1_argument : Fld Z h1 b1 "com/example/bindery/bindery/compiler/JavaType" "argument" "Ljava/util/Optional;" .null := D1 (Or.inr (wq hw 56 rfl)) (ty := (.object "java/util/Optional")) (by decide)
  refine Go.via st1 ?_
  refine Vi (T1.setTop (mkF m 86 (LQ pF 4 x0 x1 x2 x3 nA pk [.unset, .unset, .unset]) [(.ref nA), (.ref pk), (.ref b1), (.ref b1)])) (fun tZ kZ => ?_) ?_
  · refine XS.dup X1.here hx rfl (hb hby at_81) rfl rfl ?_
    refine XS.aload X1.here hx rfl (hb hby at_82) rfl rfl ?_
    refine XS.aload X1.here hx rfl (hb hby at_84) rfl rfl ?_
    exact kZ
  obtain ⟨_, _, ⟨T4, L4, k4, n4⟩, -, X4, ⟨Lc4, hQ4, l4, y4, z4⟩, st4⟩ := X1.specialBack hx (y := y6) rfl hown (wz hZ hw 34 rfl) (wz hZ hw 35 rfl) (wz hZ hw 36 rfl) (by decide) (backOf (W := 1) (rm6 l Z a0 hw [] b1 pk nA em h1 n0 Z1 A1 F1_packageName F1_name F1_argument g_b1 c3_3) hZ (wq hw 36 rfl) (wq hw 33 rfl) (by decide) (by decide)) (g := (mkF m 86 (LQ pF 4 x0 x1 x2 x3 nA pk [.unset, .unset, .unset]) [(.ref nA), (.ref pk), (.ref b1), (.ref b1)])) rfl (by rw [hml]; rfl) (Steps.refl _) (a := b1) (argsL := [(.ref pk), (.ref nA)]) (rest := [(.ref b1)]) (lenOf pd_5 rfl) rfl (leW rfl) (hb hby at_86) (fun _ _ => ⟨rfl, e1, (by decide : 5 + 1 + 0 ≤ _), (by decide : 80 + 3 + 0 ≤ _)⟩)
  dsimp only [Pt.U, Pt.locs, Pt.cells, Pt.slots] at X4 l4 y4 z4 st4 hQ4
  subst l4 y4 z4
  obtain ⟨rfl, N4q, Kq4, f4_0, f4_1, f4_2, f4_3, f4_4⟩ := hQ4
  have Ac5 := CHr.keep Kq4 (allS Sf_b1 all0) Ac2.1
  have Sf5_0 := Ac5.safe A1.lt Sf_b1
  have CR5c := CHr.trans CR2c Ac5
  have c6_0 := c3_0.keep Kq4 (allS g_b1 all0)
  have c6_1 := S_CS.ext c6_0.2
  have c6_2 := S_SV.ext c6_0.2
  have c6_4 := c3_4.keep Kq4
  have c6_5 := c3_5.keep Kq4 (ninS ne_nA_b1 nin0)
  have c6_6 := c3_6.keep Kq4 (ninS ne_nA_b1 nin0)
  have c6_7 := c3_7.keep Kq4 (ninS ne_bA_b1 nin0)
  have K4 : Keep h0 T4.heap [] := K1.trans Kq4 (allS (Or.inr sz_b1) all0)
  have Z4 := Nat.le_trans Z1 Kq4.1
  have hk4 := Nat.le_trans hk1 Kq4.1
  have N4 := Fr.app N0 N4q
  refine Go.via (fun t k => st4.trans k) ?_
  refine Vi (T4.setTop (mkF m 93 (LQ pF 4 x0 x1 x2 x3 nA pk [sR b1, .unset, .unset]) [(.ref b1)])) (fun tZ kZ => ?_) ?_
  · refine XS.astore X4.here hx rfl (hb hby at_89) rfl rfl (l' := (LQ pF 4 x0 x1 x2 x3 nA pk [sR b1, .unset, .unset])) rfl ?_
    refine XS.aload X4.here hx rfl (hb hby at_91) rfl rfl ?_
    exact kZ
  obtain ⟨cq7, kq7, q7a, q7b, q7c⟩ := isOf hZ rfl f4_0
  obtain ⟨_, _, ⟨T7, L7, k7, n7⟩, -, X7, hS7, -, ⟨Lc7, hQ7, l7, y7, z7, A7⟩, st7⟩ := virtualBackS (s := s.setVm vmT) X4 hx (y := y10) (z := y10) hown (wz hZ hw 57 rfl) (wz hZ hw 58 rfl) (notFace_of_selects (args := #[]) (wz hZ hw 60 rfl)) (wz hZ hw 60 rfl) (wz hZ hw 59 rfl) (by decide) (backOfSH (s := s) (vm0 := vmT) (W := 0) (rm10n4B l Z a0 hw [] b1 nA bA fF cs sv 0 T4.heap n0 Z4 f4_0 f4_2 c6_4 c6_5 c6_6 c6_7 c6_1 c6_2 hcs hsv (by decide) (by decide) (by decide) (by decide) (by decide) (by decide) (own_l4_1 _ _ _ _ (by rw [hf0]; exact own_dot hd0)) (by decide)) hZ (wq hw 61 rfl) (wq hw 33 rfl) (by decide) (by decide) (own_EW hw) Ac5.1) q7a q7c (g := (mkF m 93 (LQ pF 4 x0 x1 x2 x3 nA pk [sR b1, .unset, .unset]) [(.ref b1)])) rfl (by rw [hml]; rfl) (Steps.refl _) (argsL := []) (rest := []) (lenOf pd_8 rfl) rfl (leW rfl) (hb hby at_93) (fun _ _ => ⟨rfl, rfl, (by decide : 5 + 1 + 0 + 2 ≤ _), (by decide : 80 + 3 + 0 + 68 ≤ _)⟩)
  dsimp only [Pt.U, Pt.locs, Pt.cells, Pt.slots] at X7 hS7 l7 y7 z7 A7 st7 hQ7
  subst l7 y7 z7
  obtain ⟨b7_0, b7_1, rfl, N7q, Kq7, f7_0, f7_1, f7_2, f7_3, f7_4, f7_5, f7_6, f7_7, f7_8, f7_9, f7_10, f7_11⟩ := hQ7
  have Sf8_0 := A7.safe f4_0.lt Sf5_0
  have CR8c := CHr.trans CR5c A7
  have c9_0 := c6_0.keep Kq7 all0
  have c9_3 := S_EM.ext c9_0.2
  have c9_10 := f4_1.keep Kq7 nin0
  have c9_12 := f4_3.keep Kq7 nin0
  have K7 : Keep h0 T7.heap [] := K4.trans Kq7 all0
  have Z7 := Nat.le_trans Z4 Kq7.1
  have ne_b7_1_nA := AV.neExa f7_11 f7_2 (wq hw 9 rfl)
  have ne_b7_1_b1 := AV.neExa f7_11 f7_0 (wq hw 32 rfl)
  have ne_b7_1_b7_0 := AV.neExa f7_11 f7_8 (wq hw 9 rfl)
  have N7 := Fr.app N4 N7q
  have hS7c : s.Since T7.vm T7.heap.size := State.Since.trans hST hS7 (Nat.le_trans hk4 Kq7.1)
  replace hZ : Z.Warmed39 (s.setVm T7.vm).vm := State.Warmed39.trans (t := s.setVm vmT) hZ hS7.1
  replace hown : (s.setVm T7.vm).vm.findClass "com/example/bindery/bindery/compiler/JavaTypeOuterNamePinLaw" = some m.cls := by rw [show (s.setVm T7.vm).vm = T7.vm from rfl, hS7.1.alike.findClass]; exact hown
  refine Go.via (fun t k => st7.trans k) ?_
  refine Vi (T7.setTop (mkF m 167 (LQ pF 4 x0 x1 x2 x3 nA pk [sR b1, sR b7_0, sI 0]) [(.ref b7_0)])) (fun tZ kZ => ?_) ?_
  · refine XS.astore X7.here hx rfl (hb hby at_96) rfl rfl (l' := (LQ pF 4 x0 x1 x2 x3 nA pk [sR b1, sR b7_0, .unset])) rfl ?_
    refine XS.iload X7.here hx rfl (hb hby at_98) rfl ?_
    refine XS.istore X7.here hx rfl (hb hby at_100) rfl (l' := (LQ pF 4 x0 x1 x2 x3 nA pk [sR b1, sR b7_0, sI 4])) rfl ?_
    refine XS.iload X7.here hx rfl (hb hby at_102) rfl ?_
    refine XS.iconst X7.here hx rfl (hb hby at_104) ?_
    refine XS.icmpNo X7.here hx rfl (hb hby at_105) rfl (tlt (by decide)).2.2.2 ?_
    refine XS.iload X7.here hx rfl (hb hby at_108) rfl ?_
    refine XS.bipush X7.here hx rfl (hb hby at_110) ?_
    have sg112 : Steps p.tables e below (T7.setTop (mkF m 118 (LQ pF 4 x0 x1 x2 x3 nA pk [sR b1, sR b7_0, sI (if x3 = (46 : Int32) then (3 : Int32) else (4 : Int32))]) [])) tZ → Steps p.tables e below (T7.setTop (mkF m 112 (LQ pF 4 x0 x1 x2 x3 nA pk [sR b1, sR b7_0, sI 4]) [(.int 46), (.int x3)])) tZ := by
      intro kj
      by_cases hc112 : x3 = (46 : Int32)
      · try simp only [if_pos hc112] at kj
        refine XS.icmpNo X7.here hx rfl (hb hby at_112) rfl (teq hc112).2 ?_
        refine XS.iconst X7.here hx rfl (hb hby at_115) ?_
        refine XS.istore X7.here hx rfl (hb hby at_116) rfl (l' := (LQ pF 4 x0 x1 x2 x3 nA pk [sR b1, sR b7_0, sI 3])) rfl ?_
        exact kj
      · try simp only [if_neg hc112] at kj
        refine XS.icmpYes X7.here hx rfl (pc0 := 112) (pc' := 118) rfl (hb hby at_112) rfl (feq hc112).2 (by decide) (by decide) ?_
        exact kj
    refine sg112 ?_
    show Steps p.tables e below (T7.setTop (mkF m 118 (LQ pF 4 x0 x1 x2 x3 nA pk [sR b1, sR b7_0, sI (if x3 = (46 : Int32) then (3 : Int32) else (4 : Int32))]) [])) _
    refine XS.iload X7.here hx rfl (hb hby at_118) rfl ?_
    refine XS.iconst X7.here hx rfl (hb hby at_120) ?_
    refine XS.icmpNo X7.here hx rfl (hb hby at_121) rfl (tlt (by decide)).2.2.2 ?_
    refine XS.iload X7.here hx rfl (hb hby at_124) rfl ?_
    refine XS.bipush X7.here hx rfl (hb hby at_126) ?_
    have sg128 : Steps p.tables e below (T7.setTop (mkF m 134 (LQ pF 4 x0 x1 x2 x3 nA pk [sR b1, sR b7_0, sI (if x2 = (46 : Int32) then (2 : Int32) else (if x3 = (46 : Int32) then (3 : Int32) else (4 : Int32)))]) [])) tZ → Steps p.tables e below (T7.setTop (mkF m 128 (LQ pF 4 x0 x1 x2 x3 nA pk [sR b1, sR b7_0, sI (if x3 = (46 : Int32) then (3 : Int32) else (4 : Int32))]) [(.int 46), (.int x2)])) tZ := by
      intro kj
      by_cases hc128 : x2 = (46 : Int32)
      · try simp only [if_pos hc128] at kj
        refine XS.icmpNo X7.here hx rfl (hb hby at_128) rfl (teq hc128).2 ?_
        refine XS.iconst X7.here hx rfl (hb hby at_131) ?_
        refine XS.istore X7.here hx rfl (hb hby at_132) rfl (l' := (LQ pF 4 x0 x1 x2 x3 nA pk [sR b1, sR b7_0, sI 2])) rfl ?_
        exact kj
      · try simp only [if_neg hc128] at kj
        refine XS.icmpYes X7.here hx rfl (pc0 := 128) (pc' := 134) rfl (hb hby at_128) rfl (feq hc128).2 (by decide) (by decide) ?_
        exact kj
    refine sg128 ?_
    show Steps p.tables e below (T7.setTop (mkF m 134 (LQ pF 4 x0 x1 x2 x3 nA pk [sR b1, sR b7_0, sI (if x2 = (46 : Int32) then (2 : Int32) else (if x3 = (46 : Int32) then (3 : Int32) else (4 : Int32)))]) [])) _
    refine XS.iload X7.here hx rfl (hb hby at_134) rfl ?_
    refine XS.iconst X7.here hx rfl (hb hby at_136) ?_
    refine XS.icmpNo X7.here hx rfl (hb hby at_137) rfl (tlt (by decide)).2.2.2 ?_
    refine XS.iload X7.here hx rfl (hb hby at_140) rfl ?_
    refine XS.bipush X7.here hx rfl (hb hby at_142) ?_
    have sg144 : Steps p.tables e below (T7.setTop (mkF m 150 (LQ pF 4 x0 x1 x2 x3 nA pk [sR b1, sR b7_0, sI (if x1 = (46 : Int32) then (1 : Int32) else (if x2 = (46 : Int32) then (2 : Int32) else (if x3 = (46 : Int32) then (3 : Int32) else (4 : Int32))))]) [])) tZ → Steps p.tables e below (T7.setTop (mkF m 144 (LQ pF 4 x0 x1 x2 x3 nA pk [sR b1, sR b7_0, sI (if x2 = (46 : Int32) then (2 : Int32) else (if x3 = (46 : Int32) then (3 : Int32) else (4 : Int32)))]) [(.int 46), (.int x1)])) tZ := by
      intro kj
      by_cases hc144 : x1 = (46 : Int32)
      · try simp only [if_pos hc144] at kj
        refine XS.icmpNo X7.here hx rfl (hb hby at_144) rfl (teq hc144).2 ?_
        refine XS.iconst X7.here hx rfl (hb hby at_147) ?_
        refine XS.istore X7.here hx rfl (hb hby at_148) rfl (l' := (LQ pF 4 x0 x1 x2 x3 nA pk [sR b1, sR b7_0, sI 1])) rfl ?_
        exact kj
      · try simp only [if_neg hc144] at kj
        refine XS.icmpYes X7.here hx rfl (pc0 := 144) (pc' := 150) rfl (hb hby at_144) rfl (feq hc144).2 (by decide) (by decide) ?_
        exact kj
    refine sg144 ?_
    show Steps p.tables e below (T7.setTop (mkF m 150 (LQ pF 4 x0 x1 x2 x3 nA pk [sR b1, sR b7_0, sI (if x1 = (46 : Int32) then (1 : Int32) else (if x2 = (46 : Int32) then (2 : Int32) else (if x3 = (46 : Int32) then (3 : Int32) else (4 : Int32))))]) [])) _
    refine XS.iload X7.here hx rfl (hb hby at_150) rfl ?_
    refine XS.ifNo X7.here hx rfl (hb hby at_152) rfl ((if0 _ _).trans (tlt (by decide)).2.2.2) ?_
    refine XS.iload X7.here hx rfl (hb hby at_155) rfl ?_
    refine XS.bipush X7.here hx rfl (hb hby at_157) ?_
    refine XS.icmpNo X7.here hx rfl (hb hby at_159) rfl (teq hd0).2 ?_
    refine XS.iconst X7.here hx rfl (hb hby at_162) ?_
    refine XS.istore X7.here hx rfl (hb hby at_163) rfl (l' := (LQ pF 4 x0 x1 x2 x3 nA pk [sR b1, sR b7_0, sI 0])) rfl ?_
    refine XS.aload X7.here hx rfl (hb hby at_165) rfl rfl ?_
    exact kZ
  obtain ⟨cq10, kq10, q10a, q10b, q10c⟩ := isOf hZ rfl f7_8
  obtain ⟨_, _, ⟨T10, L10, k10, n10⟩, -, X10, ⟨Lc10, hQ10, l10, y10, z10⟩, st10⟩ := X7.virtualBack hx (y := y14) (z := y14) hown (wz hZ hw 102 rfl) (wz hZ hw 79 rfl) (notFace_of_selects (args := #[]) (wz hZ hw 81 rfl)) (wz hZ hw 81 rfl) (wz hZ hw 80 rfl) (by decide) (backOf (W := 0) (rm14 l Z a0 hw [] b7_0 b7_1 0 (own_t []) cs T7.heap n0 Z7 f7_8 f7_9 f7_10 f7_11 f7_6 hcs) hZ (wq hw 82 rfl) (wq hw 10 rfl) (by decide) (by decide)) q10a q10c (g := (mkF m 167 (LQ pF 4 x0 x1 x2 x3 nA pk [sR b1, sR b7_0, sI 0]) [(.ref b7_0)])) rfl (by rw [hml]; rfl) (Steps.refl _) (argsL := []) (rest := []) (lenOf pd_12 rfl) rfl (leW rfl) (hb hby at_167) (fun _ _ => ⟨rfl, rfl, (by decide : 5 + 1 + 0 + 2 + 0 ≤ _), (by decide : 80 + 3 + 0 + 68 + 0 ≤ _)⟩)
  dsimp only [Pt.U, Pt.locs, Pt.cells, Pt.slots] at X10 l10 y10 z10 st10 hQ10
  subst l10 y10 z10
  obtain ⟨rfl, N10q, e10⟩ := hQ10
  have hv10 : (f14 b7_0 b7_1 0 (own_t []) cs) = (Int32.ofNat 0) := by unfold f14; exact own_sh0 _
  rw [hv10] at st10
  have N10 := Fr.app N7 N10q
  refine Go.via (fun t k => st10.trans k) ?_
  refine Vi (T10.setTop (mkF m 253 (LQ pF 4 x0 x1 x2 x3 nA pk [sR b1, sR b7_0, sI 0]) [(.int 1)])) (fun tZ kZ => ?_) ?_
  · refine XS.iload X10.here hx rfl (hb hby at_170) rfl ?_
    refine XS.icmpYes X10.here hx rfl (pc0 := 172) (pc' := 177) rfl (hb hby at_172) rfl (teq (by decide)).1 (by decide) (by decide) ?_
    refine XS.iload X10.here hx rfl (hb hby at_177) rfl ?_
    refine XS.ifYes X10.here hx rfl (pc0 := 179) (pc' := 195) rfl (hb hby at_179) rfl ((if0 _ _).trans (flt (by decide)).2.2.2) (by decide) (by decide) ?_
    refine XS.iload X10.here hx rfl (hb hby at_195) rfl ?_
    refine XS.iconst X10.here hx rfl (hb hby at_197) ?_
    refine XS.icmpYes X10.here hx rfl (pc0 := 198) (pc' := 214) rfl (hb hby at_198) rfl (flt (by decide)).2.2.2 (by decide) (by decide) ?_
    refine XS.iload X10.here hx rfl (hb hby at_214) rfl ?_
    refine XS.iconst X10.here hx rfl (hb hby at_216) ?_
    refine XS.icmpYes X10.here hx rfl (pc0 := 217) (pc' := 233) rfl (hb hby at_217) rfl (flt (by decide)).2.2.2 (by decide) (by decide) ?_
    refine XS.iload X10.here hx rfl (hb hby at_233) rfl ?_
    refine XS.iconst X10.here hx rfl (hb hby at_235) ?_
    refine XS.icmpYes X10.here hx rfl (pc0 := 236) (pc' := 252) rfl (hb hby at_236) rfl (flt (by decide)).2.2.2 (by decide) (by decide) ?_
    refine XS.iconst X10.here hx rfl (hb hby at_252) ?_
    exact kZ
  refine Go.retNW (s := s) (vm₁ := T7.vm) X10 hx hS7c (by rw [e10]; exact (Nat.le_refl _)) hlk (t := .boolean) hret (by simp) (hb hby at_253) (by decide) (by decide) ?_
  exact ⟨rfl, N10⟩
theorem tail_4_2 (l : Launch) (Z : State) (a0 : Array Value) (hw : HW a0 Z) {p : Program} {e : Env} {s : State} {m : MethodId} {args : Array Value} {below : List Frame} {meth : Method} {c : Code} {T0 : State} {locs0 : List Loc} {vmT : Vm} {h0 : Heap} {n0 kT : Nat} {x0 x1 x2 x3 cs : Int32} {sv : Value} {em : Addr} (hC : Com l Z a0 p e s m args below meth c T0 locs0 vmT 5 80 h0 n0 kT x0 x1 x2 x3 cs sv em) (pF : Nat → Int32) (nA bA pk : Addr) (fF : Nat → Int32) (hfit : ∀ k, k < 4 → fits .byte (.int (fF k)) = true) (hf0 : fF (0 : Int32).toNatClampNeg = nar .byte ((nar .char x0).toInt8.toInt32)) (hf1 : fF (1 : Int32).toNatClampNeg = nar .byte ((nar .char x1).toInt8.toInt32)) (hf2 : fF (2 : Int32).toNatClampNeg = nar .byte ((nar .char x2).toInt8.toInt32)) (hf3 : fF (3 : Int32).toNatClampNeg = nar .byte ((nar .char x3).toInt8.toInt32)) (E_n : Exa Z h0 nA "java/lang/String") (F_c : Fld Z h0 nA "java/lang/String" "coder" "B" (.int 0)) (F_v : Fld Z h0 nA "java/lang/String" "value" "[B" (.ref bA)) (V_b : AV Z h0 bA .byte 4 (fun k => .int (fF k))) (hd0 : ¬ x0 = 46) (hd1 : x1 = 46) :
    Go p e below (fun o u => ∃ v L, o = .returned v ∧ Q0 n0 v u.heap L ∧ ReturnedEndW s o u L 32 4224) (T0.setTop (mkF m 78 (LQ pF 4 x0 x1 x2 x3 nA pk [.unset, .unset, .unset]) [])) := by
  obtain ⟨X0, hx, hby, hml, hlk, hret, hZ, hown, wS, Z0, e0, N0, hST, hkT, hCH, hx0, hx1, hx2, hx3, hcs, hsv, S_CS, S_SV, S_EM, hold⟩ := hC
  obtain ⟨T1, h1, X1, e1, E1, A1, D1, -, st1⟩ := newO X0 hx hZ hown (wq hw 31 rfl) (wq hw 32 rfl) (wq hw 33 rfl) e0 (g := (mkF m 78 (LQ pF 4 x0 x1 x2 x3 nA pk [.unset, .unset, .unset]) [])) rfl (hb hby at_78) (by decide) (by decide)
  obtain ⟨b1, g1⟩ : ∃ z, z = h0.size := ⟨_, rfl⟩
  rw [← g1] at A1 D1 st1
  have g_b1 : n0 ≤ b1 := Nat.le_trans Z0 (Nat.le_of_eq g1.symm)
  have sz_b1 : h0.size ≤ b1 := Nat.le_trans ((Keep.refl h0 [])).1 (Nat.le_of_eq g1.symm)
  have ne_nA_b1 : nA ≠ b1 := Nat.ne_of_lt (Nat.lt_of_lt_of_le E_n.lt (Nat.le_of_eq g1.symm))
  have ne_bA_b1 : bA ≠ b1 := Nat.ne_of_lt (Nat.lt_of_lt_of_le V_b.lt (Nat.le_of_eq g1.symm))
  have Ac2 := CHr.ext E1 hCH
  have CR2c := CHr.trans (CHr.refl hCH) Ac2
  have c3_0 := hold.ext E1
  have c3_1 := S_CS.ext c3_0.2
  have c3_2 := S_SV.ext c3_0.2
  have c3_3 := S_EM.ext c3_0.2
  have c3_4 := E_n.ext E1
  have c3_5 := F_c.ext E1
  have c3_6 := F_v.ext E1
  have c3_7 := V_b.ext E1
  have K1 : Keep h0 h1 [] := (Keep.refl h0 []).ext E1
  have Z1 := Nat.le_trans Z0 E1.1
  have hk1 := Nat.le_trans hkT E1.1
  have Sf_b1 := Safe.ext E1 hCH (Safe.new (Nat.le_of_eq g1.symm))
  have F1_packageName : Fld Z h1 b1 "com/example/bindery/bindery/compiler/JavaType" "packageName" "Ljava/lang/String;" .null := D1 (Or.inr (wq hw 52 rfl)) (ty := (.object "java/lang/String")) (by decide)
  have F1_name : Fld Z h1 b1 "com/example/bindery/bindery/compiler/JavaType" "name" "Ljava/lang/String;" .null := D1 (Or.inr (wq hw 54 rfl)) (ty := (.object "java/lang/String")) (by decide)
  have F1_argument : Fld Z h1 b1 "com/example/bindery/bindery/compiler/JavaType" "argument" "Ljava/util/Optional;" .null := D1 (Or.inr (wq hw 56 rfl)) (ty := (.object "java/util/Optional")) (by decide)
  refine Go.via st1 ?_
  refine Vi (T1.setTop (mkF m 86 (LQ pF 4 x0 x1 x2 x3 nA pk [.unset, .unset, .unset]) [(.ref nA), (.ref pk), (.ref b1), (.ref b1)])) (fun tZ kZ => ?_) ?_
  · refine XS.dup X1.here hx rfl (hb hby at_81) rfl rfl ?_
    refine XS.aload X1.here hx rfl (hb hby at_82) rfl rfl ?_
    refine XS.aload X1.here hx rfl (hb hby at_84) rfl rfl ?_
    exact kZ
  obtain ⟨_, _, ⟨T4, L4, k4, n4⟩, -, X4, ⟨Lc4, hQ4, l4, y4, z4⟩, st4⟩ := X1.specialBack hx (y := y6) rfl hown (wz hZ hw 34 rfl) (wz hZ hw 35 rfl) (wz hZ hw 36 rfl) (by decide) (backOf (W := 1) (rm6 l Z a0 hw [] b1 pk nA em h1 n0 Z1 A1 F1_packageName F1_name F1_argument g_b1 c3_3) hZ (wq hw 36 rfl) (wq hw 33 rfl) (by decide) (by decide)) (g := (mkF m 86 (LQ pF 4 x0 x1 x2 x3 nA pk [.unset, .unset, .unset]) [(.ref nA), (.ref pk), (.ref b1), (.ref b1)])) rfl (by rw [hml]; rfl) (Steps.refl _) (a := b1) (argsL := [(.ref pk), (.ref nA)]) (rest := [(.ref b1)]) (lenOf pd_5 rfl) rfl (leW rfl) (hb hby at_86) (fun _ _ => ⟨rfl, e1, (by decide : 5 + 1 + 0 ≤ _), (by decide : 80 + 3 + 0 ≤ _)⟩)
  dsimp only [Pt.U, Pt.locs, Pt.cells, Pt.slots] at X4 l4 y4 z4 st4 hQ4
  subst l4 y4 z4
  obtain ⟨rfl, N4q, Kq4, f4_0, f4_1, f4_2, f4_3, f4_4⟩ := hQ4
  have Ac5 := CHr.keep Kq4 (allS Sf_b1 all0) Ac2.1
  have Sf5_0 := Ac5.safe A1.lt Sf_b1
  have CR5c := CHr.trans CR2c Ac5
  have c6_0 := c3_0.keep Kq4 (allS g_b1 all0)
  have c6_1 := S_CS.ext c6_0.2
  have c6_2 := S_SV.ext c6_0.2
  have c6_4 := c3_4.keep Kq4
  have c6_5 := c3_5.keep Kq4 (ninS ne_nA_b1 nin0)
  have c6_6 := c3_6.keep Kq4 (ninS ne_nA_b1 nin0)
  have c6_7 := c3_7.keep Kq4 (ninS ne_bA_b1 nin0)
  have K4 : Keep h0 T4.heap [] := K1.trans Kq4 (allS (Or.inr sz_b1) all0)
  have Z4 := Nat.le_trans Z1 Kq4.1
  have hk4 := Nat.le_trans hk1 Kq4.1
  have N4 := Fr.app N0 N4q
  refine Go.via (fun t k => st4.trans k) ?_
  refine Vi (T4.setTop (mkF m 93 (LQ pF 4 x0 x1 x2 x3 nA pk [sR b1, .unset, .unset]) [(.ref b1)])) (fun tZ kZ => ?_) ?_
  · refine XS.astore X4.here hx rfl (hb hby at_89) rfl rfl (l' := (LQ pF 4 x0 x1 x2 x3 nA pk [sR b1, .unset, .unset])) rfl ?_
    refine XS.aload X4.here hx rfl (hb hby at_91) rfl rfl ?_
    exact kZ
  obtain ⟨cq7, kq7, q7a, q7b, q7c⟩ := isOf hZ rfl f4_0
  obtain ⟨_, _, ⟨T7, L7, k7, n7⟩, -, X7, ⟨Lc7, hQ7, l7, y7, z7⟩, st7⟩ := X4.virtualBack hx (y := y10) (z := y10) hown (wz hZ hw 57 rfl) (wz hZ hw 58 rfl) (notFace_of_selects (args := #[]) (wz hZ hw 60 rfl)) (wz hZ hw 60 rfl) (wz hZ hw 59 rfl) (by decide) (backOf (W := 0) (rm10n4C l Z a0 hw [] b1 nA bA fF cs sv 1 T4.heap n0 Z4 f4_0 f4_2 c6_4 c6_5 c6_6 c6_7 c6_1 c6_2 hcs hsv (by decide) (by decide) (by decide) (by decide) (by decide) (by decide) (by decide) (by decide) (by decide) (by decide) (by decide) (by decide) (by decide) hfit (own_l4_2 _ _ _ _ (by rw [hf0]; exact own_ndot hx0 hd0) (by rw [hf1]; exact own_dot hd1)) (by decide)) hZ (wq hw 61 rfl) (wq hw 33 rfl) (by decide) (by decide)) q7a q7c (g := (mkF m 93 (LQ pF 4 x0 x1 x2 x3 nA pk [sR b1, .unset, .unset]) [(.ref b1)])) rfl (by rw [hml]; rfl) (Steps.refl _) (argsL := []) (rest := []) (lenOf pd_8 rfl) rfl (leW rfl) (hb hby at_93) (fun _ _ => ⟨rfl, rfl, (by decide : 5 + 1 + 0 + 2 ≤ _), (by decide : 80 + 3 + 0 + 8 ≤ _)⟩)
  dsimp only [Pt.U, Pt.locs, Pt.cells, Pt.slots] at X7 l7 y7 z7 st7 hQ7
  subst l7 y7 z7
  obtain ⟨b7_0, b7_1, rfl, N7q, Kq7, hz_b7_0, hz_b7_1, f7_0, f7_1, f7_2, f7_3, f7_4, f7_5, f7_6, f7_7, f7_8, f7_9, f7_10, f7_11⟩ := hQ7
  have Ac8 := CHr.keep Kq7 all0 Ac5.1
  have Sf8_0 := Ac8.safe f4_0.lt Sf5_0
  have CR8c := CHr.trans CR5c Ac8
  have c9_0 := c6_0.keep Kq7 all0
  have c9_3 := S_EM.ext c9_0.2
  have c9_10 := f4_1.keep Kq7 nin0
  have c9_12 := f4_3.keep Kq7 nin0
  have K7 : Keep h0 T7.heap [] := K4.trans Kq7 all0
  have Z7 := Nat.le_trans Z4 Kq7.1
  have hk7 := Nat.le_trans hk4 Kq7.1
  have N7 := Fr.app N4 N7q
  refine Go.via (fun t k => st7.trans k) ?_
  refine Vi (T7.setTop (mkF m 167 (LQ pF 4 x0 x1 x2 x3 nA pk [sR b1, sR b7_0, sI 1]) [(.ref b7_0)])) (fun tZ kZ => ?_) ?_
  · refine XS.astore X7.here hx rfl (hb hby at_96) rfl rfl (l' := (LQ pF 4 x0 x1 x2 x3 nA pk [sR b1, sR b7_0, .unset])) rfl ?_
    refine XS.iload X7.here hx rfl (hb hby at_98) rfl ?_
    refine XS.istore X7.here hx rfl (hb hby at_100) rfl (l' := (LQ pF 4 x0 x1 x2 x3 nA pk [sR b1, sR b7_0, sI 4])) rfl ?_
    refine XS.iload X7.here hx rfl (hb hby at_102) rfl ?_
    refine XS.iconst X7.here hx rfl (hb hby at_104) ?_
    refine XS.icmpNo X7.here hx rfl (hb hby at_105) rfl (tlt (by decide)).2.2.2 ?_
    refine XS.iload X7.here hx rfl (hb hby at_108) rfl ?_
    refine XS.bipush X7.here hx rfl (hb hby at_110) ?_
    have sg112 : Steps p.tables e below (T7.setTop (mkF m 118 (LQ pF 4 x0 x1 x2 x3 nA pk [sR b1, sR b7_0, sI (if x3 = (46 : Int32) then (3 : Int32) else (4 : Int32))]) [])) tZ → Steps p.tables e below (T7.setTop (mkF m 112 (LQ pF 4 x0 x1 x2 x3 nA pk [sR b1, sR b7_0, sI 4]) [(.int 46), (.int x3)])) tZ := by
      intro kj
      by_cases hc112 : x3 = (46 : Int32)
      · try simp only [if_pos hc112] at kj
        refine XS.icmpNo X7.here hx rfl (hb hby at_112) rfl (teq hc112).2 ?_
        refine XS.iconst X7.here hx rfl (hb hby at_115) ?_
        refine XS.istore X7.here hx rfl (hb hby at_116) rfl (l' := (LQ pF 4 x0 x1 x2 x3 nA pk [sR b1, sR b7_0, sI 3])) rfl ?_
        exact kj
      · try simp only [if_neg hc112] at kj
        refine XS.icmpYes X7.here hx rfl (pc0 := 112) (pc' := 118) rfl (hb hby at_112) rfl (feq hc112).2 (by decide) (by decide) ?_
        exact kj
    refine sg112 ?_
    show Steps p.tables e below (T7.setTop (mkF m 118 (LQ pF 4 x0 x1 x2 x3 nA pk [sR b1, sR b7_0, sI (if x3 = (46 : Int32) then (3 : Int32) else (4 : Int32))]) [])) _
    refine XS.iload X7.here hx rfl (hb hby at_118) rfl ?_
    refine XS.iconst X7.here hx rfl (hb hby at_120) ?_
    refine XS.icmpNo X7.here hx rfl (hb hby at_121) rfl (tlt (by decide)).2.2.2 ?_
    refine XS.iload X7.here hx rfl (hb hby at_124) rfl ?_
    refine XS.bipush X7.here hx rfl (hb hby at_126) ?_
    have sg128 : Steps p.tables e below (T7.setTop (mkF m 134 (LQ pF 4 x0 x1 x2 x3 nA pk [sR b1, sR b7_0, sI (if x2 = (46 : Int32) then (2 : Int32) else (if x3 = (46 : Int32) then (3 : Int32) else (4 : Int32)))]) [])) tZ → Steps p.tables e below (T7.setTop (mkF m 128 (LQ pF 4 x0 x1 x2 x3 nA pk [sR b1, sR b7_0, sI (if x3 = (46 : Int32) then (3 : Int32) else (4 : Int32))]) [(.int 46), (.int x2)])) tZ := by
      intro kj
      by_cases hc128 : x2 = (46 : Int32)
      · try simp only [if_pos hc128] at kj
        refine XS.icmpNo X7.here hx rfl (hb hby at_128) rfl (teq hc128).2 ?_
        refine XS.iconst X7.here hx rfl (hb hby at_131) ?_
        refine XS.istore X7.here hx rfl (hb hby at_132) rfl (l' := (LQ pF 4 x0 x1 x2 x3 nA pk [sR b1, sR b7_0, sI 2])) rfl ?_
        exact kj
      · try simp only [if_neg hc128] at kj
        refine XS.icmpYes X7.here hx rfl (pc0 := 128) (pc' := 134) rfl (hb hby at_128) rfl (feq hc128).2 (by decide) (by decide) ?_
        exact kj
    refine sg128 ?_
    show Steps p.tables e below (T7.setTop (mkF m 134 (LQ pF 4 x0 x1 x2 x3 nA pk [sR b1, sR b7_0, sI (if x2 = (46 : Int32) then (2 : Int32) else (if x3 = (46 : Int32) then (3 : Int32) else (4 : Int32)))]) [])) _
    refine XS.iload X7.here hx rfl (hb hby at_134) rfl ?_
    refine XS.iconst X7.here hx rfl (hb hby at_136) ?_
    refine XS.icmpNo X7.here hx rfl (hb hby at_137) rfl (tlt (by decide)).2.2.2 ?_
    refine XS.iload X7.here hx rfl (hb hby at_140) rfl ?_
    refine XS.bipush X7.here hx rfl (hb hby at_142) ?_
    refine XS.icmpNo X7.here hx rfl (hb hby at_144) rfl (teq hd1).2 ?_
    refine XS.iconst X7.here hx rfl (hb hby at_147) ?_
    refine XS.istore X7.here hx rfl (hb hby at_148) rfl (l' := (LQ pF 4 x0 x1 x2 x3 nA pk [sR b1, sR b7_0, sI 1])) rfl ?_
    refine XS.iload X7.here hx rfl (hb hby at_150) rfl ?_
    refine XS.ifNo X7.here hx rfl (hb hby at_152) rfl ((if0 _ _).trans (tlt (by decide)).2.2.2) ?_
    refine XS.iload X7.here hx rfl (hb hby at_155) rfl ?_
    refine XS.bipush X7.here hx rfl (hb hby at_157) ?_
    refine XS.icmpYes X7.here hx rfl (pc0 := 159) (pc' := 165) rfl (hb hby at_159) rfl (feq hd0).2 (by decide) (by decide) ?_
    refine XS.aload X7.here hx rfl (hb hby at_165) rfl rfl ?_
    exact kZ
  obtain ⟨cq10, kq10, q10a, q10b, q10c⟩ := isOf hZ rfl f7_8
  obtain ⟨_, _, ⟨T10, L10, k10, n10⟩, -, X10, ⟨Lc10, hQ10, l10, y10, z10⟩, st10⟩ := X7.virtualBack hx (y := y14) (z := y14) hown (wz hZ hw 102 rfl) (wz hZ hw 79 rfl) (notFace_of_selects (args := #[]) (wz hZ hw 81 rfl)) (wz hZ hw 81 rfl) (wz hZ hw 80 rfl) (by decide) (backOf (W := 0) (rm14 l Z a0 hw [] b7_0 b7_1 1 (own_sh fF 0) cs T7.heap n0 Z7 f7_8 f7_10 f7_9 f7_11 f7_6 hcs) hZ (wq hw 82 rfl) (wq hw 10 rfl) (by decide) (by decide)) q10a q10c (g := (mkF m 167 (LQ pF 4 x0 x1 x2 x3 nA pk [sR b1, sR b7_0, sI 1]) [(.ref b7_0)])) rfl (by rw [hml]; rfl) (Steps.refl _) (argsL := []) (rest := []) (lenOf pd_12 rfl) rfl (leW rfl) (hb hby at_167) (fun _ _ => ⟨rfl, rfl, (by decide : 5 + 1 + 0 + 2 + 0 ≤ _), (by decide : 80 + 3 + 0 + 8 + 0 ≤ _)⟩)
  dsimp only [Pt.U, Pt.locs, Pt.cells, Pt.slots] at X10 l10 y10 z10 st10 hQ10
  subst l10 y10 z10
  obtain ⟨rfl, N10q, e10⟩ := hQ10
  have hv10 : (f14 b7_0 b7_1 1 (own_sh fF 0) cs) = (Int32.ofNat 1) := by unfold f14; exact own_sh0 _
  rw [hv10] at st10
  have N10 := Fr.app N7 N10q
  refine Go.via (fun t k => st10.trans k) ?_
  refine Vi (T10.setTop (mkF m 185 (LQ pF 4 x0 x1 x2 x3 nA pk [sR b1, sR b7_0, sI 1]) [(.int 0), (.ref b7_0)])) (fun tZ kZ => ?_) ?_
  · refine XS.iload X10.here hx rfl (hb hby at_170) rfl ?_
    refine XS.icmpYes X10.here hx rfl (pc0 := 172) (pc' := 177) rfl (hb hby at_172) rfl (teq (by decide)).1 (by decide) (by decide) ?_
    refine XS.iload X10.here hx rfl (hb hby at_177) rfl ?_
    refine XS.ifNo X10.here hx rfl (hb hby at_179) rfl ((if0 _ _).trans (tlt (by decide)).2.2.2) ?_
    refine XS.aload X10.here hx rfl (hb hby at_182) rfl rfl ?_
    refine XS.iconst X10.here hx rfl (hb hby at_184) ?_
    exact kZ
  obtain ⟨cq11, kq11, q11a, q11b, q11c⟩ := isOf hZ e10 f7_8
  obtain ⟨_, _, ⟨T11, L11, k11, n11⟩, -, X11, ⟨Lc11, hQ11, l11, y11, z11⟩, st11⟩ := X10.virtualBack hx (y := y32) (z := y32) hown (wz hZ hw 151 rfl) (wz hZ hw 152 rfl) (notFace_of_selects (args := #[]) (wz hZ hw 154 rfl)) (wz hZ hw 154 rfl) (wz hZ hw 153 rfl) (by decide) (backOf (W := 0) (rm32 l Z a0 hw [] b7_0 (0 : Int32) b7_1 1 (own_sh fF 0) cs sv T7.heap n0 Z7 f7_8 f7_10 f7_9 f7_11 f7_6 f7_7 hcs (by decide) (by decide) (by decide) hsv) hZ (wq hw 155 rfl) (wq hw 10 rfl) (by decide) (by decide)) q11a q11c (g := (mkF m 185 (LQ pF 4 x0 x1 x2 x3 nA pk [sR b1, sR b7_0, sI 1]) [(.int 0), (.ref b7_0)])) rfl (by rw [hml]; rfl) (Steps.refl _) (argsL := [(.int 0)]) (rest := []) (lenOf pd_27 rfl) rfl (leW rfl) (hb hby at_185) (fun _ _ => ⟨rfl, e10, (by decide : 5 + 1 + 0 + 2 + 0 + 0 ≤ _), (by decide : 80 + 3 + 0 + 8 + 0 + 0 ≤ _)⟩)
  dsimp only [Pt.U, Pt.locs, Pt.cells, Pt.slots] at X11 l11 y11 z11 st11 hQ11
  subst l11 y11 z11
  obtain ⟨rfl, N11q, e11⟩ := hQ11
  have N11 := Fr.app N10 N11q
  refine Go.via (fun t k => st11.trans k) ?_
  refine Vi (T11.setTop (mkF m 253 (LQ pF 4 x0 x1 x2 x3 nA pk [sR b1, sR b7_0, sI 1]) [(.int 1)])) (fun tZ kZ => ?_) ?_
  · refine XS.iload X11.here hx rfl (hb hby at_188) rfl ?_
    refine XS.icmpYes X11.here hx rfl (pc0 := 190) (pc' := 195) rfl (hb hby at_190) rfl (teq (own_rt2 hx0 hf0)).1 (by decide) (by decide) ?_
    refine XS.iload X11.here hx rfl (hb hby at_195) rfl ?_
    refine XS.iconst X11.here hx rfl (hb hby at_197) ?_
    refine XS.icmpYes X11.here hx rfl (pc0 := 198) (pc' := 214) rfl (hb hby at_198) rfl (flt (by decide)).2.2.2 (by decide) (by decide) ?_
    refine XS.iload X11.here hx rfl (hb hby at_214) rfl ?_
    refine XS.iconst X11.here hx rfl (hb hby at_216) ?_
    refine XS.icmpYes X11.here hx rfl (pc0 := 217) (pc' := 233) rfl (hb hby at_217) rfl (flt (by decide)).2.2.2 (by decide) (by decide) ?_
    refine XS.iload X11.here hx rfl (hb hby at_233) rfl ?_
    refine XS.iconst X11.here hx rfl (hb hby at_235) ?_
    refine XS.icmpYes X11.here hx rfl (pc0 := 236) (pc' := 252) rfl (hb hby at_236) rfl (flt (by decide)).2.2.2 (by decide) (by decide) ?_
    refine XS.iconst X11.here hx rfl (hb hby at_252) ?_
    exact kZ
  refine Go.retNW (s := s) (vm₁ := vmT) X11 hx hST (by rw [e11]; exact hk7) hlk (t := .boolean) hret (by simp) (hb hby at_253) (by decide) (by decide) ?_
  exact ⟨rfl, N11⟩
theorem tail_4_3 (l : Launch) (Z : State) (a0 : Array Value) (hw : HW a0 Z) {p : Program} {e : Env} {s : State} {m : MethodId} {args : Array Value} {below : List Frame} {meth : Method} {c : Code} {T0 : State} {locs0 : List Loc} {vmT : Vm} {h0 : Heap} {n0 kT : Nat} {x0 x1 x2 x3 cs : Int32} {sv : Value} {em : Addr} (hC : Com l Z a0 p e s m args below meth c T0 locs0 vmT 5 80 h0 n0 kT x0 x1 x2 x3 cs sv em) (pF : Nat → Int32) (nA bA pk : Addr) (fF : Nat → Int32) (hfit : ∀ k, k < 4 → fits .byte (.int (fF k)) = true) (hf0 : fF (0 : Int32).toNatClampNeg = nar .byte ((nar .char x0).toInt8.toInt32)) (hf1 : fF (1 : Int32).toNatClampNeg = nar .byte ((nar .char x1).toInt8.toInt32)) (hf2 : fF (2 : Int32).toNatClampNeg = nar .byte ((nar .char x2).toInt8.toInt32)) (hf3 : fF (3 : Int32).toNatClampNeg = nar .byte ((nar .char x3).toInt8.toInt32)) (E_n : Exa Z h0 nA "java/lang/String") (F_c : Fld Z h0 nA "java/lang/String" "coder" "B" (.int 0)) (F_v : Fld Z h0 nA "java/lang/String" "value" "[B" (.ref bA)) (V_b : AV Z h0 bA .byte 4 (fun k => .int (fF k))) (hd0 : ¬ x0 = 46) (hd1 : ¬ x1 = 46) (hd2 : x2 = 46) :
    Go p e below (fun o u => ∃ v L, o = .returned v ∧ Q0 n0 v u.heap L ∧ ReturnedEndW s o u L 32 4224) (T0.setTop (mkF m 78 (LQ pF 4 x0 x1 x2 x3 nA pk [.unset, .unset, .unset]) [])) := by
  obtain ⟨X0, hx, hby, hml, hlk, hret, hZ, hown, wS, Z0, e0, N0, hST, hkT, hCH, hx0, hx1, hx2, hx3, hcs, hsv, S_CS, S_SV, S_EM, hold⟩ := hC
  obtain ⟨T1, h1, X1, e1, E1, A1, D1, -, st1⟩ := newO X0 hx hZ hown (wq hw 31 rfl) (wq hw 32 rfl) (wq hw 33 rfl) e0 (g := (mkF m 78 (LQ pF 4 x0 x1 x2 x3 nA pk [.unset, .unset, .unset]) [])) rfl (hb hby at_78) (by decide) (by decide)
  obtain ⟨b1, g1⟩ : ∃ z, z = h0.size := ⟨_, rfl⟩
  rw [← g1] at A1 D1 st1
  have g_b1 : n0 ≤ b1 := Nat.le_trans Z0 (Nat.le_of_eq g1.symm)
  have sz_b1 : h0.size ≤ b1 := Nat.le_trans ((Keep.refl h0 [])).1 (Nat.le_of_eq g1.symm)
  have ne_nA_b1 : nA ≠ b1 := Nat.ne_of_lt (Nat.lt_of_lt_of_le E_n.lt (Nat.le_of_eq g1.symm))
  have ne_bA_b1 : bA ≠ b1 := Nat.ne_of_lt (Nat.lt_of_lt_of_le V_b.lt (Nat.le_of_eq g1.symm))
  have Ac2 := CHr.ext E1 hCH
  have CR2c := CHr.trans (CHr.refl hCH) Ac2
  have c3_0 := hold.ext E1
  have c3_1 := S_CS.ext c3_0.2
  have c3_2 := S_SV.ext c3_0.2
  have c3_3 := S_EM.ext c3_0.2
  have c3_4 := E_n.ext E1
  have c3_5 := F_c.ext E1
  have c3_6 := F_v.ext E1
  have c3_7 := V_b.ext E1
  have K1 : Keep h0 h1 [] := (Keep.refl h0 []).ext E1
  have Z1 := Nat.le_trans Z0 E1.1
  have hk1 := Nat.le_trans hkT E1.1
  have Sf_b1 := Safe.ext E1 hCH (Safe.new (Nat.le_of_eq g1.symm))
  have F1_packageName : Fld Z h1 b1 "com/example/bindery/bindery/compiler/JavaType" "packageName" "Ljava/lang/String;" .null := D1 (Or.inr (wq hw 52 rfl)) (ty := (.object "java/lang/String")) (by decide)
  have F1_name : Fld Z h1 b1 "com/example/bindery/bindery/compiler/JavaType" "name" "Ljava/lang/String;" .null := D1 (Or.inr (wq hw 54 rfl)) (ty := (.object "java/lang/String")) (by decide)
  have F1_argument : Fld Z h1 b1 "com/example/bindery/bindery/compiler/JavaType" "argument" "Ljava/util/Optional;" .null := D1 (Or.inr (wq hw 56 rfl)) (ty := (.object "java/util/Optional")) (by decide)
  refine Go.via st1 ?_
  refine Vi (T1.setTop (mkF m 86 (LQ pF 4 x0 x1 x2 x3 nA pk [.unset, .unset, .unset]) [(.ref nA), (.ref pk), (.ref b1), (.ref b1)])) (fun tZ kZ => ?_) ?_
  · refine XS.dup X1.here hx rfl (hb hby at_81) rfl rfl ?_
    refine XS.aload X1.here hx rfl (hb hby at_82) rfl rfl ?_
    refine XS.aload X1.here hx rfl (hb hby at_84) rfl rfl ?_
    exact kZ
  obtain ⟨_, _, ⟨T4, L4, k4, n4⟩, -, X4, ⟨Lc4, hQ4, l4, y4, z4⟩, st4⟩ := X1.specialBack hx (y := y6) rfl hown (wz hZ hw 34 rfl) (wz hZ hw 35 rfl) (wz hZ hw 36 rfl) (by decide) (backOf (W := 1) (rm6 l Z a0 hw [] b1 pk nA em h1 n0 Z1 A1 F1_packageName F1_name F1_argument g_b1 c3_3) hZ (wq hw 36 rfl) (wq hw 33 rfl) (by decide) (by decide)) (g := (mkF m 86 (LQ pF 4 x0 x1 x2 x3 nA pk [.unset, .unset, .unset]) [(.ref nA), (.ref pk), (.ref b1), (.ref b1)])) rfl (by rw [hml]; rfl) (Steps.refl _) (a := b1) (argsL := [(.ref pk), (.ref nA)]) (rest := [(.ref b1)]) (lenOf pd_5 rfl) rfl (leW rfl) (hb hby at_86) (fun _ _ => ⟨rfl, e1, (by decide : 5 + 1 + 0 ≤ _), (by decide : 80 + 3 + 0 ≤ _)⟩)
  dsimp only [Pt.U, Pt.locs, Pt.cells, Pt.slots] at X4 l4 y4 z4 st4 hQ4
  subst l4 y4 z4
  obtain ⟨rfl, N4q, Kq4, f4_0, f4_1, f4_2, f4_3, f4_4⟩ := hQ4
  have Ac5 := CHr.keep Kq4 (allS Sf_b1 all0) Ac2.1
  have Sf5_0 := Ac5.safe A1.lt Sf_b1
  have CR5c := CHr.trans CR2c Ac5
  have c6_0 := c3_0.keep Kq4 (allS g_b1 all0)
  have c6_1 := S_CS.ext c6_0.2
  have c6_2 := S_SV.ext c6_0.2
  have c6_4 := c3_4.keep Kq4
  have c6_5 := c3_5.keep Kq4 (ninS ne_nA_b1 nin0)
  have c6_6 := c3_6.keep Kq4 (ninS ne_nA_b1 nin0)
  have c6_7 := c3_7.keep Kq4 (ninS ne_bA_b1 nin0)
  have K4 : Keep h0 T4.heap [] := K1.trans Kq4 (allS (Or.inr sz_b1) all0)
  have Z4 := Nat.le_trans Z1 Kq4.1
  have hk4 := Nat.le_trans hk1 Kq4.1
  have N4 := Fr.app N0 N4q
  refine Go.via (fun t k => st4.trans k) ?_
  refine Vi (T4.setTop (mkF m 93 (LQ pF 4 x0 x1 x2 x3 nA pk [sR b1, .unset, .unset]) [(.ref b1)])) (fun tZ kZ => ?_) ?_
  · refine XS.astore X4.here hx rfl (hb hby at_89) rfl rfl (l' := (LQ pF 4 x0 x1 x2 x3 nA pk [sR b1, .unset, .unset])) rfl ?_
    refine XS.aload X4.here hx rfl (hb hby at_91) rfl rfl ?_
    exact kZ
  obtain ⟨cq7, kq7, q7a, q7b, q7c⟩ := isOf hZ rfl f4_0
  obtain ⟨_, _, ⟨T7, L7, k7, n7⟩, -, X7, ⟨Lc7, hQ7, l7, y7, z7⟩, st7⟩ := X4.virtualBack hx (y := y10) (z := y10) hown (wz hZ hw 57 rfl) (wz hZ hw 58 rfl) (notFace_of_selects (args := #[]) (wz hZ hw 60 rfl)) (wz hZ hw 60 rfl) (wz hZ hw 59 rfl) (by decide) (backOf (W := 0) (rm10n4C l Z a0 hw [] b1 nA bA fF cs sv 2 T4.heap n0 Z4 f4_0 f4_2 c6_4 c6_5 c6_6 c6_7 c6_1 c6_2 hcs hsv (by decide) (by decide) (by decide) (by decide) (by decide) (by decide) (by decide) (by decide) (by decide) (by decide) (by decide) (by decide) (by decide) hfit (own_l4_3 _ _ _ _ (by rw [hf0]; exact own_ndot hx0 hd0) (by rw [hf1]; exact own_ndot hx1 hd1) (by rw [hf2]; exact own_dot hd2)) (by decide)) hZ (wq hw 61 rfl) (wq hw 33 rfl) (by decide) (by decide)) q7a q7c (g := (mkF m 93 (LQ pF 4 x0 x1 x2 x3 nA pk [sR b1, .unset, .unset]) [(.ref b1)])) rfl (by rw [hml]; rfl) (Steps.refl _) (argsL := []) (rest := []) (lenOf pd_8 rfl) rfl (leW rfl) (hb hby at_93) (fun _ _ => ⟨rfl, rfl, (by decide : 5 + 1 + 0 + 2 ≤ _), (by decide : 80 + 3 + 0 + 8 ≤ _)⟩)
  dsimp only [Pt.U, Pt.locs, Pt.cells, Pt.slots] at X7 l7 y7 z7 st7 hQ7
  subst l7 y7 z7
  obtain ⟨b7_0, b7_1, rfl, N7q, Kq7, hz_b7_0, hz_b7_1, f7_0, f7_1, f7_2, f7_3, f7_4, f7_5, f7_6, f7_7, f7_8, f7_9, f7_10, f7_11⟩ := hQ7
  have Ac8 := CHr.keep Kq7 all0 Ac5.1
  have Sf8_0 := Ac8.safe f4_0.lt Sf5_0
  have CR8c := CHr.trans CR5c Ac8
  have c9_0 := c6_0.keep Kq7 all0
  have c9_3 := S_EM.ext c9_0.2
  have c9_10 := f4_1.keep Kq7 nin0
  have c9_12 := f4_3.keep Kq7 nin0
  have K7 : Keep h0 T7.heap [] := K4.trans Kq7 all0
  have Z7 := Nat.le_trans Z4 Kq7.1
  have hk7 := Nat.le_trans hk4 Kq7.1
  have N7 := Fr.app N4 N7q
  refine Go.via (fun t k => st7.trans k) ?_
  refine Vi (T7.setTop (mkF m 167 (LQ pF 4 x0 x1 x2 x3 nA pk [sR b1, sR b7_0, sI 2]) [(.ref b7_0)])) (fun tZ kZ => ?_) ?_
  · refine XS.astore X7.here hx rfl (hb hby at_96) rfl rfl (l' := (LQ pF 4 x0 x1 x2 x3 nA pk [sR b1, sR b7_0, .unset])) rfl ?_
    refine XS.iload X7.here hx rfl (hb hby at_98) rfl ?_
    refine XS.istore X7.here hx rfl (hb hby at_100) rfl (l' := (LQ pF 4 x0 x1 x2 x3 nA pk [sR b1, sR b7_0, sI 4])) rfl ?_
    refine XS.iload X7.here hx rfl (hb hby at_102) rfl ?_
    refine XS.iconst X7.here hx rfl (hb hby at_104) ?_
    refine XS.icmpNo X7.here hx rfl (hb hby at_105) rfl (tlt (by decide)).2.2.2 ?_
    refine XS.iload X7.here hx rfl (hb hby at_108) rfl ?_
    refine XS.bipush X7.here hx rfl (hb hby at_110) ?_
    have sg112 : Steps p.tables e below (T7.setTop (mkF m 118 (LQ pF 4 x0 x1 x2 x3 nA pk [sR b1, sR b7_0, sI (if x3 = (46 : Int32) then (3 : Int32) else (4 : Int32))]) [])) tZ → Steps p.tables e below (T7.setTop (mkF m 112 (LQ pF 4 x0 x1 x2 x3 nA pk [sR b1, sR b7_0, sI 4]) [(.int 46), (.int x3)])) tZ := by
      intro kj
      by_cases hc112 : x3 = (46 : Int32)
      · try simp only [if_pos hc112] at kj
        refine XS.icmpNo X7.here hx rfl (hb hby at_112) rfl (teq hc112).2 ?_
        refine XS.iconst X7.here hx rfl (hb hby at_115) ?_
        refine XS.istore X7.here hx rfl (hb hby at_116) rfl (l' := (LQ pF 4 x0 x1 x2 x3 nA pk [sR b1, sR b7_0, sI 3])) rfl ?_
        exact kj
      · try simp only [if_neg hc112] at kj
        refine XS.icmpYes X7.here hx rfl (pc0 := 112) (pc' := 118) rfl (hb hby at_112) rfl (feq hc112).2 (by decide) (by decide) ?_
        exact kj
    refine sg112 ?_
    show Steps p.tables e below (T7.setTop (mkF m 118 (LQ pF 4 x0 x1 x2 x3 nA pk [sR b1, sR b7_0, sI (if x3 = (46 : Int32) then (3 : Int32) else (4 : Int32))]) [])) _
    refine XS.iload X7.here hx rfl (hb hby at_118) rfl ?_
    refine XS.iconst X7.here hx rfl (hb hby at_120) ?_
    refine XS.icmpNo X7.here hx rfl (hb hby at_121) rfl (tlt (by decide)).2.2.2 ?_
    refine XS.iload X7.here hx rfl (hb hby at_124) rfl ?_
    refine XS.bipush X7.here hx rfl (hb hby at_126) ?_
    refine XS.icmpNo X7.here hx rfl (hb hby at_128) rfl (teq hd2).2 ?_
    refine XS.iconst X7.here hx rfl (hb hby at_131) ?_
    refine XS.istore X7.here hx rfl (hb hby at_132) rfl (l' := (LQ pF 4 x0 x1 x2 x3 nA pk [sR b1, sR b7_0, sI 2])) rfl ?_
    refine XS.iload X7.here hx rfl (hb hby at_134) rfl ?_
    refine XS.iconst X7.here hx rfl (hb hby at_136) ?_
    refine XS.icmpNo X7.here hx rfl (hb hby at_137) rfl (tlt (by decide)).2.2.2 ?_
    refine XS.iload X7.here hx rfl (hb hby at_140) rfl ?_
    refine XS.bipush X7.here hx rfl (hb hby at_142) ?_
    refine XS.icmpYes X7.here hx rfl (pc0 := 144) (pc' := 150) rfl (hb hby at_144) rfl (feq hd1).2 (by decide) (by decide) ?_
    refine XS.iload X7.here hx rfl (hb hby at_150) rfl ?_
    refine XS.ifNo X7.here hx rfl (hb hby at_152) rfl ((if0 _ _).trans (tlt (by decide)).2.2.2) ?_
    refine XS.iload X7.here hx rfl (hb hby at_155) rfl ?_
    refine XS.bipush X7.here hx rfl (hb hby at_157) ?_
    refine XS.icmpYes X7.here hx rfl (pc0 := 159) (pc' := 165) rfl (hb hby at_159) rfl (feq hd0).2 (by decide) (by decide) ?_
    refine XS.aload X7.here hx rfl (hb hby at_165) rfl rfl ?_
    exact kZ
  obtain ⟨cq10, kq10, q10a, q10b, q10c⟩ := isOf hZ rfl f7_8
  obtain ⟨_, _, ⟨T10, L10, k10, n10⟩, -, X10, ⟨Lc10, hQ10, l10, y10, z10⟩, st10⟩ := X7.virtualBack hx (y := y14) (z := y14) hown (wz hZ hw 102 rfl) (wz hZ hw 79 rfl) (notFace_of_selects (args := #[]) (wz hZ hw 81 rfl)) (wz hZ hw 81 rfl) (wz hZ hw 80 rfl) (by decide) (backOf (W := 0) (rm14 l Z a0 hw [] b7_0 b7_1 2 (own_sh fF 0) cs T7.heap n0 Z7 f7_8 f7_10 f7_9 f7_11 f7_6 hcs) hZ (wq hw 82 rfl) (wq hw 10 rfl) (by decide) (by decide)) q10a q10c (g := (mkF m 167 (LQ pF 4 x0 x1 x2 x3 nA pk [sR b1, sR b7_0, sI 2]) [(.ref b7_0)])) rfl (by rw [hml]; rfl) (Steps.refl _) (argsL := []) (rest := []) (lenOf pd_12 rfl) rfl (leW rfl) (hb hby at_167) (fun _ _ => ⟨rfl, rfl, (by decide : 5 + 1 + 0 + 2 + 0 ≤ _), (by decide : 80 + 3 + 0 + 8 + 0 ≤ _)⟩)
  dsimp only [Pt.U, Pt.locs, Pt.cells, Pt.slots] at X10 l10 y10 z10 st10 hQ10
  subst l10 y10 z10
  obtain ⟨rfl, N10q, e10⟩ := hQ10
  have hv10 : (f14 b7_0 b7_1 2 (own_sh fF 0) cs) = (Int32.ofNat 2) := by unfold f14; exact own_sh0 _
  rw [hv10] at st10
  have N10 := Fr.app N7 N10q
  refine Go.via (fun t k => st10.trans k) ?_
  refine Vi (T10.setTop (mkF m 185 (LQ pF 4 x0 x1 x2 x3 nA pk [sR b1, sR b7_0, sI 2]) [(.int 0), (.ref b7_0)])) (fun tZ kZ => ?_) ?_
  · refine XS.iload X10.here hx rfl (hb hby at_170) rfl ?_
    refine XS.icmpYes X10.here hx rfl (pc0 := 172) (pc' := 177) rfl (hb hby at_172) rfl (teq (by decide)).1 (by decide) (by decide) ?_
    refine XS.iload X10.here hx rfl (hb hby at_177) rfl ?_
    refine XS.ifNo X10.here hx rfl (hb hby at_179) rfl ((if0 _ _).trans (tlt (by decide)).2.2.2) ?_
    refine XS.aload X10.here hx rfl (hb hby at_182) rfl rfl ?_
    refine XS.iconst X10.here hx rfl (hb hby at_184) ?_
    exact kZ
  obtain ⟨cq11, kq11, q11a, q11b, q11c⟩ := isOf hZ e10 f7_8
  obtain ⟨_, _, ⟨T11, L11, k11, n11⟩, -, X11, ⟨Lc11, hQ11, l11, y11, z11⟩, st11⟩ := X10.virtualBack hx (y := y32) (z := y32) hown (wz hZ hw 151 rfl) (wz hZ hw 152 rfl) (notFace_of_selects (args := #[]) (wz hZ hw 154 rfl)) (wz hZ hw 154 rfl) (wz hZ hw 153 rfl) (by decide) (backOf (W := 0) (rm32 l Z a0 hw [] b7_0 (0 : Int32) b7_1 2 (own_sh fF 0) cs sv T7.heap n0 Z7 f7_8 f7_10 f7_9 f7_11 f7_6 f7_7 hcs (by decide) (by decide) (by decide) hsv) hZ (wq hw 155 rfl) (wq hw 10 rfl) (by decide) (by decide)) q11a q11c (g := (mkF m 185 (LQ pF 4 x0 x1 x2 x3 nA pk [sR b1, sR b7_0, sI 2]) [(.int 0), (.ref b7_0)])) rfl (by rw [hml]; rfl) (Steps.refl _) (argsL := [(.int 0)]) (rest := []) (lenOf pd_27 rfl) rfl (leW rfl) (hb hby at_185) (fun _ _ => ⟨rfl, e10, (by decide : 5 + 1 + 0 + 2 + 0 + 0 ≤ _), (by decide : 80 + 3 + 0 + 8 + 0 + 0 ≤ _)⟩)
  dsimp only [Pt.U, Pt.locs, Pt.cells, Pt.slots] at X11 l11 y11 z11 st11 hQ11
  subst l11 y11 z11
  obtain ⟨rfl, N11q, e11⟩ := hQ11
  have N11 := Fr.app N10 N11q
  refine Go.via (fun t k => st11.trans k) ?_
  refine Vi (T11.setTop (mkF m 204 (LQ pF 4 x0 x1 x2 x3 nA pk [sR b1, sR b7_0, sI 2]) [(.int 1), (.ref b7_0)])) (fun tZ kZ => ?_) ?_
  · refine XS.iload X11.here hx rfl (hb hby at_188) rfl ?_
    refine XS.icmpYes X11.here hx rfl (pc0 := 190) (pc' := 195) rfl (hb hby at_190) rfl (teq (own_rt2 hx0 hf0)).1 (by decide) (by decide) ?_
    refine XS.iload X11.here hx rfl (hb hby at_195) rfl ?_
    refine XS.iconst X11.here hx rfl (hb hby at_197) ?_
    refine XS.icmpNo X11.here hx rfl (hb hby at_198) rfl (tlt (by decide)).2.2.2 ?_
    refine XS.aload X11.here hx rfl (hb hby at_201) rfl rfl ?_
    refine XS.iconst X11.here hx rfl (hb hby at_203) ?_
    exact kZ
  obtain ⟨cq12, kq12, q12a, q12b, q12c⟩ := isOf hZ e11 f7_8
  obtain ⟨_, _, ⟨T12, L12, k12, n12⟩, -, X12, ⟨Lc12, hQ12, l12, y12, z12⟩, st12⟩ := X11.virtualBack hx (y := y32) (z := y32) hown (wz hZ hw 151 rfl) (wz hZ hw 152 rfl) (notFace_of_selects (args := #[]) (wz hZ hw 154 rfl)) (wz hZ hw 154 rfl) (wz hZ hw 153 rfl) (by decide) (backOf (W := 0) (rm32 l Z a0 hw [] b7_0 (1 : Int32) b7_1 2 (own_sh fF 0) cs sv T7.heap n0 Z7 f7_8 f7_10 f7_9 f7_11 f7_6 f7_7 hcs (by decide) (by decide) (by decide) hsv) hZ (wq hw 155 rfl) (wq hw 10 rfl) (by decide) (by decide)) q12a q12c (g := (mkF m 204 (LQ pF 4 x0 x1 x2 x3 nA pk [sR b1, sR b7_0, sI 2]) [(.int 1), (.ref b7_0)])) rfl (by rw [hml]; rfl) (Steps.refl _) (argsL := [(.int 1)]) (rest := []) (lenOf pd_27 rfl) rfl (leW rfl) (hb hby at_204) (fun _ _ => ⟨rfl, e11, (by decide : 5 + 1 + 0 + 2 + 0 + 0 + 0 ≤ _), (by decide : 80 + 3 + 0 + 8 + 0 + 0 + 0 ≤ _)⟩)
  dsimp only [Pt.U, Pt.locs, Pt.cells, Pt.slots] at X12 l12 y12 z12 st12 hQ12
  subst l12 y12 z12
  obtain ⟨rfl, N12q, e12⟩ := hQ12
  have N12 := Fr.app N11 N12q
  refine Go.via (fun t k => st12.trans k) ?_
  refine Vi (T12.setTop (mkF m 253 (LQ pF 4 x0 x1 x2 x3 nA pk [sR b1, sR b7_0, sI 2]) [(.int 1)])) (fun tZ kZ => ?_) ?_
  · refine XS.iload X12.here hx rfl (hb hby at_207) rfl ?_
    refine XS.icmpYes X12.here hx rfl (pc0 := 209) (pc' := 214) rfl (hb hby at_209) rfl (teq (own_rt2 hx1 hf1)).1 (by decide) (by decide) ?_
    refine XS.iload X12.here hx rfl (hb hby at_214) rfl ?_
    refine XS.iconst X12.here hx rfl (hb hby at_216) ?_
    refine XS.icmpYes X12.here hx rfl (pc0 := 217) (pc' := 233) rfl (hb hby at_217) rfl (flt (by decide)).2.2.2 (by decide) (by decide) ?_
    refine XS.iload X12.here hx rfl (hb hby at_233) rfl ?_
    refine XS.iconst X12.here hx rfl (hb hby at_235) ?_
    refine XS.icmpYes X12.here hx rfl (pc0 := 236) (pc' := 252) rfl (hb hby at_236) rfl (flt (by decide)).2.2.2 (by decide) (by decide) ?_
    refine XS.iconst X12.here hx rfl (hb hby at_252) ?_
    exact kZ
  refine Go.retNW (s := s) (vm₁ := vmT) X12 hx hST (by rw [e12]; exact hk7) hlk (t := .boolean) hret (by simp) (hb hby at_253) (by decide) (by decide) ?_
  exact ⟨rfl, N12⟩
theorem tail_4_4 (l : Launch) (Z : State) (a0 : Array Value) (hw : HW a0 Z) {p : Program} {e : Env} {s : State} {m : MethodId} {args : Array Value} {below : List Frame} {meth : Method} {c : Code} {T0 : State} {locs0 : List Loc} {vmT : Vm} {h0 : Heap} {n0 kT : Nat} {x0 x1 x2 x3 cs : Int32} {sv : Value} {em : Addr} (hC : Com l Z a0 p e s m args below meth c T0 locs0 vmT 5 80 h0 n0 kT x0 x1 x2 x3 cs sv em) (pF : Nat → Int32) (nA bA pk : Addr) (fF : Nat → Int32) (hfit : ∀ k, k < 4 → fits .byte (.int (fF k)) = true) (hf0 : fF (0 : Int32).toNatClampNeg = nar .byte ((nar .char x0).toInt8.toInt32)) (hf1 : fF (1 : Int32).toNatClampNeg = nar .byte ((nar .char x1).toInt8.toInt32)) (hf2 : fF (2 : Int32).toNatClampNeg = nar .byte ((nar .char x2).toInt8.toInt32)) (hf3 : fF (3 : Int32).toNatClampNeg = nar .byte ((nar .char x3).toInt8.toInt32)) (E_n : Exa Z h0 nA "java/lang/String") (F_c : Fld Z h0 nA "java/lang/String" "coder" "B" (.int 0)) (F_v : Fld Z h0 nA "java/lang/String" "value" "[B" (.ref bA)) (V_b : AV Z h0 bA .byte 4 (fun k => .int (fF k))) (hd0 : ¬ x0 = 46) (hd1 : ¬ x1 = 46) (hd2 : ¬ x2 = 46) (hd3 : x3 = 46) :
    Go p e below (fun o u => ∃ v L, o = .returned v ∧ Q0 n0 v u.heap L ∧ ReturnedEndW s o u L 32 4224) (T0.setTop (mkF m 78 (LQ pF 4 x0 x1 x2 x3 nA pk [.unset, .unset, .unset]) [])) := by
  obtain ⟨X0, hx, hby, hml, hlk, hret, hZ, hown, wS, Z0, e0, N0, hST, hkT, hCH, hx0, hx1, hx2, hx3, hcs, hsv, S_CS, S_SV, S_EM, hold⟩ := hC
  obtain ⟨T1, h1, X1, e1, E1, A1, D1, -, st1⟩ := newO X0 hx hZ hown (wq hw 31 rfl) (wq hw 32 rfl) (wq hw 33 rfl) e0 (g := (mkF m 78 (LQ pF 4 x0 x1 x2 x3 nA pk [.unset, .unset, .unset]) [])) rfl (hb hby at_78) (by decide) (by decide)
  obtain ⟨b1, g1⟩ : ∃ z, z = h0.size := ⟨_, rfl⟩
  rw [← g1] at A1 D1 st1
  have g_b1 : n0 ≤ b1 := Nat.le_trans Z0 (Nat.le_of_eq g1.symm)
  have sz_b1 : h0.size ≤ b1 := Nat.le_trans ((Keep.refl h0 [])).1 (Nat.le_of_eq g1.symm)
  have ne_nA_b1 : nA ≠ b1 := Nat.ne_of_lt (Nat.lt_of_lt_of_le E_n.lt (Nat.le_of_eq g1.symm))
  have ne_bA_b1 : bA ≠ b1 := Nat.ne_of_lt (Nat.lt_of_lt_of_le V_b.lt (Nat.le_of_eq g1.symm))
  have Ac2 := CHr.ext E1 hCH
  have CR2c := CHr.trans (CHr.refl hCH) Ac2
  have c3_0 := hold.ext E1
  have c3_1 := S_CS.ext c3_0.2
  have c3_2 := S_SV.ext c3_0.2
  have c3_3 := S_EM.ext c3_0.2
  have c3_4 := E_n.ext E1
  have c3_5 := F_c.ext E1
  have c3_6 := F_v.ext E1
  have c3_7 := V_b.ext E1
  have K1 : Keep h0 h1 [] := (Keep.refl h0 []).ext E1
  have Z1 := Nat.le_trans Z0 E1.1
  have hk1 := Nat.le_trans hkT E1.1
  have Sf_b1 := Safe.ext E1 hCH (Safe.new (Nat.le_of_eq g1.symm))
  have F1_packageName : Fld Z h1 b1 "com/example/bindery/bindery/compiler/JavaType" "packageName" "Ljava/lang/String;" .null := D1 (Or.inr (wq hw 52 rfl)) (ty := (.object "java/lang/String")) (by decide)
  have F1_name : Fld Z h1 b1 "com/example/bindery/bindery/compiler/JavaType" "name" "Ljava/lang/String;" .null := D1 (Or.inr (wq hw 54 rfl)) (ty := (.object "java/lang/String")) (by decide)
  have F1_argument : Fld Z h1 b1 "com/example/bindery/bindery/compiler/JavaType" "argument" "Ljava/util/Optional;" .null := D1 (Or.inr (wq hw 56 rfl)) (ty := (.object "java/util/Optional")) (by decide)
  refine Go.via st1 ?_
  refine Vi (T1.setTop (mkF m 86 (LQ pF 4 x0 x1 x2 x3 nA pk [.unset, .unset, .unset]) [(.ref nA), (.ref pk), (.ref b1), (.ref b1)])) (fun tZ kZ => ?_) ?_
  · refine XS.dup X1.here hx rfl (hb hby at_81) rfl rfl ?_
    refine XS.aload X1.here hx rfl (hb hby at_82) rfl rfl ?_
    refine XS.aload X1.here hx rfl (hb hby at_84) rfl rfl ?_
    exact kZ
  obtain ⟨_, _, ⟨T4, L4, k4, n4⟩, -, X4, ⟨Lc4, hQ4, l4, y4, z4⟩, st4⟩ := X1.specialBack hx (y := y6) rfl hown (wz hZ hw 34 rfl) (wz hZ hw 35 rfl) (wz hZ hw 36 rfl) (by decide) (backOf (W := 1) (rm6 l Z a0 hw [] b1 pk nA em h1 n0 Z1 A1 F1_packageName F1_name F1_argument g_b1 c3_3) hZ (wq hw 36 rfl) (wq hw 33 rfl) (by decide) (by decide)) (g := (mkF m 86 (LQ pF 4 x0 x1 x2 x3 nA pk [.unset, .unset, .unset]) [(.ref nA), (.ref pk), (.ref b1), (.ref b1)])) rfl (by rw [hml]; rfl) (Steps.refl _) (a := b1) (argsL := [(.ref pk), (.ref nA)]) (rest := [(.ref b1)]) (lenOf pd_5 rfl) rfl (leW rfl) (hb hby at_86) (fun _ _ => ⟨rfl, e1, (by decide : 5 + 1 + 0 ≤ _), (by decide : 80 + 3 + 0 ≤ _)⟩)
  dsimp only [Pt.U, Pt.locs, Pt.cells, Pt.slots] at X4 l4 y4 z4 st4 hQ4
  subst l4 y4 z4
  obtain ⟨rfl, N4q, Kq4, f4_0, f4_1, f4_2, f4_3, f4_4⟩ := hQ4
  have Ac5 := CHr.keep Kq4 (allS Sf_b1 all0) Ac2.1
  have Sf5_0 := Ac5.safe A1.lt Sf_b1
  have CR5c := CHr.trans CR2c Ac5
  have c6_0 := c3_0.keep Kq4 (allS g_b1 all0)
  have c6_1 := S_CS.ext c6_0.2
  have c6_2 := S_SV.ext c6_0.2
  have c6_4 := c3_4.keep Kq4
  have c6_5 := c3_5.keep Kq4 (ninS ne_nA_b1 nin0)
  have c6_6 := c3_6.keep Kq4 (ninS ne_nA_b1 nin0)
  have c6_7 := c3_7.keep Kq4 (ninS ne_bA_b1 nin0)
  have K4 : Keep h0 T4.heap [] := K1.trans Kq4 (allS (Or.inr sz_b1) all0)
  have Z4 := Nat.le_trans Z1 Kq4.1
  have hk4 := Nat.le_trans hk1 Kq4.1
  have N4 := Fr.app N0 N4q
  refine Go.via (fun t k => st4.trans k) ?_
  refine Vi (T4.setTop (mkF m 93 (LQ pF 4 x0 x1 x2 x3 nA pk [sR b1, .unset, .unset]) [(.ref b1)])) (fun tZ kZ => ?_) ?_
  · refine XS.astore X4.here hx rfl (hb hby at_89) rfl rfl (l' := (LQ pF 4 x0 x1 x2 x3 nA pk [sR b1, .unset, .unset])) rfl ?_
    refine XS.aload X4.here hx rfl (hb hby at_91) rfl rfl ?_
    exact kZ
  obtain ⟨cq7, kq7, q7a, q7b, q7c⟩ := isOf hZ rfl f4_0
  obtain ⟨_, _, ⟨T7, L7, k7, n7⟩, -, X7, ⟨Lc7, hQ7, l7, y7, z7⟩, st7⟩ := X4.virtualBack hx (y := y10) (z := y10) hown (wz hZ hw 57 rfl) (wz hZ hw 58 rfl) (notFace_of_selects (args := #[]) (wz hZ hw 60 rfl)) (wz hZ hw 60 rfl) (wz hZ hw 59 rfl) (by decide) (backOf (W := 0) (rm10n4C l Z a0 hw [] b1 nA bA fF cs sv 3 T4.heap n0 Z4 f4_0 f4_2 c6_4 c6_5 c6_6 c6_7 c6_1 c6_2 hcs hsv (by decide) (by decide) (by decide) (by decide) (by decide) (by decide) (by decide) (by decide) (by decide) (by decide) (by decide) (by decide) (by decide) hfit (own_l4_4 _ _ _ _ (by rw [hf0]; exact own_ndot hx0 hd0) (by rw [hf1]; exact own_ndot hx1 hd1) (by rw [hf2]; exact own_ndot hx2 hd2) (by rw [hf3]; exact own_dot hd3)) (by decide)) hZ (wq hw 61 rfl) (wq hw 33 rfl) (by decide) (by decide)) q7a q7c (g := (mkF m 93 (LQ pF 4 x0 x1 x2 x3 nA pk [sR b1, .unset, .unset]) [(.ref b1)])) rfl (by rw [hml]; rfl) (Steps.refl _) (argsL := []) (rest := []) (lenOf pd_8 rfl) rfl (leW rfl) (hb hby at_93) (fun _ _ => ⟨rfl, rfl, (by decide : 5 + 1 + 0 + 2 ≤ _), (by decide : 80 + 3 + 0 + 8 ≤ _)⟩)
  dsimp only [Pt.U, Pt.locs, Pt.cells, Pt.slots] at X7 l7 y7 z7 st7 hQ7
  subst l7 y7 z7
  obtain ⟨b7_0, b7_1, rfl, N7q, Kq7, hz_b7_0, hz_b7_1, f7_0, f7_1, f7_2, f7_3, f7_4, f7_5, f7_6, f7_7, f7_8, f7_9, f7_10, f7_11⟩ := hQ7
  have Ac8 := CHr.keep Kq7 all0 Ac5.1
  have Sf8_0 := Ac8.safe f4_0.lt Sf5_0
  have CR8c := CHr.trans CR5c Ac8
  have c9_0 := c6_0.keep Kq7 all0
  have c9_3 := S_EM.ext c9_0.2
  have c9_10 := f4_1.keep Kq7 nin0
  have c9_12 := f4_3.keep Kq7 nin0
  have K7 : Keep h0 T7.heap [] := K4.trans Kq7 all0
  have Z7 := Nat.le_trans Z4 Kq7.1
  have hk7 := Nat.le_trans hk4 Kq7.1
  have N7 := Fr.app N4 N7q
  refine Go.via (fun t k => st7.trans k) ?_
  refine Vi (T7.setTop (mkF m 167 (LQ pF 4 x0 x1 x2 x3 nA pk [sR b1, sR b7_0, sI 3]) [(.ref b7_0)])) (fun tZ kZ => ?_) ?_
  · refine XS.astore X7.here hx rfl (hb hby at_96) rfl rfl (l' := (LQ pF 4 x0 x1 x2 x3 nA pk [sR b1, sR b7_0, .unset])) rfl ?_
    refine XS.iload X7.here hx rfl (hb hby at_98) rfl ?_
    refine XS.istore X7.here hx rfl (hb hby at_100) rfl (l' := (LQ pF 4 x0 x1 x2 x3 nA pk [sR b1, sR b7_0, sI 4])) rfl ?_
    refine XS.iload X7.here hx rfl (hb hby at_102) rfl ?_
    refine XS.iconst X7.here hx rfl (hb hby at_104) ?_
    refine XS.icmpNo X7.here hx rfl (hb hby at_105) rfl (tlt (by decide)).2.2.2 ?_
    refine XS.iload X7.here hx rfl (hb hby at_108) rfl ?_
    refine XS.bipush X7.here hx rfl (hb hby at_110) ?_
    refine XS.icmpNo X7.here hx rfl (hb hby at_112) rfl (teq hd3).2 ?_
    refine XS.iconst X7.here hx rfl (hb hby at_115) ?_
    refine XS.istore X7.here hx rfl (hb hby at_116) rfl (l' := (LQ pF 4 x0 x1 x2 x3 nA pk [sR b1, sR b7_0, sI 3])) rfl ?_
    refine XS.iload X7.here hx rfl (hb hby at_118) rfl ?_
    refine XS.iconst X7.here hx rfl (hb hby at_120) ?_
    refine XS.icmpNo X7.here hx rfl (hb hby at_121) rfl (tlt (by decide)).2.2.2 ?_
    refine XS.iload X7.here hx rfl (hb hby at_124) rfl ?_
    refine XS.bipush X7.here hx rfl (hb hby at_126) ?_
    refine XS.icmpYes X7.here hx rfl (pc0 := 128) (pc' := 134) rfl (hb hby at_128) rfl (feq hd2).2 (by decide) (by decide) ?_
    refine XS.iload X7.here hx rfl (hb hby at_134) rfl ?_
    refine XS.iconst X7.here hx rfl (hb hby at_136) ?_
    refine XS.icmpNo X7.here hx rfl (hb hby at_137) rfl (tlt (by decide)).2.2.2 ?_
    refine XS.iload X7.here hx rfl (hb hby at_140) rfl ?_
    refine XS.bipush X7.here hx rfl (hb hby at_142) ?_
    refine XS.icmpYes X7.here hx rfl (pc0 := 144) (pc' := 150) rfl (hb hby at_144) rfl (feq hd1).2 (by decide) (by decide) ?_
    refine XS.iload X7.here hx rfl (hb hby at_150) rfl ?_
    refine XS.ifNo X7.here hx rfl (hb hby at_152) rfl ((if0 _ _).trans (tlt (by decide)).2.2.2) ?_
    refine XS.iload X7.here hx rfl (hb hby at_155) rfl ?_
    refine XS.bipush X7.here hx rfl (hb hby at_157) ?_
    refine XS.icmpYes X7.here hx rfl (pc0 := 159) (pc' := 165) rfl (hb hby at_159) rfl (feq hd0).2 (by decide) (by decide) ?_
    refine XS.aload X7.here hx rfl (hb hby at_165) rfl rfl ?_
    exact kZ
  obtain ⟨cq10, kq10, q10a, q10b, q10c⟩ := isOf hZ rfl f7_8
  obtain ⟨_, _, ⟨T10, L10, k10, n10⟩, -, X10, ⟨Lc10, hQ10, l10, y10, z10⟩, st10⟩ := X7.virtualBack hx (y := y14) (z := y14) hown (wz hZ hw 102 rfl) (wz hZ hw 79 rfl) (notFace_of_selects (args := #[]) (wz hZ hw 81 rfl)) (wz hZ hw 81 rfl) (wz hZ hw 80 rfl) (by decide) (backOf (W := 0) (rm14 l Z a0 hw [] b7_0 b7_1 3 (own_sh fF 0) cs T7.heap n0 Z7 f7_8 f7_10 f7_9 f7_11 f7_6 hcs) hZ (wq hw 82 rfl) (wq hw 10 rfl) (by decide) (by decide)) q10a q10c (g := (mkF m 167 (LQ pF 4 x0 x1 x2 x3 nA pk [sR b1, sR b7_0, sI 3]) [(.ref b7_0)])) rfl (by rw [hml]; rfl) (Steps.refl _) (argsL := []) (rest := []) (lenOf pd_12 rfl) rfl (leW rfl) (hb hby at_167) (fun _ _ => ⟨rfl, rfl, (by decide : 5 + 1 + 0 + 2 + 0 ≤ _), (by decide : 80 + 3 + 0 + 8 + 0 ≤ _)⟩)
  dsimp only [Pt.U, Pt.locs, Pt.cells, Pt.slots] at X10 l10 y10 z10 st10 hQ10
  subst l10 y10 z10
  obtain ⟨rfl, N10q, e10⟩ := hQ10
  have hv10 : (f14 b7_0 b7_1 3 (own_sh fF 0) cs) = (Int32.ofNat 3) := by unfold f14; exact own_sh0 _
  rw [hv10] at st10
  have N10 := Fr.app N7 N10q
  refine Go.via (fun t k => st10.trans k) ?_
  refine Vi (T10.setTop (mkF m 185 (LQ pF 4 x0 x1 x2 x3 nA pk [sR b1, sR b7_0, sI 3]) [(.int 0), (.ref b7_0)])) (fun tZ kZ => ?_) ?_
  · refine XS.iload X10.here hx rfl (hb hby at_170) rfl ?_
    refine XS.icmpYes X10.here hx rfl (pc0 := 172) (pc' := 177) rfl (hb hby at_172) rfl (teq (by decide)).1 (by decide) (by decide) ?_
    refine XS.iload X10.here hx rfl (hb hby at_177) rfl ?_
    refine XS.ifNo X10.here hx rfl (hb hby at_179) rfl ((if0 _ _).trans (tlt (by decide)).2.2.2) ?_
    refine XS.aload X10.here hx rfl (hb hby at_182) rfl rfl ?_
    refine XS.iconst X10.here hx rfl (hb hby at_184) ?_
    exact kZ
  obtain ⟨cq11, kq11, q11a, q11b, q11c⟩ := isOf hZ e10 f7_8
  obtain ⟨_, _, ⟨T11, L11, k11, n11⟩, -, X11, ⟨Lc11, hQ11, l11, y11, z11⟩, st11⟩ := X10.virtualBack hx (y := y32) (z := y32) hown (wz hZ hw 151 rfl) (wz hZ hw 152 rfl) (notFace_of_selects (args := #[]) (wz hZ hw 154 rfl)) (wz hZ hw 154 rfl) (wz hZ hw 153 rfl) (by decide) (backOf (W := 0) (rm32 l Z a0 hw [] b7_0 (0 : Int32) b7_1 3 (own_sh fF 0) cs sv T7.heap n0 Z7 f7_8 f7_10 f7_9 f7_11 f7_6 f7_7 hcs (by decide) (by decide) (by decide) hsv) hZ (wq hw 155 rfl) (wq hw 10 rfl) (by decide) (by decide)) q11a q11c (g := (mkF m 185 (LQ pF 4 x0 x1 x2 x3 nA pk [sR b1, sR b7_0, sI 3]) [(.int 0), (.ref b7_0)])) rfl (by rw [hml]; rfl) (Steps.refl _) (argsL := [(.int 0)]) (rest := []) (lenOf pd_27 rfl) rfl (leW rfl) (hb hby at_185) (fun _ _ => ⟨rfl, e10, (by decide : 5 + 1 + 0 + 2 + 0 + 0 ≤ _), (by decide : 80 + 3 + 0 + 8 + 0 + 0 ≤ _)⟩)
  dsimp only [Pt.U, Pt.locs, Pt.cells, Pt.slots] at X11 l11 y11 z11 st11 hQ11
  subst l11 y11 z11
  obtain ⟨rfl, N11q, e11⟩ := hQ11
  have N11 := Fr.app N10 N11q
  refine Go.via (fun t k => st11.trans k) ?_
  refine Vi (T11.setTop (mkF m 204 (LQ pF 4 x0 x1 x2 x3 nA pk [sR b1, sR b7_0, sI 3]) [(.int 1), (.ref b7_0)])) (fun tZ kZ => ?_) ?_
  · refine XS.iload X11.here hx rfl (hb hby at_188) rfl ?_
    refine XS.icmpYes X11.here hx rfl (pc0 := 190) (pc' := 195) rfl (hb hby at_190) rfl (teq (own_rt2 hx0 hf0)).1 (by decide) (by decide) ?_
    refine XS.iload X11.here hx rfl (hb hby at_195) rfl ?_
    refine XS.iconst X11.here hx rfl (hb hby at_197) ?_
    refine XS.icmpNo X11.here hx rfl (hb hby at_198) rfl (tlt (by decide)).2.2.2 ?_
    refine XS.aload X11.here hx rfl (hb hby at_201) rfl rfl ?_
    refine XS.iconst X11.here hx rfl (hb hby at_203) ?_
    exact kZ
  obtain ⟨cq12, kq12, q12a, q12b, q12c⟩ := isOf hZ e11 f7_8
  obtain ⟨_, _, ⟨T12, L12, k12, n12⟩, -, X12, ⟨Lc12, hQ12, l12, y12, z12⟩, st12⟩ := X11.virtualBack hx (y := y32) (z := y32) hown (wz hZ hw 151 rfl) (wz hZ hw 152 rfl) (notFace_of_selects (args := #[]) (wz hZ hw 154 rfl)) (wz hZ hw 154 rfl) (wz hZ hw 153 rfl) (by decide) (backOf (W := 0) (rm32 l Z a0 hw [] b7_0 (1 : Int32) b7_1 3 (own_sh fF 0) cs sv T7.heap n0 Z7 f7_8 f7_10 f7_9 f7_11 f7_6 f7_7 hcs (by decide) (by decide) (by decide) hsv) hZ (wq hw 155 rfl) (wq hw 10 rfl) (by decide) (by decide)) q12a q12c (g := (mkF m 204 (LQ pF 4 x0 x1 x2 x3 nA pk [sR b1, sR b7_0, sI 3]) [(.int 1), (.ref b7_0)])) rfl (by rw [hml]; rfl) (Steps.refl _) (argsL := [(.int 1)]) (rest := []) (lenOf pd_27 rfl) rfl (leW rfl) (hb hby at_204) (fun _ _ => ⟨rfl, e11, (by decide : 5 + 1 + 0 + 2 + 0 + 0 + 0 ≤ _), (by decide : 80 + 3 + 0 + 8 + 0 + 0 + 0 ≤ _)⟩)
  dsimp only [Pt.U, Pt.locs, Pt.cells, Pt.slots] at X12 l12 y12 z12 st12 hQ12
  subst l12 y12 z12
  obtain ⟨rfl, N12q, e12⟩ := hQ12
  have N12 := Fr.app N11 N12q
  refine Go.via (fun t k => st12.trans k) ?_
  refine Vi (T12.setTop (mkF m 223 (LQ pF 4 x0 x1 x2 x3 nA pk [sR b1, sR b7_0, sI 3]) [(.int 2), (.ref b7_0)])) (fun tZ kZ => ?_) ?_
  · refine XS.iload X12.here hx rfl (hb hby at_207) rfl ?_
    refine XS.icmpYes X12.here hx rfl (pc0 := 209) (pc' := 214) rfl (hb hby at_209) rfl (teq (own_rt2 hx1 hf1)).1 (by decide) (by decide) ?_
    refine XS.iload X12.here hx rfl (hb hby at_214) rfl ?_
    refine XS.iconst X12.here hx rfl (hb hby at_216) ?_
    refine XS.icmpNo X12.here hx rfl (hb hby at_217) rfl (tlt (by decide)).2.2.2 ?_
    refine XS.aload X12.here hx rfl (hb hby at_220) rfl rfl ?_
    refine XS.iconst X12.here hx rfl (hb hby at_222) ?_
    exact kZ
  obtain ⟨cq13, kq13, q13a, q13b, q13c⟩ := isOf hZ e12 f7_8
  obtain ⟨_, _, ⟨T13, L13, k13, n13⟩, -, X13, ⟨Lc13, hQ13, l13, y13, z13⟩, st13⟩ := X12.virtualBack hx (y := y32) (z := y32) hown (wz hZ hw 151 rfl) (wz hZ hw 152 rfl) (notFace_of_selects (args := #[]) (wz hZ hw 154 rfl)) (wz hZ hw 154 rfl) (wz hZ hw 153 rfl) (by decide) (backOf (W := 0) (rm32 l Z a0 hw [] b7_0 (2 : Int32) b7_1 3 (own_sh fF 0) cs sv T7.heap n0 Z7 f7_8 f7_10 f7_9 f7_11 f7_6 f7_7 hcs (by decide) (by decide) (by decide) hsv) hZ (wq hw 155 rfl) (wq hw 10 rfl) (by decide) (by decide)) q13a q13c (g := (mkF m 223 (LQ pF 4 x0 x1 x2 x3 nA pk [sR b1, sR b7_0, sI 3]) [(.int 2), (.ref b7_0)])) rfl (by rw [hml]; rfl) (Steps.refl _) (argsL := [(.int 2)]) (rest := []) (lenOf pd_27 rfl) rfl (leW rfl) (hb hby at_223) (fun _ _ => ⟨rfl, e12, (by decide : 5 + 1 + 0 + 2 + 0 + 0 + 0 + 0 ≤ _), (by decide : 80 + 3 + 0 + 8 + 0 + 0 + 0 + 0 ≤ _)⟩)
  dsimp only [Pt.U, Pt.locs, Pt.cells, Pt.slots] at X13 l13 y13 z13 st13 hQ13
  subst l13 y13 z13
  obtain ⟨rfl, N13q, e13⟩ := hQ13
  have N13 := Fr.app N12 N13q
  refine Go.via (fun t k => st13.trans k) ?_
  refine Vi (T13.setTop (mkF m 253 (LQ pF 4 x0 x1 x2 x3 nA pk [sR b1, sR b7_0, sI 3]) [(.int 1)])) (fun tZ kZ => ?_) ?_
  · refine XS.iload X13.here hx rfl (hb hby at_226) rfl ?_
    refine XS.icmpYes X13.here hx rfl (pc0 := 228) (pc' := 233) rfl (hb hby at_228) rfl (teq (own_rt2 hx2 hf2)).1 (by decide) (by decide) ?_
    refine XS.iload X13.here hx rfl (hb hby at_233) rfl ?_
    refine XS.iconst X13.here hx rfl (hb hby at_235) ?_
    refine XS.icmpYes X13.here hx rfl (pc0 := 236) (pc' := 252) rfl (hb hby at_236) rfl (flt (by decide)).2.2.2 (by decide) (by decide) ?_
    refine XS.iconst X13.here hx rfl (hb hby at_252) ?_
    exact kZ
  refine Go.retNW (s := s) (vm₁ := vmT) X13 hx hST (by rw [e13]; exact hk7) hlk (t := .boolean) hret (by simp) (hb hby at_253) (by decide) (by decide) ?_
  exact ⟨rfl, N13⟩
theorem pd_0 : parseMethodDescriptor "(III)C" = some ⟨[.int, .int, .int], some .char⟩ := by decide +kernel
theorem pd_1 : parseMethodDescriptor "(ICCCC)Ljava/lang/String;" = some ⟨[.int, .char, .char, .char, .char], some (.object "java/lang/String")⟩ := by decide +kernel
theorem ef_0_aaaaaa (m : MethodId) (x0 : Int32) (x1 : Int32) (x2 : Int32) (x3 : Int32) (x4 : Int32) (x5 : Int32) : entryFrame m #[(.int x0), (.int x1), (.int x2), (.int x3), (.int x4), (.int x5)] maxLocals = mkF m 0 #[.val (.int x0), .val (.int x1), .val (.int x2), .val (.int x3), .val (.int x4), .val (.int x5), .unset, .unset, .unset, .unset, .unset, .unset, .unset, .unset, .unset, .unset] [] := by first | (simp [entryFrame, mkF, argsToLocals, Value.category, maxLocals]; done) | rfl
theorem rm0 (l : Launch) (Z : State) (a0 : Array Value) (hw : HW a0 Z) (ws : List Jvm.Cond) (p0 : Int32) (p1 : Int32) (p2 : Int32) (p3 : Int32) (p4 : Int32) (p5 : Int32) (cs : Int32) (sv : Value) (em : Addr) (h0 : Heap) (n0 : Nat) (Z0 : n0 ≤ h0.size) (ha0 : Sta Z Z.heap "java/lang/String" "COMPACT_STRINGS" "Z" (.int cs)) (ha1 : Sta Z Z.heap "jdk/internal/util/Preconditions" "SIOOBE_FORMATTER" "Ljava/util/function/BiFunction;" sv) (ha2 : Sta Z Z.heap "java/util/Optional" "EMPTY" "Ljava/util/Optional;" (.ref em)) (ha3 : Old Z n0 h0) (hcs : ¬ cs = 0) (hsv : sv.isRef = true) :
    MetFree l x (head1 (Jvm.Cond.code x code maxLocals ret :: ws) room_1) (fun a U => a = #[(.int p0), (.int p1), (.int p2), (.int p3), (.int p4), (.int p5)] ∧ Z.Warmed39 U.vm ∧ U.heap = h0 ∧ CHv Z own_EL U.vm h0) (fun _ _ _ _ _ => True) (fun _ U o U' => ∃ v L, o = .returned v ∧ Q0 n0 v U'.heap L ∧ ReturnedEndW U o U' L 32 4224) := by
  refine MetFree.of_bodySF (plainFor_of_name pn_6) hisR ?_
  intro p e s m args below meth c s₁ Bd hml0 hP hK
  obtain ⟨rfl, hZ, hh, hCH⟩ := hP
  have hx := Bd.exec
  have hby := Bd.bytes
  have hml : c.maxLocals = 16 := hml0
  have hown : s.vm.findClass "com/example/bindery/bindery/compiler/JavaTypeOuterNamePinLaw" = some m.cls := findClass_of_methodNamed Bd.named
  have X0 : Stand p l e room_1 s m #[(.int p0), (.int p1), (.int p2), (.int p3), (.int p4), (.int p5)] below meth c s₁ [] 0 0 := Stand.of_body Bd
  have e0 : s₁.heap = h0 := by rw [← hh, Bd.state]; rfl
  have N0 := Fr.nil n0
  refine Go.into (P := fun oo uu => ∃ v L, oo = .returned v ∧ Q0 n0 v uu.heap L ∧ ReturnedEndW s oo uu L 32 4224) (ef_0_aaaaaa m p0 p1 p2 p3 p4 p5) ?_
  show Go p e below _ (s₁.setTop (mkF m 0 #[sI p0, sI p1, sI p2, sI p3, sI p4, sI p5, .unset, .unset, .unset, .unset, .unset, .unset, .unset, .unset, .unset, .unset] []))
  have hS0 : s.Since s.vm 0 := (State.WarmedH.refl s).since 0
  have wS : ∀ a ∈ Bundle.stringAtoms, a.before a0 Z = true := by
    intro d hd
    simp only [Bundle.stringAtoms, List.mem_cons, List.not_mem_nil, or_false] at hd
    rcases hd with rfl | rfl | rfl | rfl | rfl | rfl | rfl
    · exact (wq hw 10 rfl)
    · exact (wq hw 9 rfl)
    · exact (wq hw 23 rfl)
    · exact (wq hw 24 rfl)
    · exact (wq hw 25 rfl)
    · exact (wq hw 26 rfl)
    · exact (wq hw 27 rfl)
  refine Vi (s₁.setTop (mkF m 13 #[sI p0, sI p1, sI p2, sI p3, sI p4, sI p5, sI ((p4 &&& (2147483647 : Int32)) % (5 : Int32)), .unset, .unset, .unset, .unset, .unset, .unset, .unset, .unset, .unset] [(.int 0), (.int p5), (.int p0)])) (fun tZ kZ => ?_) ?_
  · refine XS.iload X0.here hx rfl (hb hby at_0) rfl ?_
    refine X0.ldcInt hx hown (wz hZ hw 0 rfl) (g := (mkF m 2 #[sI p0, sI p1, sI p2, sI p3, sI p4, sI p5, .unset, .unset, .unset, .unset, .unset, .unset, .unset, .unset, .unset, .unset] [(.int p4)])) rfl (hb hby at_2) _ ?_
    refine XS.iand X0.here hx rfl (hb hby at_4) rfl ?_
    refine XS.iconst X0.here hx rfl (hb hby at_5) ?_
    refine iremM X0 hx rfl (hb hby at_6) rfl (by decide) ?_
    refine XS.istore X0.here hx rfl (hb hby at_7) rfl (l' := #[sI p0, sI p1, sI p2, sI p3, sI p4, sI p5, sI ((p4 &&& (2147483647 : Int32)) % (5 : Int32)), .unset, .unset, .unset, .unset, .unset, .unset, .unset, .unset, .unset]) rfl ?_
    refine XS.iloadN X0.here hx rfl (hb hby at_9) rfl ?_
    refine XS.iload X0.here hx rfl (hb hby at_10) rfl ?_
    refine XS.iconst X0.here hx rfl (hb hby at_12) ?_
    exact kZ
  obtain ⟨_, _, ⟨T1, L1, k1, n1⟩, -, X1, ⟨Lc1, hQ1, l1, y1, z1⟩, st1⟩ := Jvm.LawKit.callS X0 hx (y := y1) hown (wz hZ hw 1 rfl) (wz hZ hw 2 rfl) (wz hZ hw 3 rfl) (wz hZ hw 4 rfl) (by decide) (backOf (W := 0) (rm1 l Z a0 hw [] p0 p5 (0 : Int32) h0 n0 Z0 ) hZ (wq hw 4 rfl) (wq hw 3 rfl) (by decide) (by decide)) (g := (mkF m 13 #[sI p0, sI p1, sI p2, sI p3, sI p4, sI p5, sI ((p4 &&& (2147483647 : Int32)) % (5 : Int32)), .unset, .unset, .unset, .unset, .unset, .unset, .unset, .unset, .unset] [(.int 0), (.int p5), (.int p0)])) rfl (by rw [hml]; rfl) (argsL := [(.int p0), (.int p5), (.int 0)]) (rest := []) (lenOf pd_0 rfl) rfl (leW rfl) (hb hby at_13) (fun _ _ => ⟨rfl, e0, (by decide : 0 + 0 ≤ _), (by decide : 0 + 0 ≤ _)⟩)
  dsimp only [Pt.U, Pt.locs, Pt.cells, Pt.slots] at X1 l1 y1 z1 st1 hQ1
  subst l1 y1 z1
  obtain ⟨rfl, N1q, e1⟩ := hQ1
  have N1 := Fr.app N0 N1q
  refine Go.via st1 ?_
  refine Vi (T1.setTop (mkF m 22 #[sI p0, sI p1, sI p2, sI p3, sI p4, sI p5, sI ((p4 &&& (2147483647 : Int32)) % (5 : Int32)), sI (f1 p0 p5 (0 : Int32)), .unset, .unset, .unset, .unset, .unset, .unset, .unset, .unset] [(.int 1), (.int p5), (.int p1)])) (fun tZ kZ => ?_) ?_
  · refine XS.istore X1.here hx rfl (hb hby at_16) rfl (l' := #[sI p0, sI p1, sI p2, sI p3, sI p4, sI p5, sI ((p4 &&& (2147483647 : Int32)) % (5 : Int32)), sI (f1 p0 p5 (0 : Int32)), .unset, .unset, .unset, .unset, .unset, .unset, .unset, .unset]) rfl ?_
    refine XS.iloadN X1.here hx rfl (hb hby at_18) rfl ?_
    refine XS.iload X1.here hx rfl (hb hby at_19) rfl ?_
    refine XS.iconst X1.here hx rfl (hb hby at_21) ?_
    exact kZ
  obtain ⟨_, _, ⟨T2, L2, k2, n2⟩, -, X2, ⟨Lc2, hQ2, l2, y2, z2⟩, st2⟩ := Jvm.LawKit.callS X1 hx (y := y1) hown (wz hZ hw 1 rfl) (wz hZ hw 2 rfl) (wz hZ hw 3 rfl) (wz hZ hw 4 rfl) (by decide) (backOf (W := 0) (rm1 l Z a0 hw [] p1 p5 (1 : Int32) h0 n0 Z0 ) hZ (wq hw 4 rfl) (wq hw 3 rfl) (by decide) (by decide)) (g := (mkF m 22 #[sI p0, sI p1, sI p2, sI p3, sI p4, sI p5, sI ((p4 &&& (2147483647 : Int32)) % (5 : Int32)), sI (f1 p0 p5 (0 : Int32)), .unset, .unset, .unset, .unset, .unset, .unset, .unset, .unset] [(.int 1), (.int p5), (.int p1)])) rfl (by rw [hml]; rfl) (argsL := [(.int p1), (.int p5), (.int 1)]) (rest := []) (lenOf pd_0 rfl) rfl (leW rfl) (hb hby at_22) (fun _ _ => ⟨rfl, e1, (by decide : 0 + 0 + 0 ≤ _), (by decide : 0 + 0 + 0 ≤ _)⟩)
  dsimp only [Pt.U, Pt.locs, Pt.cells, Pt.slots] at X2 l2 y2 z2 st2 hQ2
  subst l2 y2 z2
  obtain ⟨rfl, N2q, e2⟩ := hQ2
  have N2 := Fr.app N1 N2q
  refine Go.via st2 ?_
  refine Vi (T2.setTop (mkF m 31 #[sI p0, sI p1, sI p2, sI p3, sI p4, sI p5, sI ((p4 &&& (2147483647 : Int32)) % (5 : Int32)), sI (f1 p0 p5 (0 : Int32)), sI (f1 p1 p5 (1 : Int32)), .unset, .unset, .unset, .unset, .unset, .unset, .unset] [(.int 2), (.int p5), (.int p2)])) (fun tZ kZ => ?_) ?_
  · refine XS.istore X2.here hx rfl (hb hby at_25) rfl (l' := #[sI p0, sI p1, sI p2, sI p3, sI p4, sI p5, sI ((p4 &&& (2147483647 : Int32)) % (5 : Int32)), sI (f1 p0 p5 (0 : Int32)), sI (f1 p1 p5 (1 : Int32)), .unset, .unset, .unset, .unset, .unset, .unset, .unset]) rfl ?_
    refine XS.iloadN X2.here hx rfl (hb hby at_27) rfl ?_
    refine XS.iload X2.here hx rfl (hb hby at_28) rfl ?_
    refine XS.iconst X2.here hx rfl (hb hby at_30) ?_
    exact kZ
  obtain ⟨_, _, ⟨T3, L3, k3, n3⟩, -, X3, ⟨Lc3, hQ3, l3, y3, z3⟩, st3⟩ := Jvm.LawKit.callS X2 hx (y := y1) hown (wz hZ hw 1 rfl) (wz hZ hw 2 rfl) (wz hZ hw 3 rfl) (wz hZ hw 4 rfl) (by decide) (backOf (W := 0) (rm1 l Z a0 hw [] p2 p5 (2 : Int32) h0 n0 Z0 ) hZ (wq hw 4 rfl) (wq hw 3 rfl) (by decide) (by decide)) (g := (mkF m 31 #[sI p0, sI p1, sI p2, sI p3, sI p4, sI p5, sI ((p4 &&& (2147483647 : Int32)) % (5 : Int32)), sI (f1 p0 p5 (0 : Int32)), sI (f1 p1 p5 (1 : Int32)), .unset, .unset, .unset, .unset, .unset, .unset, .unset] [(.int 2), (.int p5), (.int p2)])) rfl (by rw [hml]; rfl) (argsL := [(.int p2), (.int p5), (.int 2)]) (rest := []) (lenOf pd_0 rfl) rfl (leW rfl) (hb hby at_31) (fun _ _ => ⟨rfl, e2, (by decide : 0 + 0 + 0 + 0 ≤ _), (by decide : 0 + 0 + 0 + 0 ≤ _)⟩)
  dsimp only [Pt.U, Pt.locs, Pt.cells, Pt.slots] at X3 l3 y3 z3 st3 hQ3
  subst l3 y3 z3
  obtain ⟨rfl, N3q, e3⟩ := hQ3
  have N3 := Fr.app N2 N3q
  refine Go.via st3 ?_
  refine Vi (T3.setTop (mkF m 40 #[sI p0, sI p1, sI p2, sI p3, sI p4, sI p5, sI ((p4 &&& (2147483647 : Int32)) % (5 : Int32)), sI (f1 p0 p5 (0 : Int32)), sI (f1 p1 p5 (1 : Int32)), sI (f1 p2 p5 (2 : Int32)), .unset, .unset, .unset, .unset, .unset, .unset] [(.int 3), (.int p5), (.int p3)])) (fun tZ kZ => ?_) ?_
  · refine XS.istore X3.here hx rfl (hb hby at_34) rfl (l' := #[sI p0, sI p1, sI p2, sI p3, sI p4, sI p5, sI ((p4 &&& (2147483647 : Int32)) % (5 : Int32)), sI (f1 p0 p5 (0 : Int32)), sI (f1 p1 p5 (1 : Int32)), sI (f1 p2 p5 (2 : Int32)), .unset, .unset, .unset, .unset, .unset, .unset]) rfl ?_
    refine XS.iloadN X3.here hx rfl (hb hby at_36) rfl ?_
    refine XS.iload X3.here hx rfl (hb hby at_37) rfl ?_
    refine XS.iconst X3.here hx rfl (hb hby at_39) ?_
    exact kZ
  obtain ⟨_, _, ⟨T4, L4, k4, n4⟩, -, X4, ⟨Lc4, hQ4, l4, y4, z4⟩, st4⟩ := Jvm.LawKit.callS X3 hx (y := y1) hown (wz hZ hw 1 rfl) (wz hZ hw 2 rfl) (wz hZ hw 3 rfl) (wz hZ hw 4 rfl) (by decide) (backOf (W := 0) (rm1 l Z a0 hw [] p3 p5 (3 : Int32) h0 n0 Z0 ) hZ (wq hw 4 rfl) (wq hw 3 rfl) (by decide) (by decide)) (g := (mkF m 40 #[sI p0, sI p1, sI p2, sI p3, sI p4, sI p5, sI ((p4 &&& (2147483647 : Int32)) % (5 : Int32)), sI (f1 p0 p5 (0 : Int32)), sI (f1 p1 p5 (1 : Int32)), sI (f1 p2 p5 (2 : Int32)), .unset, .unset, .unset, .unset, .unset, .unset] [(.int 3), (.int p5), (.int p3)])) rfl (by rw [hml]; rfl) (argsL := [(.int p3), (.int p5), (.int 3)]) (rest := []) (lenOf pd_0 rfl) rfl (leW rfl) (hb hby at_40) (fun _ _ => ⟨rfl, e3, (by decide : 0 + 0 + 0 + 0 + 0 ≤ _), (by decide : 0 + 0 + 0 + 0 + 0 ≤ _)⟩)
  dsimp only [Pt.U, Pt.locs, Pt.cells, Pt.slots] at X4 l4 y4 z4 st4 hQ4
  subst l4 y4 z4
  obtain ⟨rfl, N4q, e4⟩ := hQ4
  have N4 := Fr.app N3 N4q
  refine Go.via st4 ?_
  refine Vi (T4.setTop (mkF m 45 #[sI p0, sI p1, sI p2, sI p3, sI p4, sI p5, sI ((p4 &&& (2147483647 : Int32)) % (5 : Int32)), sI (f1 p0 p5 (0 : Int32)), sI (f1 p1 p5 (1 : Int32)), sI (f1 p2 p5 (2 : Int32)), sI (f1 p3 p5 (3 : Int32)), .unset, .unset, .unset, .unset, .unset] [])) (fun tZ kZ => ?_) ?_
  · refine XS.istore X4.here hx rfl (hb hby at_43) rfl (l' := #[sI p0, sI p1, sI p2, sI p3, sI p4, sI p5, sI ((p4 &&& (2147483647 : Int32)) % (5 : Int32)), sI (f1 p0 p5 (0 : Int32)), sI (f1 p1 p5 (1 : Int32)), sI (f1 p2 p5 (2 : Int32)), sI (f1 p3 p5 (3 : Int32)), .unset, .unset, .unset, .unset, .unset]) rfl ?_
    exact kZ
  obtain ⟨x0, hx0, ex0⟩ : ∃ z, own_ch z ∧ (f1 p0 p5 (0 : Int32)) = z := ⟨_, own_pick _ _ _, rfl⟩
  rw [ex0]
  obtain ⟨x1, hx1, ex1⟩ : ∃ z, own_ch z ∧ (f1 p1 p5 (1 : Int32)) = z := ⟨_, own_pick _ _ _, rfl⟩
  rw [ex1]
  obtain ⟨x2, hx2, ex2⟩ : ∃ z, own_ch z ∧ (f1 p2 p5 (2 : Int32)) = z := ⟨_, own_pick _ _ _, rfl⟩
  rw [ex2]
  obtain ⟨x3, hx3, ex3⟩ : ∃ z, own_ch z ∧ (f1 p3 p5 (3 : Int32)) = z := ⟨_, own_pick _ _ _, rfl⟩
  rw [ex3]
  show Go p e below _ (T4.setTop (mkF m 45 #[sI p0, sI p1, sI p2, sI p3, sI p4, sI p5, sI ((p4 &&& (2147483647 : Int32)) % (5 : Int32)), sI x0, sI x1, sI x2, sI x3, .unset, .unset, .unset, .unset, .unset] []))
  rcases own_mod5 p4 with hn | hn | hn | hn | hn
  · rw [hn]
    show Go p e below _ (T4.setTop (mkF m 45 #[sI p0, sI p1, sI p2, sI p3, sI p4, sI p5, sI 0, sI x0, sI x1, sI x2, sI x3, .unset, .unset, .unset, .unset, .unset] []))
    refine Vi (T4.setTop (mkF m 55 #[sI p0, sI p1, sI p2, sI p3, sI p4, sI p5, sI 0, sI x0, sI x1, sI x2, sI x3, .unset, .unset, .unset, .unset, .unset] [(.int x3), (.int x2), (.int x1), (.int x0), (.int 0)])) (fun tZ kZ => ?_) ?_
    · refine XS.iload X4.here hx rfl (hb hby at_45) rfl ?_
      refine XS.iload X4.here hx rfl (hb hby at_47) rfl ?_
      refine XS.iload X4.here hx rfl (hb hby at_49) rfl ?_
      refine XS.iload X4.here hx rfl (hb hby at_51) rfl ?_
      refine XS.iload X4.here hx rfl (hb hby at_53) rfl ?_
      exact kZ
    obtain ⟨_, _, ⟨T5, L5, k5, n5⟩, -, X5, hS5, -, ⟨Lc5, hQ5, l5, y5, z5, A5⟩, st5⟩ := callSS (s := s.setVm s.vm) X4 hx (y := y2) hown (wz hZ hw 5 rfl) (wz hZ hw 6 rfl) (wz hZ hw 3 rfl) (wz hZ hw 7 rfl) (by decide) (backOfSH (s := s) (vm0 := s.vm) (W := 0) (rm2n0 l Z a0 hw [] x0 x1 x2 x3 h0 n0 Z0 ) hZ (wq hw 7 rfl) (wq hw 3 rfl) (by decide) (by decide) (own_EW hw) hCH) (g := (mkF m 55 #[sI p0, sI p1, sI p2, sI p3, sI p4, sI p5, sI 0, sI x0, sI x1, sI x2, sI x3, .unset, .unset, .unset, .unset, .unset] [(.int x3), (.int x2), (.int x1), (.int x0), (.int 0)])) rfl (by rw [hml]; rfl) (argsL := [(.int 0), (.int x0), (.int x1), (.int x2), (.int x3)]) (rest := []) (lenOf pd_1 rfl) rfl (leW rfl) (hb hby at_55) (fun _ _ => ⟨rfl, e4, (by decide : 0 + 0 + 0 + 0 + 0 + 6 ≤ _), (by decide : 0 + 0 + 0 + 0 + 0 + 140 ≤ _)⟩)
    dsimp only [Pt.U, Pt.locs, Pt.cells, Pt.slots] at X5 hS5 l5 y5 z5 A5 st5 hQ5
    subst l5 y5 z5
    obtain ⟨b5_0, b5_1, rfl, N5q, Kq5, hz_b5_0, f5_0, f5_1, f5_2, f5_3⟩ := hQ5
    have g_b5_0 : n0 ≤ b5_0 := Nat.le_trans Z0 hz_b5_0
    have sz_b5_0 : h0.size ≤ b5_0 := Nat.le_trans ((Keep.refl h0 [])).1 hz_b5_0
    have CR6c := CHr.trans (CHr.refl hCH) A5
    have c7_3 := ha3.keep Kq5 all0
    have c7_0 := ha0.ext c7_3.2
    have c7_1 := ha1.ext c7_3.2
    have c7_2 := ha2.ext c7_3.2
    have K5 : Keep h0 T5.heap [] := (Keep.refl h0 []).trans Kq5 all0
    have Z5 := Nat.le_trans Z0 Kq5.1
    have ne_b5_1_b5_0 := AV.neExa f5_3 f5_0 (wq hw 9 rfl)
    have N5 := Fr.app N4 N5q
    have hS5c : s.Since T5.vm T5.heap.size := State.Since.trans hS0 hS5 (Nat.le_trans (Nat.zero_le _) Kq5.1)
    replace hZ : Z.Warmed39 (s.setVm T5.vm).vm := State.Warmed39.trans (t := s.setVm s.vm) hZ hS5.1
    replace hown : (s.setVm T5.vm).vm.findClass "com/example/bindery/bindery/compiler/JavaTypeOuterNamePinLaw" = some m.cls := by rw [show (s.setVm T5.vm).vm = T5.vm from rfl, hS5.1.alike.findClass]; exact hown
    refine Go.via (fun t k => st5.trans k) ?_
    obtain ⟨fF, hfE⟩ : ∃ f : Nat → Int32, f = (own_t []) := ⟨_, rfl⟩
    rw [← hfE] at f5_3
    have hfit : ∀ k, k < 0 → fits .byte (.int (fF k)) = true := by rw [hfE]; exact (fun k hk => absurd hk (Nat.not_lt_zero k))
    refine Vi (T5.setTop (mkF m 66 #[sI p0, sI p1, sI p2, sI p3, sI p4, sI p5, sI 0, sI x0, sI x1, sI x2, sI x3, sR b5_0, .unset, .unset, .unset, .unset] [(.int ((p5 >>> ((4 : Int32) &&& 31)) &&& (1 : Int32)))])) (fun tZ kZ => ?_) ?_
    · refine XS.astore X5.here hx rfl (hb hby at_58) rfl rfl (l' := #[sI p0, sI p1, sI p2, sI p3, sI p4, sI p5, sI 0, sI x0, sI x1, sI x2, sI x3, sR b5_0, .unset, .unset, .unset, .unset]) rfl ?_
      refine XS.iload X5.here hx rfl (hb hby at_60) rfl ?_
      refine XS.iconst X5.here hx rfl (hb hby at_62) ?_
      refine XS.ishr X5.here hx rfl (hb hby at_63) rfl ?_
      refine XS.iconst X5.here hx rfl (hb hby at_64) ?_
      refine XS.iand X5.here hx rfl (hb hby at_65) rfl ?_
      exact kZ
    by_cases hc66 : ((p5 >>> ((4 : Int32) &&& 31)) &&& (1 : Int32)) = (0 : Int32)
    · refine Vi (T5.setTop (mkF m 74 #[sI p0, sI p1, sI p2, sI p3, sI p4, sI p5, sI 0, sI x0, sI x1, sI x2, sI x3, sR b5_0, .unset, .unset, .unset, .unset] [])) (fun tZ kZ => ?_) ?_
      · show Steps p.tables e below (T5.setTop (mkF m 66 #[sI p0, sI p1, sI p2, sI p3, sI p4, sI p5, sI 0, sI x0, sI x1, sI x2, sI x3, sR b5_0, .unset, .unset, .unset, .unset] [(.int ((p5 >>> ((4 : Int32) &&& 31)) &&& (1 : Int32)))])) _
        refine XS.ifYes X5.here hx rfl (pc0 := 66) (pc' := 74) rfl (hb hby at_66) rfl ((if0 _ _).trans (teq hc66).1) (by decide) (by decide) ?_
        exact kZ
      obtain ⟨as8, T8, h8, kk8, ab8, kc8, X8, e8, E8, hS8, hk8, hZ, hown, Ea8, Fc8, Fv8, Ar8, -, -, A8, -, nS8, st8⟩ := ldcCH (s := s) (vm0 := T5.vm) (EL := own_EL) X5 hx hZ hown (wq hw 30 rfl) wS rfl hS5c (Nat.le_refl _) (own_EW hw) (by simp [own_EL]) A5.1 (vs := ([113, 46, 114] : List Int32).map Value.int) (z := 3) ⟨by decide, by decide +kernel⟩ (by decide) rfl (g := (mkF m 74 #[sI p0, sI p1, sI p2, sI p3, sI p4, sI p5, sI 0, sI x0, sI x1, sI x2, sI x3, sR b5_0, .unset, .unset, .unset, .unset] [])) rfl (hb hby at_74) (n := 64) (by decide) (by decide) (by decide) (by decide)
      have CR9c := CHr.trans CR6c A8
      have c10_3 := c7_3.ext E8
      have c10_0 := ha0.ext c10_3.2
      have c10_1 := ha1.ext c10_3.2
      have c10_2 := ha2.ext c10_3.2
      have c10_4 := f5_0.ext E8
      have c10_5 := f5_1.ext E8
      have c10_6 := f5_2.ext E8
      have c10_7 := f5_3.ext E8
      have Va8 := AV.ofArv Ar8 (n := 3) rfl (by decide)
      have K8 : Keep h0 h8 [] := K5.ext E8
      have Z8 := Nat.le_trans Z5 E8.1
      refine Go.via st8 ?_
      refine Vi (T8.setTop (mkF m 78 #[sI p0, sI p1, sI p2, sI p3, sI p4, sI p5, sI 0, sI x0, sI x1, sI x2, sI x3, sR b5_0, sR as8, .unset, .unset, .unset] [])) (fun tZ kZ => ?_) ?_
      · refine XS.astore X8.here hx rfl (hb hby at_76) rfl rfl (l' := #[sI p0, sI p1, sI p2, sI p3, sI p4, sI p5, sI 0, sI x0, sI x1, sI x2, sI x3, sR b5_0, sR as8, .unset, .unset, .unset]) rfl ?_
        exact kZ
      exact tail_0_0 l Z a0 hw (s := s) (vmT := T8.vm) ⟨X8, hx, hby, hml, Bd.notSynchronized, Bd.returns, hZ, hown, wS, Z8, e8, N5, hS8, hk8, A8.1, hx0, hx1, hx2, hx3, hcs, hsv, ha0, ha1, ha2, c10_3⟩ (own_p p0 p1 p2 p3 p4 p5) b5_0 b5_1 as8 fF hfit  c10_4 c10_6 c10_5 c10_7 
    · refine Vi (T5.setTop (mkF m 69 #[sI p0, sI p1, sI p2, sI p3, sI p4, sI p5, sI 0, sI x0, sI x1, sI x2, sI x3, sR b5_0, .unset, .unset, .unset, .unset] [])) (fun tZ kZ => ?_) ?_
      · show Steps p.tables e below (T5.setTop (mkF m 66 #[sI p0, sI p1, sI p2, sI p3, sI p4, sI p5, sI 0, sI x0, sI x1, sI x2, sI x3, sR b5_0, .unset, .unset, .unset, .unset] [(.int ((p5 >>> ((4 : Int32) &&& 31)) &&& (1 : Int32)))])) _
        refine XS.ifNo X5.here hx rfl (hb hby at_66) rfl ((if0 _ _).trans (feq hc66).1) ?_
        exact kZ
      obtain ⟨as11, T11, h11, kk11, ab11, kc11, X11, e11, E11, hS11, hk11, hZ, hown, Ea11, Fc11, Fv11, Ar11, -, -, A11, -, nS11, st11⟩ := ldcCH (s := s) (vm0 := T5.vm) (EL := own_EL) X5 hx hZ hown (wq hw 165 rfl) wS rfl hS5c (Nat.le_refl _) (own_EW hw) (by simp [own_EL]) A5.1 (vs := ([] : List Int32).map Value.int) (z := 0) ⟨by decide, by decide +kernel⟩ (by decide) rfl (g := (mkF m 69 #[sI p0, sI p1, sI p2, sI p3, sI p4, sI p5, sI 0, sI x0, sI x1, sI x2, sI x3, sR b5_0, .unset, .unset, .unset, .unset] [])) rfl (hb hby at_69) (n := 64) (by decide) (by decide) (by decide) (by decide)
      have CR12c := CHr.trans CR6c A11
      have c13_3 := c7_3.ext E11
      have c13_0 := ha0.ext c13_3.2
      have c13_1 := ha1.ext c13_3.2
      have c13_2 := ha2.ext c13_3.2
      have c13_4 := f5_0.ext E11
      have c13_5 := f5_1.ext E11
      have c13_6 := f5_2.ext E11
      have c13_7 := f5_3.ext E11
      have Va11 := AV.ofArv Ar11 (n := 0) rfl (by decide)
      have K11 : Keep h0 h11 [] := K5.ext E11
      have Z11 := Nat.le_trans Z5 E11.1
      refine Go.via st11 ?_
      refine Vi (T11.setTop (mkF m 78 #[sI p0, sI p1, sI p2, sI p3, sI p4, sI p5, sI 0, sI x0, sI x1, sI x2, sI x3, sR b5_0, sR as11, .unset, .unset, .unset] [])) (fun tZ kZ => ?_) ?_
      · refine XS.goto X11.here hx rfl (pc0 := 71) (pc' := 76) rfl (hb hby at_71) (by decide) (by decide) ?_
        refine XS.astore X11.here hx rfl (hb hby at_76) rfl rfl (l' := #[sI p0, sI p1, sI p2, sI p3, sI p4, sI p5, sI 0, sI x0, sI x1, sI x2, sI x3, sR b5_0, sR as11, .unset, .unset, .unset]) rfl ?_
        exact kZ
      exact tail_0_0 l Z a0 hw (s := s) (vmT := T11.vm) ⟨X11, hx, hby, hml, Bd.notSynchronized, Bd.returns, hZ, hown, wS, Z11, e11, N5, hS11, hk11, A11.1, hx0, hx1, hx2, hx3, hcs, hsv, ha0, ha1, ha2, c13_3⟩ (own_p p0 p1 p2 p3 p4 p5) b5_0 b5_1 as11 fF hfit  c13_4 c13_6 c13_5 c13_7 
  · rw [hn]
    show Go p e below _ (T4.setTop (mkF m 45 #[sI p0, sI p1, sI p2, sI p3, sI p4, sI p5, sI 1, sI x0, sI x1, sI x2, sI x3, .unset, .unset, .unset, .unset, .unset] []))
    refine Vi (T4.setTop (mkF m 55 #[sI p0, sI p1, sI p2, sI p3, sI p4, sI p5, sI 1, sI x0, sI x1, sI x2, sI x3, .unset, .unset, .unset, .unset, .unset] [(.int x3), (.int x2), (.int x1), (.int x0), (.int 1)])) (fun tZ kZ => ?_) ?_
    · refine XS.iload X4.here hx rfl (hb hby at_45) rfl ?_
      refine XS.iload X4.here hx rfl (hb hby at_47) rfl ?_
      refine XS.iload X4.here hx rfl (hb hby at_49) rfl ?_
      refine XS.iload X4.here hx rfl (hb hby at_51) rfl ?_
      refine XS.iload X4.here hx rfl (hb hby at_53) rfl ?_
      exact kZ
    obtain ⟨_, _, ⟨T14, L14, k14, n14⟩, -, X14, ⟨Lc14, hQ14, l14, y14, z14⟩, st14⟩ := Jvm.LawKit.callS X4 hx (y := y2) hown (wz hZ hw 5 rfl) (wz hZ hw 6 rfl) (wz hZ hw 3 rfl) (wz hZ hw 7 rfl) (by decide) (backOf (W := 0) (rm2n1 l Z a0 hw [] x0 x1 x2 x3 cs h0 n0 Z0 (ha0.ext ha3.2) hx0 hcs) hZ (wq hw 7 rfl) (wq hw 3 rfl) (by decide) (by decide)) (g := (mkF m 55 #[sI p0, sI p1, sI p2, sI p3, sI p4, sI p5, sI 1, sI x0, sI x1, sI x2, sI x3, .unset, .unset, .unset, .unset, .unset] [(.int x3), (.int x2), (.int x1), (.int x0), (.int 1)])) rfl (by rw [hml]; rfl) (argsL := [(.int 1), (.int x0), (.int x1), (.int x2), (.int x3)]) (rest := []) (lenOf pd_1 rfl) rfl (leW rfl) (hb hby at_55) (fun _ _ => ⟨rfl, e4, (by decide : 0 + 0 + 0 + 0 + 0 + 3 ≤ _), (by decide : 0 + 0 + 0 + 0 + 0 + 6 ≤ _)⟩)
    dsimp only [Pt.U, Pt.locs, Pt.cells, Pt.slots] at X14 l14 y14 z14 st14 hQ14
    subst l14 y14 z14
    obtain ⟨b14_0, b14_1, rfl, N14q, Kq14, hz_b14_0, hz_b14_1, f14_0, f14_1, f14_2, f14_3, f14_4⟩ := hQ14
    have g_b14_0 : n0 ≤ b14_0 := Nat.le_trans Z0 hz_b14_0
    have sz_b14_0 : h0.size ≤ b14_0 := Nat.le_trans ((Keep.refl h0 [])).1 hz_b14_0
    have g_b14_1 : n0 ≤ b14_1 := Nat.le_trans Z0 hz_b14_1
    have sz_b14_1 : h0.size ≤ b14_1 := Nat.le_trans ((Keep.refl h0 [])).1 hz_b14_1
    have Ac15 := CHr.keep Kq14 all0 hCH
    have CR15c := CHr.trans (CHr.refl hCH) Ac15
    have c16_3 := ha3.keep Kq14 all0
    have c16_1 := ha1.ext c16_3.2
    have c16_2 := ha2.ext c16_3.2
    have K14 : Keep h0 T14.heap [] := (Keep.refl h0 []).trans Kq14 all0
    have Z14 := Nat.le_trans Z0 Kq14.1
    have N14 := Fr.app N4 N14q
    refine Go.via st14 ?_
    obtain ⟨fF, hfE⟩ : ∃ f : Nat → Int32, f = (up (fun _ => (0 : Int32)) (0 : Int32).toNatClampNeg (nar .byte (((up (fun _ => (0 : Int32)) (0 : Int32).toNatClampNeg (nar .char x0)) (0 : Int32).toNatClampNeg).toInt8.toInt32))) := ⟨_, rfl⟩
    rw [← hfE] at f14_4
    have hfit : ∀ k, k < 1 → fits .byte (.int (fF k)) = true := by rw [hfE]; exact (fun k hk => by match k, hk with | 0, _ => exact fits_nar_byte _ | k + 1, hk => exact absurd hk (by omega))
    have hf0 : fF (0 : Int32).toNatClampNeg = nar .byte ((nar .char x0).toInt8.toInt32) := by rw [hfE]; rfl
    refine Vi (T14.setTop (mkF m 66 #[sI p0, sI p1, sI p2, sI p3, sI p4, sI p5, sI 1, sI x0, sI x1, sI x2, sI x3, sR b14_0, .unset, .unset, .unset, .unset] [(.int ((p5 >>> ((4 : Int32) &&& 31)) &&& (1 : Int32)))])) (fun tZ kZ => ?_) ?_
    · refine XS.astore X14.here hx rfl (hb hby at_58) rfl rfl (l' := #[sI p0, sI p1, sI p2, sI p3, sI p4, sI p5, sI 1, sI x0, sI x1, sI x2, sI x3, sR b14_0, .unset, .unset, .unset, .unset]) rfl ?_
      refine XS.iload X14.here hx rfl (hb hby at_60) rfl ?_
      refine XS.iconst X14.here hx rfl (hb hby at_62) ?_
      refine XS.ishr X14.here hx rfl (hb hby at_63) rfl ?_
      refine XS.iconst X14.here hx rfl (hb hby at_64) ?_
      refine XS.iand X14.here hx rfl (hb hby at_65) rfl ?_
      exact kZ
    by_cases hc66 : ((p5 >>> ((4 : Int32) &&& 31)) &&& (1 : Int32)) = (0 : Int32)
    · refine Vi (T14.setTop (mkF m 74 #[sI p0, sI p1, sI p2, sI p3, sI p4, sI p5, sI 1, sI x0, sI x1, sI x2, sI x3, sR b14_0, .unset, .unset, .unset, .unset] [])) (fun tZ kZ => ?_) ?_
      · show Steps p.tables e below (T14.setTop (mkF m 66 #[sI p0, sI p1, sI p2, sI p3, sI p4, sI p5, sI 1, sI x0, sI x1, sI x2, sI x3, sR b14_0, .unset, .unset, .unset, .unset] [(.int ((p5 >>> ((4 : Int32) &&& 31)) &&& (1 : Int32)))])) _
        refine XS.ifYes X14.here hx rfl (pc0 := 66) (pc' := 74) rfl (hb hby at_66) rfl ((if0 _ _).trans (teq hc66).1) (by decide) (by decide) ?_
        exact kZ
      obtain ⟨as17, T17, h17, kk17, ab17, kc17, X17, e17, E17, hS17, hk17, hZ, hown, Ea17, Fc17, Fv17, Ar17, -, -, A17, -, nS17, st17⟩ := ldcCH (s := s) (vm0 := s.vm) (EL := own_EL) X14 hx hZ hown (wq hw 30 rfl) wS rfl hS0 (Nat.zero_le _) (own_EW hw) (by simp [own_EL]) Ac15.1 (vs := ([113, 46, 114] : List Int32).map Value.int) (z := 3) ⟨by decide, by decide +kernel⟩ (by decide) rfl (g := (mkF m 74 #[sI p0, sI p1, sI p2, sI p3, sI p4, sI p5, sI 1, sI x0, sI x1, sI x2, sI x3, sR b14_0, .unset, .unset, .unset, .unset] [])) rfl (hb hby at_74) (n := 64) (by decide) (by decide) (by decide) (by decide)
      have CR18c := CHr.trans CR15c A17
      have c19_3 := c16_3.ext E17
      have c19_0 := ha0.ext c19_3.2
      have c19_1 := ha1.ext c19_3.2
      have c19_2 := ha2.ext c19_3.2
      have c19_4 := f14_1.ext E17
      have c19_5 := f14_2.ext E17
      have c19_6 := f14_3.ext E17
      have c19_7 := f14_4.ext E17
      have Va17 := AV.ofArv Ar17 (n := 3) rfl (by decide)
      have K17 : Keep h0 h17 [] := K14.ext E17
      have Z17 := Nat.le_trans Z14 E17.1
      refine Go.via st17 ?_
      refine Vi (T17.setTop (mkF m 78 #[sI p0, sI p1, sI p2, sI p3, sI p4, sI p5, sI 1, sI x0, sI x1, sI x2, sI x3, sR b14_0, sR as17, .unset, .unset, .unset] [])) (fun tZ kZ => ?_) ?_
      · refine XS.astore X17.here hx rfl (hb hby at_76) rfl rfl (l' := #[sI p0, sI p1, sI p2, sI p3, sI p4, sI p5, sI 1, sI x0, sI x1, sI x2, sI x3, sR b14_0, sR as17, .unset, .unset, .unset]) rfl ?_
        exact kZ
      by_cases hd0 : x0 = 46
      · exact tail_1_1 l Z a0 hw (s := s) (vmT := T17.vm) ⟨X17, hx, hby, hml, Bd.notSynchronized, Bd.returns, hZ, hown, wS, Z17, e17, N14, hS17, hk17, A17.1, hx0, hx1, hx2, hx3, hcs, hsv, ha0, ha1, ha2, c19_3⟩ (own_p p0 p1 p2 p3 p4 p5) b14_0 b14_1 as17 fF hfit hf0 c19_4 c19_6 c19_5 c19_7 hd0
      · skip
        exact tail_1_0 l Z a0 hw (s := s) (vmT := T17.vm) ⟨X17, hx, hby, hml, Bd.notSynchronized, Bd.returns, hZ, hown, wS, Z17, e17, N14, hS17, hk17, A17.1, hx0, hx1, hx2, hx3, hcs, hsv, ha0, ha1, ha2, c19_3⟩ (own_p p0 p1 p2 p3 p4 p5) b14_0 b14_1 as17 fF hfit hf0 c19_4 c19_6 c19_5 c19_7 hd0
    · refine Vi (T14.setTop (mkF m 69 #[sI p0, sI p1, sI p2, sI p3, sI p4, sI p5, sI 1, sI x0, sI x1, sI x2, sI x3, sR b14_0, .unset, .unset, .unset, .unset] [])) (fun tZ kZ => ?_) ?_
      · show Steps p.tables e below (T14.setTop (mkF m 66 #[sI p0, sI p1, sI p2, sI p3, sI p4, sI p5, sI 1, sI x0, sI x1, sI x2, sI x3, sR b14_0, .unset, .unset, .unset, .unset] [(.int ((p5 >>> ((4 : Int32) &&& 31)) &&& (1 : Int32)))])) _
        refine XS.ifNo X14.here hx rfl (hb hby at_66) rfl ((if0 _ _).trans (feq hc66).1) ?_
        exact kZ
      obtain ⟨as20, T20, h20, kk20, ab20, kc20, X20, e20, E20, hS20, hk20, hZ, hown, Ea20, Fc20, Fv20, Ar20, -, -, A20, -, nS20, st20⟩ := ldcCH (s := s) (vm0 := s.vm) (EL := own_EL) X14 hx hZ hown (wq hw 165 rfl) wS rfl hS0 (Nat.zero_le _) (own_EW hw) (by simp [own_EL]) Ac15.1 (vs := ([] : List Int32).map Value.int) (z := 0) ⟨by decide, by decide +kernel⟩ (by decide) rfl (g := (mkF m 69 #[sI p0, sI p1, sI p2, sI p3, sI p4, sI p5, sI 1, sI x0, sI x1, sI x2, sI x3, sR b14_0, .unset, .unset, .unset, .unset] [])) rfl (hb hby at_69) (n := 64) (by decide) (by decide) (by decide) (by decide)
      have CR21c := CHr.trans CR15c A20
      have c22_3 := c16_3.ext E20
      have c22_0 := ha0.ext c22_3.2
      have c22_1 := ha1.ext c22_3.2
      have c22_2 := ha2.ext c22_3.2
      have c22_4 := f14_1.ext E20
      have c22_5 := f14_2.ext E20
      have c22_6 := f14_3.ext E20
      have c22_7 := f14_4.ext E20
      have Va20 := AV.ofArv Ar20 (n := 0) rfl (by decide)
      have K20 : Keep h0 h20 [] := K14.ext E20
      have Z20 := Nat.le_trans Z14 E20.1
      refine Go.via st20 ?_
      refine Vi (T20.setTop (mkF m 78 #[sI p0, sI p1, sI p2, sI p3, sI p4, sI p5, sI 1, sI x0, sI x1, sI x2, sI x3, sR b14_0, sR as20, .unset, .unset, .unset] [])) (fun tZ kZ => ?_) ?_
      · refine XS.goto X20.here hx rfl (pc0 := 71) (pc' := 76) rfl (hb hby at_71) (by decide) (by decide) ?_
        refine XS.astore X20.here hx rfl (hb hby at_76) rfl rfl (l' := #[sI p0, sI p1, sI p2, sI p3, sI p4, sI p5, sI 1, sI x0, sI x1, sI x2, sI x3, sR b14_0, sR as20, .unset, .unset, .unset]) rfl ?_
        exact kZ
      by_cases hd0 : x0 = 46
      · exact tail_1_1 l Z a0 hw (s := s) (vmT := T20.vm) ⟨X20, hx, hby, hml, Bd.notSynchronized, Bd.returns, hZ, hown, wS, Z20, e20, N14, hS20, hk20, A20.1, hx0, hx1, hx2, hx3, hcs, hsv, ha0, ha1, ha2, c22_3⟩ (own_p p0 p1 p2 p3 p4 p5) b14_0 b14_1 as20 fF hfit hf0 c22_4 c22_6 c22_5 c22_7 hd0
      · skip
        exact tail_1_0 l Z a0 hw (s := s) (vmT := T20.vm) ⟨X20, hx, hby, hml, Bd.notSynchronized, Bd.returns, hZ, hown, wS, Z20, e20, N14, hS20, hk20, A20.1, hx0, hx1, hx2, hx3, hcs, hsv, ha0, ha1, ha2, c22_3⟩ (own_p p0 p1 p2 p3 p4 p5) b14_0 b14_1 as20 fF hfit hf0 c22_4 c22_6 c22_5 c22_7 hd0
  · rw [hn]
    show Go p e below _ (T4.setTop (mkF m 45 #[sI p0, sI p1, sI p2, sI p3, sI p4, sI p5, sI 2, sI x0, sI x1, sI x2, sI x3, .unset, .unset, .unset, .unset, .unset] []))
    refine Vi (T4.setTop (mkF m 55 #[sI p0, sI p1, sI p2, sI p3, sI p4, sI p5, sI 2, sI x0, sI x1, sI x2, sI x3, .unset, .unset, .unset, .unset, .unset] [(.int x3), (.int x2), (.int x1), (.int x0), (.int 2)])) (fun tZ kZ => ?_) ?_
    · refine XS.iload X4.here hx rfl (hb hby at_45) rfl ?_
      refine XS.iload X4.here hx rfl (hb hby at_47) rfl ?_
      refine XS.iload X4.here hx rfl (hb hby at_49) rfl ?_
      refine XS.iload X4.here hx rfl (hb hby at_51) rfl ?_
      refine XS.iload X4.here hx rfl (hb hby at_53) rfl ?_
      exact kZ
    obtain ⟨_, _, ⟨T23, L23, k23, n23⟩, -, X23, ⟨Lc23, hQ23, l23, y23, z23⟩, st23⟩ := Jvm.LawKit.callS X4 hx (y := y2) hown (wz hZ hw 5 rfl) (wz hZ hw 6 rfl) (wz hZ hw 3 rfl) (wz hZ hw 7 rfl) (by decide) (backOf (W := 0) (rm2n2 l Z a0 hw [] x0 x1 x2 x3 cs h0 n0 Z0 (ha0.ext ha3.2) hx0 hx1 hcs) hZ (wq hw 7 rfl) (wq hw 3 rfl) (by decide) (by decide)) (g := (mkF m 55 #[sI p0, sI p1, sI p2, sI p3, sI p4, sI p5, sI 2, sI x0, sI x1, sI x2, sI x3, .unset, .unset, .unset, .unset, .unset] [(.int x3), (.int x2), (.int x1), (.int x0), (.int 2)])) rfl (by rw [hml]; rfl) (argsL := [(.int 2), (.int x0), (.int x1), (.int x2), (.int x3)]) (rest := []) (lenOf pd_1 rfl) rfl (leW rfl) (hb hby at_55) (fun _ _ => ⟨rfl, e4, (by decide : 0 + 0 + 0 + 0 + 0 + 3 ≤ _), (by decide : 0 + 0 + 0 + 0 + 0 + 8 ≤ _)⟩)
    dsimp only [Pt.U, Pt.locs, Pt.cells, Pt.slots] at X23 l23 y23 z23 st23 hQ23
    subst l23 y23 z23
    obtain ⟨b23_0, b23_1, rfl, N23q, Kq23, hz_b23_0, hz_b23_1, f23_0, f23_1, f23_2, f23_3, f23_4⟩ := hQ23
    have g_b23_0 : n0 ≤ b23_0 := Nat.le_trans Z0 hz_b23_0
    have sz_b23_0 : h0.size ≤ b23_0 := Nat.le_trans ((Keep.refl h0 [])).1 hz_b23_0
    have g_b23_1 : n0 ≤ b23_1 := Nat.le_trans Z0 hz_b23_1
    have sz_b23_1 : h0.size ≤ b23_1 := Nat.le_trans ((Keep.refl h0 [])).1 hz_b23_1
    have Ac24 := CHr.keep Kq23 all0 hCH
    have CR24c := CHr.trans (CHr.refl hCH) Ac24
    have c25_3 := ha3.keep Kq23 all0
    have c25_1 := ha1.ext c25_3.2
    have c25_2 := ha2.ext c25_3.2
    have K23 : Keep h0 T23.heap [] := (Keep.refl h0 []).trans Kq23 all0
    have Z23 := Nat.le_trans Z0 Kq23.1
    have N23 := Fr.app N4 N23q
    refine Go.via st23 ?_
    obtain ⟨fF, hfE⟩ : ∃ f : Nat → Int32, f = (up (up (fun _ => (0 : Int32)) (0 : Int32).toNatClampNeg (nar .byte (((up (up (fun _ => (0 : Int32)) (0 : Int32).toNatClampNeg (nar .char x0)) (1 : Int32).toNatClampNeg (nar .char x1)) (0 : Int32).toNatClampNeg).toInt8.toInt32))) (1 : Int32).toNatClampNeg (nar .byte (((up (up (fun _ => (0 : Int32)) (0 : Int32).toNatClampNeg (nar .char x0)) (1 : Int32).toNatClampNeg (nar .char x1)) (1 : Int32).toNatClampNeg).toInt8.toInt32))) := ⟨_, rfl⟩
    rw [← hfE] at f23_4
    have hfit : ∀ k, k < 2 → fits .byte (.int (fF k)) = true := by rw [hfE]; exact (fun k hk => by match k, hk with | 0, _ => exact fits_nar_byte _ | 1, _ => exact fits_nar_byte _ | k + 2, hk => exact absurd hk (by omega))
    have hf0 : fF (0 : Int32).toNatClampNeg = nar .byte ((nar .char x0).toInt8.toInt32) := by rw [hfE]; rfl
    have hf1 : fF (1 : Int32).toNatClampNeg = nar .byte ((nar .char x1).toInt8.toInt32) := by rw [hfE]; rfl
    refine Vi (T23.setTop (mkF m 66 #[sI p0, sI p1, sI p2, sI p3, sI p4, sI p5, sI 2, sI x0, sI x1, sI x2, sI x3, sR b23_0, .unset, .unset, .unset, .unset] [(.int ((p5 >>> ((4 : Int32) &&& 31)) &&& (1 : Int32)))])) (fun tZ kZ => ?_) ?_
    · refine XS.astore X23.here hx rfl (hb hby at_58) rfl rfl (l' := #[sI p0, sI p1, sI p2, sI p3, sI p4, sI p5, sI 2, sI x0, sI x1, sI x2, sI x3, sR b23_0, .unset, .unset, .unset, .unset]) rfl ?_
      refine XS.iload X23.here hx rfl (hb hby at_60) rfl ?_
      refine XS.iconst X23.here hx rfl (hb hby at_62) ?_
      refine XS.ishr X23.here hx rfl (hb hby at_63) rfl ?_
      refine XS.iconst X23.here hx rfl (hb hby at_64) ?_
      refine XS.iand X23.here hx rfl (hb hby at_65) rfl ?_
      exact kZ
    by_cases hc66 : ((p5 >>> ((4 : Int32) &&& 31)) &&& (1 : Int32)) = (0 : Int32)
    · refine Vi (T23.setTop (mkF m 74 #[sI p0, sI p1, sI p2, sI p3, sI p4, sI p5, sI 2, sI x0, sI x1, sI x2, sI x3, sR b23_0, .unset, .unset, .unset, .unset] [])) (fun tZ kZ => ?_) ?_
      · show Steps p.tables e below (T23.setTop (mkF m 66 #[sI p0, sI p1, sI p2, sI p3, sI p4, sI p5, sI 2, sI x0, sI x1, sI x2, sI x3, sR b23_0, .unset, .unset, .unset, .unset] [(.int ((p5 >>> ((4 : Int32) &&& 31)) &&& (1 : Int32)))])) _
        refine XS.ifYes X23.here hx rfl (pc0 := 66) (pc' := 74) rfl (hb hby at_66) rfl ((if0 _ _).trans (teq hc66).1) (by decide) (by decide) ?_
        exact kZ
      obtain ⟨as26, T26, h26, kk26, ab26, kc26, X26, e26, E26, hS26, hk26, hZ, hown, Ea26, Fc26, Fv26, Ar26, -, -, A26, -, nS26, st26⟩ := ldcCH (s := s) (vm0 := s.vm) (EL := own_EL) X23 hx hZ hown (wq hw 30 rfl) wS rfl hS0 (Nat.zero_le _) (own_EW hw) (by simp [own_EL]) Ac24.1 (vs := ([113, 46, 114] : List Int32).map Value.int) (z := 3) ⟨by decide, by decide +kernel⟩ (by decide) rfl (g := (mkF m 74 #[sI p0, sI p1, sI p2, sI p3, sI p4, sI p5, sI 2, sI x0, sI x1, sI x2, sI x3, sR b23_0, .unset, .unset, .unset, .unset] [])) rfl (hb hby at_74) (n := 64) (by decide) (by decide) (by decide) (by decide)
      have CR27c := CHr.trans CR24c A26
      have c28_3 := c25_3.ext E26
      have c28_0 := ha0.ext c28_3.2
      have c28_1 := ha1.ext c28_3.2
      have c28_2 := ha2.ext c28_3.2
      have c28_4 := f23_1.ext E26
      have c28_5 := f23_2.ext E26
      have c28_6 := f23_3.ext E26
      have c28_7 := f23_4.ext E26
      have Va26 := AV.ofArv Ar26 (n := 3) rfl (by decide)
      have K26 : Keep h0 h26 [] := K23.ext E26
      have Z26 := Nat.le_trans Z23 E26.1
      refine Go.via st26 ?_
      refine Vi (T26.setTop (mkF m 78 #[sI p0, sI p1, sI p2, sI p3, sI p4, sI p5, sI 2, sI x0, sI x1, sI x2, sI x3, sR b23_0, sR as26, .unset, .unset, .unset] [])) (fun tZ kZ => ?_) ?_
      · refine XS.astore X26.here hx rfl (hb hby at_76) rfl rfl (l' := #[sI p0, sI p1, sI p2, sI p3, sI p4, sI p5, sI 2, sI x0, sI x1, sI x2, sI x3, sR b23_0, sR as26, .unset, .unset, .unset]) rfl ?_
        exact kZ
      by_cases hd0 : x0 = 46
      · exact tail_2_1 l Z a0 hw (s := s) (vmT := T26.vm) ⟨X26, hx, hby, hml, Bd.notSynchronized, Bd.returns, hZ, hown, wS, Z26, e26, N23, hS26, hk26, A26.1, hx0, hx1, hx2, hx3, hcs, hsv, ha0, ha1, ha2, c28_3⟩ (own_p p0 p1 p2 p3 p4 p5) b23_0 b23_1 as26 fF hfit hf0 hf1 c28_4 c28_6 c28_5 c28_7 hd0
      · skip
        by_cases hd1 : x1 = 46
        · exact tail_2_2 l Z a0 hw (s := s) (vmT := T26.vm) ⟨X26, hx, hby, hml, Bd.notSynchronized, Bd.returns, hZ, hown, wS, Z26, e26, N23, hS26, hk26, A26.1, hx0, hx1, hx2, hx3, hcs, hsv, ha0, ha1, ha2, c28_3⟩ (own_p p0 p1 p2 p3 p4 p5) b23_0 b23_1 as26 fF hfit hf0 hf1 c28_4 c28_6 c28_5 c28_7 hd0 hd1
        · skip
          exact tail_2_0 l Z a0 hw (s := s) (vmT := T26.vm) ⟨X26, hx, hby, hml, Bd.notSynchronized, Bd.returns, hZ, hown, wS, Z26, e26, N23, hS26, hk26, A26.1, hx0, hx1, hx2, hx3, hcs, hsv, ha0, ha1, ha2, c28_3⟩ (own_p p0 p1 p2 p3 p4 p5) b23_0 b23_1 as26 fF hfit hf0 hf1 c28_4 c28_6 c28_5 c28_7 hd0 hd1
    · refine Vi (T23.setTop (mkF m 69 #[sI p0, sI p1, sI p2, sI p3, sI p4, sI p5, sI 2, sI x0, sI x1, sI x2, sI x3, sR b23_0, .unset, .unset, .unset, .unset] [])) (fun tZ kZ => ?_) ?_
      · show Steps p.tables e below (T23.setTop (mkF m 66 #[sI p0, sI p1, sI p2, sI p3, sI p4, sI p5, sI 2, sI x0, sI x1, sI x2, sI x3, sR b23_0, .unset, .unset, .unset, .unset] [(.int ((p5 >>> ((4 : Int32) &&& 31)) &&& (1 : Int32)))])) _
        refine XS.ifNo X23.here hx rfl (hb hby at_66) rfl ((if0 _ _).trans (feq hc66).1) ?_
        exact kZ
      obtain ⟨as29, T29, h29, kk29, ab29, kc29, X29, e29, E29, hS29, hk29, hZ, hown, Ea29, Fc29, Fv29, Ar29, -, -, A29, -, nS29, st29⟩ := ldcCH (s := s) (vm0 := s.vm) (EL := own_EL) X23 hx hZ hown (wq hw 165 rfl) wS rfl hS0 (Nat.zero_le _) (own_EW hw) (by simp [own_EL]) Ac24.1 (vs := ([] : List Int32).map Value.int) (z := 0) ⟨by decide, by decide +kernel⟩ (by decide) rfl (g := (mkF m 69 #[sI p0, sI p1, sI p2, sI p3, sI p4, sI p5, sI 2, sI x0, sI x1, sI x2, sI x3, sR b23_0, .unset, .unset, .unset, .unset] [])) rfl (hb hby at_69) (n := 64) (by decide) (by decide) (by decide) (by decide)
      have CR30c := CHr.trans CR24c A29
      have c31_3 := c25_3.ext E29
      have c31_0 := ha0.ext c31_3.2
      have c31_1 := ha1.ext c31_3.2
      have c31_2 := ha2.ext c31_3.2
      have c31_4 := f23_1.ext E29
      have c31_5 := f23_2.ext E29
      have c31_6 := f23_3.ext E29
      have c31_7 := f23_4.ext E29
      have Va29 := AV.ofArv Ar29 (n := 0) rfl (by decide)
      have K29 : Keep h0 h29 [] := K23.ext E29
      have Z29 := Nat.le_trans Z23 E29.1
      refine Go.via st29 ?_
      refine Vi (T29.setTop (mkF m 78 #[sI p0, sI p1, sI p2, sI p3, sI p4, sI p5, sI 2, sI x0, sI x1, sI x2, sI x3, sR b23_0, sR as29, .unset, .unset, .unset] [])) (fun tZ kZ => ?_) ?_
      · refine XS.goto X29.here hx rfl (pc0 := 71) (pc' := 76) rfl (hb hby at_71) (by decide) (by decide) ?_
        refine XS.astore X29.here hx rfl (hb hby at_76) rfl rfl (l' := #[sI p0, sI p1, sI p2, sI p3, sI p4, sI p5, sI 2, sI x0, sI x1, sI x2, sI x3, sR b23_0, sR as29, .unset, .unset, .unset]) rfl ?_
        exact kZ
      by_cases hd0 : x0 = 46
      · exact tail_2_1 l Z a0 hw (s := s) (vmT := T29.vm) ⟨X29, hx, hby, hml, Bd.notSynchronized, Bd.returns, hZ, hown, wS, Z29, e29, N23, hS29, hk29, A29.1, hx0, hx1, hx2, hx3, hcs, hsv, ha0, ha1, ha2, c31_3⟩ (own_p p0 p1 p2 p3 p4 p5) b23_0 b23_1 as29 fF hfit hf0 hf1 c31_4 c31_6 c31_5 c31_7 hd0
      · skip
        by_cases hd1 : x1 = 46
        · exact tail_2_2 l Z a0 hw (s := s) (vmT := T29.vm) ⟨X29, hx, hby, hml, Bd.notSynchronized, Bd.returns, hZ, hown, wS, Z29, e29, N23, hS29, hk29, A29.1, hx0, hx1, hx2, hx3, hcs, hsv, ha0, ha1, ha2, c31_3⟩ (own_p p0 p1 p2 p3 p4 p5) b23_0 b23_1 as29 fF hfit hf0 hf1 c31_4 c31_6 c31_5 c31_7 hd0 hd1
        · skip
          exact tail_2_0 l Z a0 hw (s := s) (vmT := T29.vm) ⟨X29, hx, hby, hml, Bd.notSynchronized, Bd.returns, hZ, hown, wS, Z29, e29, N23, hS29, hk29, A29.1, hx0, hx1, hx2, hx3, hcs, hsv, ha0, ha1, ha2, c31_3⟩ (own_p p0 p1 p2 p3 p4 p5) b23_0 b23_1 as29 fF hfit hf0 hf1 c31_4 c31_6 c31_5 c31_7 hd0 hd1
  · rw [hn]
    show Go p e below _ (T4.setTop (mkF m 45 #[sI p0, sI p1, sI p2, sI p3, sI p4, sI p5, sI 3, sI x0, sI x1, sI x2, sI x3, .unset, .unset, .unset, .unset, .unset] []))
    refine Vi (T4.setTop (mkF m 55 #[sI p0, sI p1, sI p2, sI p3, sI p4, sI p5, sI 3, sI x0, sI x1, sI x2, sI x3, .unset, .unset, .unset, .unset, .unset] [(.int x3), (.int x2), (.int x1), (.int x0), (.int 3)])) (fun tZ kZ => ?_) ?_
    · refine XS.iload X4.here hx rfl (hb hby at_45) rfl ?_
      refine XS.iload X4.here hx rfl (hb hby at_47) rfl ?_
      refine XS.iload X4.here hx rfl (hb hby at_49) rfl ?_
      refine XS.iload X4.here hx rfl (hb hby at_51) rfl ?_
      refine XS.iload X4.here hx rfl (hb hby at_53) rfl ?_
      exact kZ
    obtain ⟨_, _, ⟨T32, L32, k32, n32⟩, -, X32, ⟨Lc32, hQ32, l32, y32, z32⟩, st32⟩ := Jvm.LawKit.callS X4 hx (y := y2) hown (wz hZ hw 5 rfl) (wz hZ hw 6 rfl) (wz hZ hw 3 rfl) (wz hZ hw 7 rfl) (by decide) (backOf (W := 0) (rm2n3 l Z a0 hw [] x0 x1 x2 x3 cs h0 n0 Z0 (ha0.ext ha3.2) hx0 hx1 hx2 hcs) hZ (wq hw 7 rfl) (wq hw 3 rfl) (by decide) (by decide)) (g := (mkF m 55 #[sI p0, sI p1, sI p2, sI p3, sI p4, sI p5, sI 3, sI x0, sI x1, sI x2, sI x3, .unset, .unset, .unset, .unset, .unset] [(.int x3), (.int x2), (.int x1), (.int x0), (.int 3)])) rfl (by rw [hml]; rfl) (argsL := [(.int 3), (.int x0), (.int x1), (.int x2), (.int x3)]) (rest := []) (lenOf pd_1 rfl) rfl (leW rfl) (hb hby at_55) (fun _ _ => ⟨rfl, e4, (by decide : 0 + 0 + 0 + 0 + 0 + 3 ≤ _), (by decide : 0 + 0 + 0 + 0 + 0 + 10 ≤ _)⟩)
    dsimp only [Pt.U, Pt.locs, Pt.cells, Pt.slots] at X32 l32 y32 z32 st32 hQ32
    subst l32 y32 z32
    obtain ⟨b32_0, b32_1, rfl, N32q, Kq32, hz_b32_0, hz_b32_1, f32_0, f32_1, f32_2, f32_3, f32_4⟩ := hQ32
    have g_b32_0 : n0 ≤ b32_0 := Nat.le_trans Z0 hz_b32_0
    have sz_b32_0 : h0.size ≤ b32_0 := Nat.le_trans ((Keep.refl h0 [])).1 hz_b32_0
    have g_b32_1 : n0 ≤ b32_1 := Nat.le_trans Z0 hz_b32_1
    have sz_b32_1 : h0.size ≤ b32_1 := Nat.le_trans ((Keep.refl h0 [])).1 hz_b32_1
    have Ac33 := CHr.keep Kq32 all0 hCH
    have CR33c := CHr.trans (CHr.refl hCH) Ac33
    have c34_3 := ha3.keep Kq32 all0
    have c34_1 := ha1.ext c34_3.2
    have c34_2 := ha2.ext c34_3.2
    have K32 : Keep h0 T32.heap [] := (Keep.refl h0 []).trans Kq32 all0
    have Z32 := Nat.le_trans Z0 Kq32.1
    have N32 := Fr.app N4 N32q
    refine Go.via st32 ?_
    obtain ⟨fF, hfE⟩ : ∃ f : Nat → Int32, f = (up (up (up (fun _ => (0 : Int32)) (0 : Int32).toNatClampNeg (nar .byte (((up (up (up (fun _ => (0 : Int32)) (0 : Int32).toNatClampNeg (nar .char x0)) (1 : Int32).toNatClampNeg (nar .char x1)) (2 : Int32).toNatClampNeg (nar .char x2)) (0 : Int32).toNatClampNeg).toInt8.toInt32))) (1 : Int32).toNatClampNeg (nar .byte (((up (up (up (fun _ => (0 : Int32)) (0 : Int32).toNatClampNeg (nar .char x0)) (1 : Int32).toNatClampNeg (nar .char x1)) (2 : Int32).toNatClampNeg (nar .char x2)) (1 : Int32).toNatClampNeg).toInt8.toInt32))) (2 : Int32).toNatClampNeg (nar .byte (((up (up (up (fun _ => (0 : Int32)) (0 : Int32).toNatClampNeg (nar .char x0)) (1 : Int32).toNatClampNeg (nar .char x1)) (2 : Int32).toNatClampNeg (nar .char x2)) (2 : Int32).toNatClampNeg).toInt8.toInt32))) := ⟨_, rfl⟩
    rw [← hfE] at f32_4
    have hfit : ∀ k, k < 3 → fits .byte (.int (fF k)) = true := by rw [hfE]; exact (fun k hk => by match k, hk with | 0, _ => exact fits_nar_byte _ | 1, _ => exact fits_nar_byte _ | 2, _ => exact fits_nar_byte _ | k + 3, hk => exact absurd hk (by omega))
    have hf0 : fF (0 : Int32).toNatClampNeg = nar .byte ((nar .char x0).toInt8.toInt32) := by rw [hfE]; rfl
    have hf1 : fF (1 : Int32).toNatClampNeg = nar .byte ((nar .char x1).toInt8.toInt32) := by rw [hfE]; rfl
    have hf2 : fF (2 : Int32).toNatClampNeg = nar .byte ((nar .char x2).toInt8.toInt32) := by rw [hfE]; rfl
    refine Vi (T32.setTop (mkF m 66 #[sI p0, sI p1, sI p2, sI p3, sI p4, sI p5, sI 3, sI x0, sI x1, sI x2, sI x3, sR b32_0, .unset, .unset, .unset, .unset] [(.int ((p5 >>> ((4 : Int32) &&& 31)) &&& (1 : Int32)))])) (fun tZ kZ => ?_) ?_
    · refine XS.astore X32.here hx rfl (hb hby at_58) rfl rfl (l' := #[sI p0, sI p1, sI p2, sI p3, sI p4, sI p5, sI 3, sI x0, sI x1, sI x2, sI x3, sR b32_0, .unset, .unset, .unset, .unset]) rfl ?_
      refine XS.iload X32.here hx rfl (hb hby at_60) rfl ?_
      refine XS.iconst X32.here hx rfl (hb hby at_62) ?_
      refine XS.ishr X32.here hx rfl (hb hby at_63) rfl ?_
      refine XS.iconst X32.here hx rfl (hb hby at_64) ?_
      refine XS.iand X32.here hx rfl (hb hby at_65) rfl ?_
      exact kZ
    by_cases hc66 : ((p5 >>> ((4 : Int32) &&& 31)) &&& (1 : Int32)) = (0 : Int32)
    · refine Vi (T32.setTop (mkF m 74 #[sI p0, sI p1, sI p2, sI p3, sI p4, sI p5, sI 3, sI x0, sI x1, sI x2, sI x3, sR b32_0, .unset, .unset, .unset, .unset] [])) (fun tZ kZ => ?_) ?_
      · show Steps p.tables e below (T32.setTop (mkF m 66 #[sI p0, sI p1, sI p2, sI p3, sI p4, sI p5, sI 3, sI x0, sI x1, sI x2, sI x3, sR b32_0, .unset, .unset, .unset, .unset] [(.int ((p5 >>> ((4 : Int32) &&& 31)) &&& (1 : Int32)))])) _
        refine XS.ifYes X32.here hx rfl (pc0 := 66) (pc' := 74) rfl (hb hby at_66) rfl ((if0 _ _).trans (teq hc66).1) (by decide) (by decide) ?_
        exact kZ
      obtain ⟨as35, T35, h35, kk35, ab35, kc35, X35, e35, E35, hS35, hk35, hZ, hown, Ea35, Fc35, Fv35, Ar35, -, -, A35, -, nS35, st35⟩ := ldcCH (s := s) (vm0 := s.vm) (EL := own_EL) X32 hx hZ hown (wq hw 30 rfl) wS rfl hS0 (Nat.zero_le _) (own_EW hw) (by simp [own_EL]) Ac33.1 (vs := ([113, 46, 114] : List Int32).map Value.int) (z := 3) ⟨by decide, by decide +kernel⟩ (by decide) rfl (g := (mkF m 74 #[sI p0, sI p1, sI p2, sI p3, sI p4, sI p5, sI 3, sI x0, sI x1, sI x2, sI x3, sR b32_0, .unset, .unset, .unset, .unset] [])) rfl (hb hby at_74) (n := 64) (by decide) (by decide) (by decide) (by decide)
      have CR36c := CHr.trans CR33c A35
      have c37_3 := c34_3.ext E35
      have c37_0 := ha0.ext c37_3.2
      have c37_1 := ha1.ext c37_3.2
      have c37_2 := ha2.ext c37_3.2
      have c37_4 := f32_1.ext E35
      have c37_5 := f32_2.ext E35
      have c37_6 := f32_3.ext E35
      have c37_7 := f32_4.ext E35
      have Va35 := AV.ofArv Ar35 (n := 3) rfl (by decide)
      have K35 : Keep h0 h35 [] := K32.ext E35
      have Z35 := Nat.le_trans Z32 E35.1
      refine Go.via st35 ?_
      refine Vi (T35.setTop (mkF m 78 #[sI p0, sI p1, sI p2, sI p3, sI p4, sI p5, sI 3, sI x0, sI x1, sI x2, sI x3, sR b32_0, sR as35, .unset, .unset, .unset] [])) (fun tZ kZ => ?_) ?_
      · refine XS.astore X35.here hx rfl (hb hby at_76) rfl rfl (l' := #[sI p0, sI p1, sI p2, sI p3, sI p4, sI p5, sI 3, sI x0, sI x1, sI x2, sI x3, sR b32_0, sR as35, .unset, .unset, .unset]) rfl ?_
        exact kZ
      by_cases hd0 : x0 = 46
      · exact tail_3_1 l Z a0 hw (s := s) (vmT := T35.vm) ⟨X35, hx, hby, hml, Bd.notSynchronized, Bd.returns, hZ, hown, wS, Z35, e35, N32, hS35, hk35, A35.1, hx0, hx1, hx2, hx3, hcs, hsv, ha0, ha1, ha2, c37_3⟩ (own_p p0 p1 p2 p3 p4 p5) b32_0 b32_1 as35 fF hfit hf0 hf1 hf2 c37_4 c37_6 c37_5 c37_7 hd0
      · skip
        by_cases hd1 : x1 = 46
        · exact tail_3_2 l Z a0 hw (s := s) (vmT := T35.vm) ⟨X35, hx, hby, hml, Bd.notSynchronized, Bd.returns, hZ, hown, wS, Z35, e35, N32, hS35, hk35, A35.1, hx0, hx1, hx2, hx3, hcs, hsv, ha0, ha1, ha2, c37_3⟩ (own_p p0 p1 p2 p3 p4 p5) b32_0 b32_1 as35 fF hfit hf0 hf1 hf2 c37_4 c37_6 c37_5 c37_7 hd0 hd1
        · skip
          by_cases hd2 : x2 = 46
          · exact tail_3_3 l Z a0 hw (s := s) (vmT := T35.vm) ⟨X35, hx, hby, hml, Bd.notSynchronized, Bd.returns, hZ, hown, wS, Z35, e35, N32, hS35, hk35, A35.1, hx0, hx1, hx2, hx3, hcs, hsv, ha0, ha1, ha2, c37_3⟩ (own_p p0 p1 p2 p3 p4 p5) b32_0 b32_1 as35 fF hfit hf0 hf1 hf2 c37_4 c37_6 c37_5 c37_7 hd0 hd1 hd2
          · skip
            exact tail_3_0 l Z a0 hw (s := s) (vmT := T35.vm) ⟨X35, hx, hby, hml, Bd.notSynchronized, Bd.returns, hZ, hown, wS, Z35, e35, N32, hS35, hk35, A35.1, hx0, hx1, hx2, hx3, hcs, hsv, ha0, ha1, ha2, c37_3⟩ (own_p p0 p1 p2 p3 p4 p5) b32_0 b32_1 as35 fF hfit hf0 hf1 hf2 c37_4 c37_6 c37_5 c37_7 hd0 hd1 hd2
    · refine Vi (T32.setTop (mkF m 69 #[sI p0, sI p1, sI p2, sI p3, sI p4, sI p5, sI 3, sI x0, sI x1, sI x2, sI x3, sR b32_0, .unset, .unset, .unset, .unset] [])) (fun tZ kZ => ?_) ?_
      · show Steps p.tables e below (T32.setTop (mkF m 66 #[sI p0, sI p1, sI p2, sI p3, sI p4, sI p5, sI 3, sI x0, sI x1, sI x2, sI x3, sR b32_0, .unset, .unset, .unset, .unset] [(.int ((p5 >>> ((4 : Int32) &&& 31)) &&& (1 : Int32)))])) _
        refine XS.ifNo X32.here hx rfl (hb hby at_66) rfl ((if0 _ _).trans (feq hc66).1) ?_
        exact kZ
      obtain ⟨as38, T38, h38, kk38, ab38, kc38, X38, e38, E38, hS38, hk38, hZ, hown, Ea38, Fc38, Fv38, Ar38, -, -, A38, -, nS38, st38⟩ := ldcCH (s := s) (vm0 := s.vm) (EL := own_EL) X32 hx hZ hown (wq hw 165 rfl) wS rfl hS0 (Nat.zero_le _) (own_EW hw) (by simp [own_EL]) Ac33.1 (vs := ([] : List Int32).map Value.int) (z := 0) ⟨by decide, by decide +kernel⟩ (by decide) rfl (g := (mkF m 69 #[sI p0, sI p1, sI p2, sI p3, sI p4, sI p5, sI 3, sI x0, sI x1, sI x2, sI x3, sR b32_0, .unset, .unset, .unset, .unset] [])) rfl (hb hby at_69) (n := 64) (by decide) (by decide) (by decide) (by decide)
      have CR39c := CHr.trans CR33c A38
      have c40_3 := c34_3.ext E38
      have c40_0 := ha0.ext c40_3.2
      have c40_1 := ha1.ext c40_3.2
      have c40_2 := ha2.ext c40_3.2
      have c40_4 := f32_1.ext E38
      have c40_5 := f32_2.ext E38
      have c40_6 := f32_3.ext E38
      have c40_7 := f32_4.ext E38
      have Va38 := AV.ofArv Ar38 (n := 0) rfl (by decide)
      have K38 : Keep h0 h38 [] := K32.ext E38
      have Z38 := Nat.le_trans Z32 E38.1
      refine Go.via st38 ?_
      refine Vi (T38.setTop (mkF m 78 #[sI p0, sI p1, sI p2, sI p3, sI p4, sI p5, sI 3, sI x0, sI x1, sI x2, sI x3, sR b32_0, sR as38, .unset, .unset, .unset] [])) (fun tZ kZ => ?_) ?_
      · refine XS.goto X38.here hx rfl (pc0 := 71) (pc' := 76) rfl (hb hby at_71) (by decide) (by decide) ?_
        refine XS.astore X38.here hx rfl (hb hby at_76) rfl rfl (l' := #[sI p0, sI p1, sI p2, sI p3, sI p4, sI p5, sI 3, sI x0, sI x1, sI x2, sI x3, sR b32_0, sR as38, .unset, .unset, .unset]) rfl ?_
        exact kZ
      by_cases hd0 : x0 = 46
      · exact tail_3_1 l Z a0 hw (s := s) (vmT := T38.vm) ⟨X38, hx, hby, hml, Bd.notSynchronized, Bd.returns, hZ, hown, wS, Z38, e38, N32, hS38, hk38, A38.1, hx0, hx1, hx2, hx3, hcs, hsv, ha0, ha1, ha2, c40_3⟩ (own_p p0 p1 p2 p3 p4 p5) b32_0 b32_1 as38 fF hfit hf0 hf1 hf2 c40_4 c40_6 c40_5 c40_7 hd0
      · skip
        by_cases hd1 : x1 = 46
        · exact tail_3_2 l Z a0 hw (s := s) (vmT := T38.vm) ⟨X38, hx, hby, hml, Bd.notSynchronized, Bd.returns, hZ, hown, wS, Z38, e38, N32, hS38, hk38, A38.1, hx0, hx1, hx2, hx3, hcs, hsv, ha0, ha1, ha2, c40_3⟩ (own_p p0 p1 p2 p3 p4 p5) b32_0 b32_1 as38 fF hfit hf0 hf1 hf2 c40_4 c40_6 c40_5 c40_7 hd0 hd1
        · skip
          by_cases hd2 : x2 = 46
          · exact tail_3_3 l Z a0 hw (s := s) (vmT := T38.vm) ⟨X38, hx, hby, hml, Bd.notSynchronized, Bd.returns, hZ, hown, wS, Z38, e38, N32, hS38, hk38, A38.1, hx0, hx1, hx2, hx3, hcs, hsv, ha0, ha1, ha2, c40_3⟩ (own_p p0 p1 p2 p3 p4 p5) b32_0 b32_1 as38 fF hfit hf0 hf1 hf2 c40_4 c40_6 c40_5 c40_7 hd0 hd1 hd2
          · skip
            exact tail_3_0 l Z a0 hw (s := s) (vmT := T38.vm) ⟨X38, hx, hby, hml, Bd.notSynchronized, Bd.returns, hZ, hown, wS, Z38, e38, N32, hS38, hk38, A38.1, hx0, hx1, hx2, hx3, hcs, hsv, ha0, ha1, ha2, c40_3⟩ (own_p p0 p1 p2 p3 p4 p5) b32_0 b32_1 as38 fF hfit hf0 hf1 hf2 c40_4 c40_6 c40_5 c40_7 hd0 hd1 hd2
  · rw [hn]
    show Go p e below _ (T4.setTop (mkF m 45 #[sI p0, sI p1, sI p2, sI p3, sI p4, sI p5, sI 4, sI x0, sI x1, sI x2, sI x3, .unset, .unset, .unset, .unset, .unset] []))
    refine Vi (T4.setTop (mkF m 55 #[sI p0, sI p1, sI p2, sI p3, sI p4, sI p5, sI 4, sI x0, sI x1, sI x2, sI x3, .unset, .unset, .unset, .unset, .unset] [(.int x3), (.int x2), (.int x1), (.int x0), (.int 4)])) (fun tZ kZ => ?_) ?_
    · refine XS.iload X4.here hx rfl (hb hby at_45) rfl ?_
      refine XS.iload X4.here hx rfl (hb hby at_47) rfl ?_
      refine XS.iload X4.here hx rfl (hb hby at_49) rfl ?_
      refine XS.iload X4.here hx rfl (hb hby at_51) rfl ?_
      refine XS.iload X4.here hx rfl (hb hby at_53) rfl ?_
      exact kZ
    obtain ⟨_, _, ⟨T41, L41, k41, n41⟩, -, X41, ⟨Lc41, hQ41, l41, y41, z41⟩, st41⟩ := Jvm.LawKit.callS X4 hx (y := y2) hown (wz hZ hw 5 rfl) (wz hZ hw 6 rfl) (wz hZ hw 3 rfl) (wz hZ hw 7 rfl) (by decide) (backOf (W := 0) (rm2n4 l Z a0 hw [] x0 x1 x2 x3 cs h0 n0 Z0 (ha0.ext ha3.2) hx0 hx1 hx2 hx3 hcs) hZ (wq hw 7 rfl) (wq hw 3 rfl) (by decide) (by decide)) (g := (mkF m 55 #[sI p0, sI p1, sI p2, sI p3, sI p4, sI p5, sI 4, sI x0, sI x1, sI x2, sI x3, .unset, .unset, .unset, .unset, .unset] [(.int x3), (.int x2), (.int x1), (.int x0), (.int 4)])) rfl (by rw [hml]; rfl) (argsL := [(.int 4), (.int x0), (.int x1), (.int x2), (.int x3)]) (rest := []) (lenOf pd_1 rfl) rfl (leW rfl) (hb hby at_55) (fun _ _ => ⟨rfl, e4, (by decide : 0 + 0 + 0 + 0 + 0 + 3 ≤ _), (by decide : 0 + 0 + 0 + 0 + 0 + 12 ≤ _)⟩)
    dsimp only [Pt.U, Pt.locs, Pt.cells, Pt.slots] at X41 l41 y41 z41 st41 hQ41
    subst l41 y41 z41
    obtain ⟨b41_0, b41_1, rfl, N41q, Kq41, hz_b41_0, hz_b41_1, f41_0, f41_1, f41_2, f41_3, f41_4⟩ := hQ41
    have g_b41_0 : n0 ≤ b41_0 := Nat.le_trans Z0 hz_b41_0
    have sz_b41_0 : h0.size ≤ b41_0 := Nat.le_trans ((Keep.refl h0 [])).1 hz_b41_0
    have g_b41_1 : n0 ≤ b41_1 := Nat.le_trans Z0 hz_b41_1
    have sz_b41_1 : h0.size ≤ b41_1 := Nat.le_trans ((Keep.refl h0 [])).1 hz_b41_1
    have Ac42 := CHr.keep Kq41 all0 hCH
    have CR42c := CHr.trans (CHr.refl hCH) Ac42
    have c43_3 := ha3.keep Kq41 all0
    have c43_1 := ha1.ext c43_3.2
    have c43_2 := ha2.ext c43_3.2
    have K41 : Keep h0 T41.heap [] := (Keep.refl h0 []).trans Kq41 all0
    have Z41 := Nat.le_trans Z0 Kq41.1
    have N41 := Fr.app N4 N41q
    refine Go.via st41 ?_
    obtain ⟨fF, hfE⟩ : ∃ f : Nat → Int32, f = (up (up (up (up (fun _ => (0 : Int32)) (0 : Int32).toNatClampNeg (nar .byte (((up (up (up (up (fun _ => (0 : Int32)) (0 : Int32).toNatClampNeg (nar .char x0)) (1 : Int32).toNatClampNeg (nar .char x1)) (2 : Int32).toNatClampNeg (nar .char x2)) (3 : Int32).toNatClampNeg (nar .char x3)) (0 : Int32).toNatClampNeg).toInt8.toInt32))) (1 : Int32).toNatClampNeg (nar .byte (((up (up (up (up (fun _ => (0 : Int32)) (0 : Int32).toNatClampNeg (nar .char x0)) (1 : Int32).toNatClampNeg (nar .char x1)) (2 : Int32).toNatClampNeg (nar .char x2)) (3 : Int32).toNatClampNeg (nar .char x3)) (1 : Int32).toNatClampNeg).toInt8.toInt32))) (2 : Int32).toNatClampNeg (nar .byte (((up (up (up (up (fun _ => (0 : Int32)) (0 : Int32).toNatClampNeg (nar .char x0)) (1 : Int32).toNatClampNeg (nar .char x1)) (2 : Int32).toNatClampNeg (nar .char x2)) (3 : Int32).toNatClampNeg (nar .char x3)) (2 : Int32).toNatClampNeg).toInt8.toInt32))) (3 : Int32).toNatClampNeg (nar .byte (((up (up (up (up (fun _ => (0 : Int32)) (0 : Int32).toNatClampNeg (nar .char x0)) (1 : Int32).toNatClampNeg (nar .char x1)) (2 : Int32).toNatClampNeg (nar .char x2)) (3 : Int32).toNatClampNeg (nar .char x3)) (3 : Int32).toNatClampNeg).toInt8.toInt32))) := ⟨_, rfl⟩
    rw [← hfE] at f41_4
    have hfit : ∀ k, k < 4 → fits .byte (.int (fF k)) = true := by rw [hfE]; exact (fun k hk => by match k, hk with | 0, _ => exact fits_nar_byte _ | 1, _ => exact fits_nar_byte _ | 2, _ => exact fits_nar_byte _ | 3, _ => exact fits_nar_byte _ | k + 4, hk => exact absurd hk (by omega))
    have hf0 : fF (0 : Int32).toNatClampNeg = nar .byte ((nar .char x0).toInt8.toInt32) := by rw [hfE]; rfl
    have hf1 : fF (1 : Int32).toNatClampNeg = nar .byte ((nar .char x1).toInt8.toInt32) := by rw [hfE]; rfl
    have hf2 : fF (2 : Int32).toNatClampNeg = nar .byte ((nar .char x2).toInt8.toInt32) := by rw [hfE]; rfl
    have hf3 : fF (3 : Int32).toNatClampNeg = nar .byte ((nar .char x3).toInt8.toInt32) := by rw [hfE]; rfl
    refine Vi (T41.setTop (mkF m 66 #[sI p0, sI p1, sI p2, sI p3, sI p4, sI p5, sI 4, sI x0, sI x1, sI x2, sI x3, sR b41_0, .unset, .unset, .unset, .unset] [(.int ((p5 >>> ((4 : Int32) &&& 31)) &&& (1 : Int32)))])) (fun tZ kZ => ?_) ?_
    · refine XS.astore X41.here hx rfl (hb hby at_58) rfl rfl (l' := #[sI p0, sI p1, sI p2, sI p3, sI p4, sI p5, sI 4, sI x0, sI x1, sI x2, sI x3, sR b41_0, .unset, .unset, .unset, .unset]) rfl ?_
      refine XS.iload X41.here hx rfl (hb hby at_60) rfl ?_
      refine XS.iconst X41.here hx rfl (hb hby at_62) ?_
      refine XS.ishr X41.here hx rfl (hb hby at_63) rfl ?_
      refine XS.iconst X41.here hx rfl (hb hby at_64) ?_
      refine XS.iand X41.here hx rfl (hb hby at_65) rfl ?_
      exact kZ
    by_cases hc66 : ((p5 >>> ((4 : Int32) &&& 31)) &&& (1 : Int32)) = (0 : Int32)
    · refine Vi (T41.setTop (mkF m 74 #[sI p0, sI p1, sI p2, sI p3, sI p4, sI p5, sI 4, sI x0, sI x1, sI x2, sI x3, sR b41_0, .unset, .unset, .unset, .unset] [])) (fun tZ kZ => ?_) ?_
      · show Steps p.tables e below (T41.setTop (mkF m 66 #[sI p0, sI p1, sI p2, sI p3, sI p4, sI p5, sI 4, sI x0, sI x1, sI x2, sI x3, sR b41_0, .unset, .unset, .unset, .unset] [(.int ((p5 >>> ((4 : Int32) &&& 31)) &&& (1 : Int32)))])) _
        refine XS.ifYes X41.here hx rfl (pc0 := 66) (pc' := 74) rfl (hb hby at_66) rfl ((if0 _ _).trans (teq hc66).1) (by decide) (by decide) ?_
        exact kZ
      obtain ⟨as44, T44, h44, kk44, ab44, kc44, X44, e44, E44, hS44, hk44, hZ, hown, Ea44, Fc44, Fv44, Ar44, -, -, A44, -, nS44, st44⟩ := ldcCH (s := s) (vm0 := s.vm) (EL := own_EL) X41 hx hZ hown (wq hw 30 rfl) wS rfl hS0 (Nat.zero_le _) (own_EW hw) (by simp [own_EL]) Ac42.1 (vs := ([113, 46, 114] : List Int32).map Value.int) (z := 3) ⟨by decide, by decide +kernel⟩ (by decide) rfl (g := (mkF m 74 #[sI p0, sI p1, sI p2, sI p3, sI p4, sI p5, sI 4, sI x0, sI x1, sI x2, sI x3, sR b41_0, .unset, .unset, .unset, .unset] [])) rfl (hb hby at_74) (n := 64) (by decide) (by decide) (by decide) (by decide)
      have CR45c := CHr.trans CR42c A44
      have c46_3 := c43_3.ext E44
      have c46_0 := ha0.ext c46_3.2
      have c46_1 := ha1.ext c46_3.2
      have c46_2 := ha2.ext c46_3.2
      have c46_4 := f41_1.ext E44
      have c46_5 := f41_2.ext E44
      have c46_6 := f41_3.ext E44
      have c46_7 := f41_4.ext E44
      have Va44 := AV.ofArv Ar44 (n := 3) rfl (by decide)
      have K44 : Keep h0 h44 [] := K41.ext E44
      have Z44 := Nat.le_trans Z41 E44.1
      refine Go.via st44 ?_
      refine Vi (T44.setTop (mkF m 78 #[sI p0, sI p1, sI p2, sI p3, sI p4, sI p5, sI 4, sI x0, sI x1, sI x2, sI x3, sR b41_0, sR as44, .unset, .unset, .unset] [])) (fun tZ kZ => ?_) ?_
      · refine XS.astore X44.here hx rfl (hb hby at_76) rfl rfl (l' := #[sI p0, sI p1, sI p2, sI p3, sI p4, sI p5, sI 4, sI x0, sI x1, sI x2, sI x3, sR b41_0, sR as44, .unset, .unset, .unset]) rfl ?_
        exact kZ
      by_cases hd0 : x0 = 46
      · exact tail_4_1 l Z a0 hw (s := s) (vmT := T44.vm) ⟨X44, hx, hby, hml, Bd.notSynchronized, Bd.returns, hZ, hown, wS, Z44, e44, N41, hS44, hk44, A44.1, hx0, hx1, hx2, hx3, hcs, hsv, ha0, ha1, ha2, c46_3⟩ (own_p p0 p1 p2 p3 p4 p5) b41_0 b41_1 as44 fF hfit hf0 hf1 hf2 hf3 c46_4 c46_6 c46_5 c46_7 hd0
      · skip
        by_cases hd1 : x1 = 46
        · exact tail_4_2 l Z a0 hw (s := s) (vmT := T44.vm) ⟨X44, hx, hby, hml, Bd.notSynchronized, Bd.returns, hZ, hown, wS, Z44, e44, N41, hS44, hk44, A44.1, hx0, hx1, hx2, hx3, hcs, hsv, ha0, ha1, ha2, c46_3⟩ (own_p p0 p1 p2 p3 p4 p5) b41_0 b41_1 as44 fF hfit hf0 hf1 hf2 hf3 c46_4 c46_6 c46_5 c46_7 hd0 hd1
        · skip
          by_cases hd2 : x2 = 46
          · exact tail_4_3 l Z a0 hw (s := s) (vmT := T44.vm) ⟨X44, hx, hby, hml, Bd.notSynchronized, Bd.returns, hZ, hown, wS, Z44, e44, N41, hS44, hk44, A44.1, hx0, hx1, hx2, hx3, hcs, hsv, ha0, ha1, ha2, c46_3⟩ (own_p p0 p1 p2 p3 p4 p5) b41_0 b41_1 as44 fF hfit hf0 hf1 hf2 hf3 c46_4 c46_6 c46_5 c46_7 hd0 hd1 hd2
          · skip
            by_cases hd3 : x3 = 46
            · exact tail_4_4 l Z a0 hw (s := s) (vmT := T44.vm) ⟨X44, hx, hby, hml, Bd.notSynchronized, Bd.returns, hZ, hown, wS, Z44, e44, N41, hS44, hk44, A44.1, hx0, hx1, hx2, hx3, hcs, hsv, ha0, ha1, ha2, c46_3⟩ (own_p p0 p1 p2 p3 p4 p5) b41_0 b41_1 as44 fF hfit hf0 hf1 hf2 hf3 c46_4 c46_6 c46_5 c46_7 hd0 hd1 hd2 hd3
            · skip
              exact tail_4_0 l Z a0 hw (s := s) (vmT := T44.vm) ⟨X44, hx, hby, hml, Bd.notSynchronized, Bd.returns, hZ, hown, wS, Z44, e44, N41, hS44, hk44, A44.1, hx0, hx1, hx2, hx3, hcs, hsv, ha0, ha1, ha2, c46_3⟩ (own_p p0 p1 p2 p3 p4 p5) b41_0 b41_1 as44 fF hfit hf0 hf1 hf2 hf3 c46_4 c46_6 c46_5 c46_7 hd0 hd1 hd2 hd3
    · refine Vi (T41.setTop (mkF m 69 #[sI p0, sI p1, sI p2, sI p3, sI p4, sI p5, sI 4, sI x0, sI x1, sI x2, sI x3, sR b41_0, .unset, .unset, .unset, .unset] [])) (fun tZ kZ => ?_) ?_
      · show Steps p.tables e below (T41.setTop (mkF m 66 #[sI p0, sI p1, sI p2, sI p3, sI p4, sI p5, sI 4, sI x0, sI x1, sI x2, sI x3, sR b41_0, .unset, .unset, .unset, .unset] [(.int ((p5 >>> ((4 : Int32) &&& 31)) &&& (1 : Int32)))])) _
        refine XS.ifNo X41.here hx rfl (hb hby at_66) rfl ((if0 _ _).trans (feq hc66).1) ?_
        exact kZ
      obtain ⟨as47, T47, h47, kk47, ab47, kc47, X47, e47, E47, hS47, hk47, hZ, hown, Ea47, Fc47, Fv47, Ar47, -, -, A47, -, nS47, st47⟩ := ldcCH (s := s) (vm0 := s.vm) (EL := own_EL) X41 hx hZ hown (wq hw 165 rfl) wS rfl hS0 (Nat.zero_le _) (own_EW hw) (by simp [own_EL]) Ac42.1 (vs := ([] : List Int32).map Value.int) (z := 0) ⟨by decide, by decide +kernel⟩ (by decide) rfl (g := (mkF m 69 #[sI p0, sI p1, sI p2, sI p3, sI p4, sI p5, sI 4, sI x0, sI x1, sI x2, sI x3, sR b41_0, .unset, .unset, .unset, .unset] [])) rfl (hb hby at_69) (n := 64) (by decide) (by decide) (by decide) (by decide)
      have CR48c := CHr.trans CR42c A47
      have c49_3 := c43_3.ext E47
      have c49_0 := ha0.ext c49_3.2
      have c49_1 := ha1.ext c49_3.2
      have c49_2 := ha2.ext c49_3.2
      have c49_4 := f41_1.ext E47
      have c49_5 := f41_2.ext E47
      have c49_6 := f41_3.ext E47
      have c49_7 := f41_4.ext E47
      have Va47 := AV.ofArv Ar47 (n := 0) rfl (by decide)
      have K47 : Keep h0 h47 [] := K41.ext E47
      have Z47 := Nat.le_trans Z41 E47.1
      refine Go.via st47 ?_
      refine Vi (T47.setTop (mkF m 78 #[sI p0, sI p1, sI p2, sI p3, sI p4, sI p5, sI 4, sI x0, sI x1, sI x2, sI x3, sR b41_0, sR as47, .unset, .unset, .unset] [])) (fun tZ kZ => ?_) ?_
      · refine XS.goto X47.here hx rfl (pc0 := 71) (pc' := 76) rfl (hb hby at_71) (by decide) (by decide) ?_
        refine XS.astore X47.here hx rfl (hb hby at_76) rfl rfl (l' := #[sI p0, sI p1, sI p2, sI p3, sI p4, sI p5, sI 4, sI x0, sI x1, sI x2, sI x3, sR b41_0, sR as47, .unset, .unset, .unset]) rfl ?_
        exact kZ
      by_cases hd0 : x0 = 46
      · exact tail_4_1 l Z a0 hw (s := s) (vmT := T47.vm) ⟨X47, hx, hby, hml, Bd.notSynchronized, Bd.returns, hZ, hown, wS, Z47, e47, N41, hS47, hk47, A47.1, hx0, hx1, hx2, hx3, hcs, hsv, ha0, ha1, ha2, c49_3⟩ (own_p p0 p1 p2 p3 p4 p5) b41_0 b41_1 as47 fF hfit hf0 hf1 hf2 hf3 c49_4 c49_6 c49_5 c49_7 hd0
      · skip
        by_cases hd1 : x1 = 46
        · exact tail_4_2 l Z a0 hw (s := s) (vmT := T47.vm) ⟨X47, hx, hby, hml, Bd.notSynchronized, Bd.returns, hZ, hown, wS, Z47, e47, N41, hS47, hk47, A47.1, hx0, hx1, hx2, hx3, hcs, hsv, ha0, ha1, ha2, c49_3⟩ (own_p p0 p1 p2 p3 p4 p5) b41_0 b41_1 as47 fF hfit hf0 hf1 hf2 hf3 c49_4 c49_6 c49_5 c49_7 hd0 hd1
        · skip
          by_cases hd2 : x2 = 46
          · exact tail_4_3 l Z a0 hw (s := s) (vmT := T47.vm) ⟨X47, hx, hby, hml, Bd.notSynchronized, Bd.returns, hZ, hown, wS, Z47, e47, N41, hS47, hk47, A47.1, hx0, hx1, hx2, hx3, hcs, hsv, ha0, ha1, ha2, c49_3⟩ (own_p p0 p1 p2 p3 p4 p5) b41_0 b41_1 as47 fF hfit hf0 hf1 hf2 hf3 c49_4 c49_6 c49_5 c49_7 hd0 hd1 hd2
          · skip
            by_cases hd3 : x3 = 46
            · exact tail_4_4 l Z a0 hw (s := s) (vmT := T47.vm) ⟨X47, hx, hby, hml, Bd.notSynchronized, Bd.returns, hZ, hown, wS, Z47, e47, N41, hS47, hk47, A47.1, hx0, hx1, hx2, hx3, hcs, hsv, ha0, ha1, ha2, c49_3⟩ (own_p p0 p1 p2 p3 p4 p5) b41_0 b41_1 as47 fF hfit hf0 hf1 hf2 hf3 c49_4 c49_6 c49_5 c49_7 hd0 hd1 hd2 hd3
            · skip
              exact tail_4_0 l Z a0 hw (s := s) (vmT := T47.vm) ⟨X47, hx, hby, hml, Bd.notSynchronized, Bd.returns, hZ, hown, wS, Z47, e47, N41, hS47, hk47, A47.1, hx0, hx1, hx2, hx3, hcs, hsv, ha0, ha1, ha2, c49_3⟩ (own_p p0 p1 p2 p3 p4 p5) b41_0 b41_1 as47 fF hfit hf0 hf1 hf2 hf3 c49_4 c49_6 c49_5 c49_7 hd0 hd1 hd2 hd3
theorem comes_1 {Post : Tables → Env → Array Value → State → Outcome → State → Prop} (hpost : ∀ tb e args s v u, (limb_1_1.after args s (.returned v) u = true ∧ limb_1_2.after args s (.returned v) u = true ∧ True) → ReturnedEndW s (.returned v) u (Jvm.fieldLocs frame_1_writes args s ++ Jvm.arrayLocs frame_1_arrays args s ++ Jvm.staticLocs frame_1_statics s) 32 4224 → Post tb e args s (.returned v) u) :
    ArmFor flags0 classFile x code maxLocals ret World_1 tables_1 room_1 Calls_1 rest_1 Pre_1 Post := by
  intro l hfl _ _ p e ha hc hk s m args below hf hA hF happ hP
  obtain ⟨hcalls, hrest, hpre⟩ := hP
  obtain ⟨-, -, -, hnamed, -, -, -, hat⟩ := (Spec.applies_iff hf).mp happ
  obtain ⟨hg, hn⟩ := and_e (Cond.before_iff.mp (show (Jvm.Cond.and given_1 narrow_1).before args s = true from hpre))
  obtain ⟨g1, g2⟩ := and_e hg
  obtain ⟨g3, g4⟩ := and_e g2
  obtain ⟨g5, g6⟩ := and_e g4
  obtain ⟨g7, g8⟩ := and_e g6
  obtain ⟨g9, g10⟩ := and_e g8
  obtain ⟨g11, g12⟩ := and_e g10
  obtain ⟨w0, w1, w2, w3, w4, w5, rfl⟩ : ∃ w0 w1 w2 w3 w4 w5 : Value, args = #[w0, w1, w2, w3, w4, w5] := by
    have hs : args.size = 6 := by simpa [Cond.value, given_1] using g1
    obtain ⟨L⟩ := args
    match L, hs with
    | [w0, w1, w2, w3, w4, w5], _ => exact ⟨w0, w1, w2, w3, w4, w5, rfl⟩
  have hw := fun d (hd : d ∈ tables_1) => atoms_spec (ws := Jvm.Cond.code x code maxLocals ret :: tables_1) hat d (List.mem_cons_of_mem _ hd)
  have hfit : Fit s := fun {y c} hc i hi => by
    obtain ⟨ha, rfl⟩ := Array.getElem?_eq_some_iff.mp hc
    have q := List.all_eq_true.mp ((Array.all_eq_true_iff_forall_mem.mp hF) _ (Array.getElem_mem ha)) i (List.mem_range.mpr hi)
    simpa [Array.getElem?_eq_getElem hi] using q
  obtain ⟨hsets, hown0⟩ := atoms_of _ (rest_1_c_eq ▸ (show rest_1_c.before _ s = true from hrest))
  have hr0 := Cond.before_iff.mp hown0
  obtain ⟨i0, ei0⟩ := is_v g3
  obtain rfl : w0 = (.int i0) := Option.some.inj ei0
  obtain ⟨i1, ei1⟩ := is_v g5
  obtain rfl : w1 = (.int i1) := Option.some.inj ei1
  obtain ⟨i2, ei2⟩ := is_v g7
  obtain rfl : w2 = (.int i2) := Option.some.inj ei2
  obtain ⟨i3, ei3⟩ := is_v g9
  obtain rfl : w3 = (.int i3) := Option.some.inj ei3
  obtain ⟨i4, ei4⟩ := is_v g11
  obtain rfl : w4 = (.int i4) := Option.some.inj ei4
  obtain ⟨i5, ei5⟩ := is_v g12
  obtain rfl : w5 = (.int i5) := Option.some.inj ei5
  obtain ⟨em, evEM⟩ := exa_v (Cond.before_iff.mp (hsets _ (List.mem_of_getElem? (i := 2) rfl)))
  have S_EM : Sta s s.heap "java/util/Optional" "EMPTY" "Ljava/util/Optional;" (.ref em) := Sta.start evEM (Or.inl (hsets _ (List.mem_of_getElem? (i := 1) rfl)))
  obtain ⟨cs, evCS⟩ := is_v (Cond.before_iff.mp (hsets _ (List.mem_of_getElem? (i := 5) rfl)))
  have S_CS : Sta s s.heap "java/lang/String" "COMPACT_STRINGS" "Z" (.int cs) := Sta.start evCS (Or.inl (hsets _ (List.mem_of_getElem? (i := 4) rfl)))
  have hcs : ¬ cs = 0 := gotF (Cond.eq_ints evCS (Term.int_eval 0)) (not_v (Cond.before_iff.mp (hsets _ (List.mem_of_getElem? (i := 6) rfl))))
  obtain ⟨sv, evSV, hsv⟩ := isR_v (Cond.before_iff.mp (hsets _ (List.mem_of_getElem? (i := 12) rfl)))
  have S_SV : Sta s s.heap "jdk/internal/util/Preconditions" "SIOOBE_FORMATTER" "Ljava/util/function/BiFunction;" sv := Sta.start evSV (Or.inl (hsets _ (List.mem_of_getElem? (i := 11) rfl)))
  have hCH : CHv s own_EL s.vm s.heap := CHv.start (own_EW hw) (fun p hp => hcalls.1 p (by revert p; decide)) (hsets _ (List.mem_of_getElem? (i := 6) rfl)) (wq hw 23 rfl) (wq hw 9 rfl)
  obtain ⟨n, o, h1, h2, h3, _, L, rfl, ⟨rfl, N⟩, hq⟩ := rm0 l s _ hw tables_1 i0 i1 i2 i3 i4 i5 cs sv em s.heap s.heap.size (Nat.le_refl _) S_CS S_SV S_EM (Old.start s) hcs hsv p e ha hc hk s m _ below hf ((Spec.applies_iff_loose hf).mp happ).1 ⟨rfl, State.Warmed39.refl s, rfl, hCH⟩ trivial
  refine ⟨n, _, h1, h2, h3, hpost _ _ _ _ _ _ ⟨Cond.after_iff.mpr rfl, Cond.after_iff.mpr (eq_i res_at (Term.int_eval (1)) rfl), trivial⟩ ⟨hq.1, hq.2.1, hq.2.2.1, (hq.2.2.2.sift fun y hy => Or.inr (N y hy)).mono (by decide) (by decide)⟩⟩
theorem main_1_1 : Claimed_1_1 := comes_1 fun _ _ _ _ _ _ h hF => ⟨h.1, hF⟩
theorem main_1_2 : Claimed_1_2 := comes_1 fun _ _ _ _ _ _ h hF => ⟨h.2.1, hF⟩
end Jvm.Pilot.@@N@@
namespace Jvm.Pilot.@@N@@
open Jvm Jvm.ClassFile Sem Op Lib Jvm.Free Jvm.Stand Jvm.Pilot.@@N@@.Jvm.D
/-! MADE BY PROGRAM (witnessworld.py) out of the Statement's table words and the real class files: 25 classes; the members and pool entries that the words name. The judged class is class 1, her method 1. -/
namespace start1
open Jvm.ClassFile
def u (s : String) : CpInfo := .utf8 (stringToUtf16 s)
/-- a pool by its gaps: so many unusable entries, then the entry; so many at the end -/
def gap : Nat → List CpInfo → List CpInfo
  | 0, r => r
  | n + 1, r => .unusable :: gap n r
def poolList (es : List (Nat × CpInfo)) (last : Nat) : List CpInfo := es.foldr (fun e r => gap e.1 (e.2 :: r)) (gap last [])
def pool (es : List (Nat × CpInfo)) (last : Nat) : Array CpInfo := ⟨poolList es last⟩
def fileOf (pool : Array CpInfo) (this : Nat) (attrs : Array Attribute := #[]) (ms : Array MethodInfo := #[]) (fl : Nat := 33) (sup : Nat := 0) (ifs : Array Nat := #[]) (fds : Array FieldInfo := #[]) : ClassFile where
  minorVersion := 0
  majorVersion := 65
  constantPool := pool
  accessFlags := fl
  thisClass := this
  superClass := sup
  interfaces := ifs
  fields := fds
  methods := ms
  attributes := attrs
def plain (name : String) (sup : Option ClassId) : Class where
  name := name
  kind := .ordinary
  loader := none
  accessFlags := 33
  super := sup
  interfaces := #[]
  cf := none
  fields := #[]
  methods := #[]
  instanceTypes := #[]
  staticTypes := #[]
  resolved := #[]
  callSites := []
  init := .initialized
  statics := none
  mirror := none

def pool0 : Array CpInfo := pool [(5, u "<init>"), (0, u "()V"), (1, .class_ 10), (1, u "java/lang/Object")] 113

def k0c0 : Code := { maxStack := 0, maxLocals := 1, code := object_method_1_code, exceptionTable := #[], attributes := #[] }
def k0m0 : Method := { name := "<init>", desc := "()V", sig := { parameters := [], returnType := none }, accessFlags := 1, code := some k0c0 }
/-- java/lang/Object -/
def k0 : Class := { plain "java/lang/Object" none with
  accessFlags := 33
  interfaces := #[]
  cf := some (fileOf pool0 8 #[] #[{ accessFlags := 1, nameIndex := 5, descriptorIndex := 6, attributes := #[] }] 33 0 #[] #[])
  fields := #[]
  methods := #[k0m0]
  instanceTypes := #[]
  staticTypes := #[]
  resolved := Array.replicate 124 none
  statics := none }

def pool1 : Array CpInfo := pool [(2, .class_ 4), (1, u "java/lang/Object"), (0, u "<init>"), (0, u "()V"), (0, .integer 2147483647), (0, .methodref 9 10), (0, .class_ 11), (0, .nameAndType 12 13), (0, u "com/example/bindery/bindery/compiler/JavaTypeOuterNamePinLaw"), (0, u "pick"), (0, u "(III)C"), (0, .methodref 9 15), (0, .nameAndType 16 17), (0, u "make"), (0, u "(ICCCC)Ljava/lang/String;"), (0, .string 19), (0, u ""), (0, .string 21), (0, u "q.r"), (0, .class_ 23), (0, u "com/example/bindery/bindery/compiler/JavaType"), (0, .methodref 22 25), (0, .nameAndType 5 26), (0, u "(Ljava/lang/String;Ljava/lang/String;)V"), (0, .methodref 22 28), (0, .nameAndType 29 30), (0, u "outerName"), (0, u "()Ljava/lang/String;"), (0, .methodref 32 33), (0, .class_ 34), (0, .nameAndType 35 36), (0, u "java/lang/String"), (0, u "length"), (0, u "()I"), (0, .methodref 32 38), (0, .nameAndType 39 40), (0, u "charAt"), (0, u "(I)C"), (0, .methodref 32 42), (0, .nameAndType 5 43), (0, u "([C)V"), (2, u "law"), (0, u "(IIIIII)Z")] 3

def k1m0 : Method := { name := "<init>", desc := "()V", sig := { parameters := [], returnType := none }, accessFlags := 1, code := none }
def k1c1 : Code := { maxStack := 5, maxLocals := 16, code := code, exceptionTable := #[], attributes := #[] }
def k1m1 : Method := { name := "law", desc := "(IIIIII)Z", sig := { parameters := [.int, .int, .int, .int, .int, .int], returnType := some .boolean }, accessFlags := 9, code := some k1c1 }
def k1c2 : Code := { maxStack := 2, maxLocals := 3, code := method_3_code, exceptionTable := #[], attributes := #[] }
def k1m2 : Method := { name := "pick", desc := "(III)C", sig := { parameters := [.int, .int, .int], returnType := some .char }, accessFlags := 10, code := some k1c2 }
def k1c3 : Code := { maxStack := 6, maxLocals := 5, code := method_4_code, exceptionTable := #[], attributes := #[] }
def k1m3 : Method := { name := "make", desc := "(ICCCC)Ljava/lang/String;", sig := { parameters := [.int, .char, .char, .char, .char], returnType := some (.object "java/lang/String") }, accessFlags := 10, code := some k1c3 }
/-- com/example/bindery/bindery/compiler/JavaTypeOuterNamePinLaw -/
def k1 : Class := { plain "com/example/bindery/bindery/compiler/JavaTypeOuterNamePinLaw" (some 0) with
  accessFlags := 49
  interfaces := #[]
  cf := some (fileOf pool1 9 #[] #[{ accessFlags := 1, nameIndex := 5, descriptorIndex := 6, attributes := #[] }, { accessFlags := 9, nameIndex := 46, descriptorIndex := 47, attributes := #[] }, { accessFlags := 10, nameIndex := 12, descriptorIndex := 13, attributes := #[] }, { accessFlags := 10, nameIndex := 16, descriptorIndex := 17, attributes := #[] }] 49 2 #[] #[])
  fields := #[]
  methods := #[k1m0, k1m1, k1m2, k1m3]
  instanceTypes := #[]
  staticTypes := #[]
  resolved := Array.replicate 51 none
  statics := none }

def pool2 : Array CpInfo := pool [(1, .class_ 2), (0, u "java/io/Serializable"), (0, .class_ 4), (0, u "java/lang/Object")] 2

/-- java/io/Serializable -/
def k2 : Class := { plain "java/io/Serializable" (some 0) with
  accessFlags := 1537
  interfaces := #[]
  cf := some (fileOf pool2 1 #[] #[] 1537 3 #[] #[])
  fields := #[]
  methods := #[]
  instanceTypes := #[]
  staticTypes := #[]
  resolved := Array.replicate 7 none
  statics := none }

def pool3 : Array CpInfo := pool [(1, .class_ 2), (0, u "java/lang/Comparable"), (0, .class_ 4), (0, u "java/lang/Object")] 7

/-- java/lang/Comparable -/
def k3 : Class := { plain "java/lang/Comparable" (some 0) with
  accessFlags := 1537
  interfaces := #[]
  cf := some (fileOf pool3 1 #[] #[] 1537 3 #[] #[])
  fields := #[]
  methods := #[]
  instanceTypes := #[]
  staticTypes := #[]
  resolved := Array.replicate 12 none
  statics := none }

def pool4 : Array CpInfo := pool [(2, .class_ 4), (1, u "java/lang/CharSequence"), (42, .class_ 48), (0, u "java/lang/CharSequence$1CodePointIterator"), (10, .class_ 60), (0, u "java/lang/CharSequence$1CharIterator"), (5, .class_ 67), (0, u "java/lang/Object")] 63

/-- java/lang/CharSequence -/
def k4 : Class := { plain "java/lang/CharSequence" (some 0) with
  accessFlags := 1537
  interfaces := #[]
  cf := some (fileOf pool4 2 #[.nestMembers #[47, 59]] #[] 1537 66 #[] #[])
  fields := #[]
  methods := #[]
  instanceTypes := #[]
  staticTypes := #[]
  resolved := Array.replicate 131 none
  statics := none }

def pool5 : Array CpInfo := pool [(1, .class_ 2), (0, u "java/lang/constant/Constable"), (0, .class_ 4), (0, u "java/lang/Object")] 6

/-- java/lang/constant/Constable -/
def k5 : Class := { plain "java/lang/constant/Constable" (some 0) with
  accessFlags := 1537
  interfaces := #[]
  cf := some (fileOf pool5 1 #[] #[] 1537 3 #[] #[])
  fields := #[]
  methods := #[]
  instanceTypes := #[]
  staticTypes := #[]
  resolved := Array.replicate 11 none
  statics := none }

def pool6 : Array CpInfo := pool [(1, .class_ 2), (0, u "java/lang/constant/ConstantDesc"), (0, .class_ 4), (0, u "java/lang/Object")] 32

/-- java/lang/constant/ConstantDesc -/
def k6 : Class := { plain "java/lang/constant/ConstantDesc" (some 0) with
  accessFlags := 1537
  interfaces := #[]
  cf := some (fileOf pool6 1 #[] #[] 1537 3 #[] #[])
  fields := #[]
  methods := #[]
  instanceTypes := #[]
  staticTypes := #[]
  resolved := Array.replicate 37 none
  statics := none }

def pool7 : Array CpInfo := pool [(1, .methodref 2 3), (0, .class_ 4), (0, .nameAndType 5 6), (0, u "java/lang/Object"), (0, u "<init>"), (0, u "()V"), (0, .string 8), (0, u ""), (0, .fieldref 10 11), (0, .class_ 12), (0, .nameAndType 13 14), (0, u "java/lang/String"), (0, u "value"), (0, u "[B"), (0, .fieldref 10 16), (0, .nameAndType 17 18), (0, u "coder"), (0, u "B"), (2, u "hash"), (0, u "I"), (2, u "hashIsZero"), (0, u "Z"), (0, .methodref 10 28), (0, .nameAndType 5 29), (0, u "([CIILjava/lang/Void;)V"), (8, .fieldref 10 39), (0, .nameAndType 40 26), (0, u "COMPACT_STRINGS"), (1, .class_ 44), (1, u "java/lang/StringUTF16"), (0, u "compress"), (1, .methodref 42 48), (0, .nameAndType 49 50), (0, u "coderFromArrayLen"), (0, u "([BI)B"), (56, .class_ 109), (1, u "java/lang/StringLatin1"), (32, u "()Z"), (34, .methodref 42 178), (0, .nameAndType 45 179), (0, u "([CII)[B"), (31, u "([BB)V"), (122, u "()I"), (0, .methodref 10 336), (0, .nameAndType 17 337), (0, u "()B"), (25, u "([BI)C"), (27, u "(II)V"), (35, u "(I)C"), (64, .methodref 10 493), (0, .nameAndType 494 142), (0, u "isLatin1"), (0, .methodref 107 496), (0, .nameAndType 497 363), (0, u "charAt"), (3, u "checkIndex"), (3, .methodref 10 506), (0, .nameAndType 507 334), (0, u "length"), (5, u "checkFromToIndex"), (7, .methodref 10 522), (0, .nameAndType 523 524), (0, u "checkBoundsBeginEnd"), (0, u "(III)V"), (50, .class_ 576), (0, u "java/lang/CharSequence"), (22, u "CASE_INSENSITIVE_ORDER"), (0, u "Ljava/util/Comparator;"), (32, .methodref 10 634), (0, .nameAndType 635 636), (0, u "indexOf"), (0, u "(II)I"), (0, .methodref 107 638), (0, .nameAndType 635 639), (0, u "([BIII)I"), (43, u "substring"), (0, u "(II)Ljava/lang/String;"), (0, .methodref 107 686), (0, .nameAndType 687 688), (0, u "newString"), (0, u "([BII)Ljava/lang/String;"), (76, u "(I)I"), (244, u "([C)V"), (42, .fieldref 1054 1055), (0, .class_ 1056), (0, .nameAndType 1057 1058), (0, u "jdk/internal/util/Preconditions"), (0, u "SIOOBE_FORMATTER"), (0, u "Ljava/util/function/BiFunction;"), (0, .methodref 1054 1060), (0, .nameAndType 501 1061), (0, u "(IILjava/util/function/BiFunction;)I"), (0, .methodref 1054 1063), (0, .nameAndType 513 1064), (0, u "(IIILjava/util/function/BiFunction;)I"), (36, u "serialPersistentFields"), (0, u "[Ljava/io/ObjectStreamField;"), (0, .class_ 1104), (0, u "java/lang/String$CaseInsensitiveComparator"), (1, .class_ 1107), (0, u "java/io/Serializable"), (0, .class_ 1109), (0, u "java/lang/Comparable"), (0, .class_ 1111), (0, u "java/lang/constant/Constable"), (0, .class_ 1113), (0, u "java/lang/constant/ConstantDesc"), (2, u "serialVersionUID"), (0, u "J"), (3, u "REPL"), (0, u "C"), (2, u "LATIN1"), (1, u "UTF16")] 323

def k7m0 : Method := { name := "<init>", desc := "()V", sig := { parameters := [], returnType := none }, accessFlags := 1, code := none }
def k7c1 : Code := { maxStack := 5, maxLocals := 2, code := jdk_42_method_3_code, exceptionTable := #[], attributes := #[] }
def k7m1 : Method := { name := "<init>", desc := "([C)V", sig := { parameters := [(.array .char)], returnType := none }, accessFlags := 1, code := some k7c1 }
def k7c2 : Code := { maxStack := 2, maxLocals := 1, code := jdk_42_method_54_code, exceptionTable := #[], attributes := #[] }
def k7m2 : Method := { name := "length", desc := "()I", sig := { parameters := [], returnType := some .int }, accessFlags := 1, code := some k7c2 }
def k7c3 : Code := { maxStack := 2, maxLocals := 2, code := jdk_42_method_56_code, exceptionTable := #[], attributes := #[] }
def k7m3 : Method := { name := "charAt", desc := "(I)C", sig := { parameters := [.int], returnType := some .char }, accessFlags := 1, code := some k7c3 }
def k7c4 : Code := { maxStack := 3, maxLocals := 2, code := jdk_42_method_79_code, exceptionTable := #[], attributes := #[] }
def k7m4 : Method := { name := "indexOf", desc := "(I)I", sig := { parameters := [.int], returnType := some .int }, accessFlags := 1, code := some k7c4 }
def k7c5 : Code := { maxStack := 4, maxLocals := 3, code := jdk_42_method_80_code, exceptionTable := #[], attributes := #[] }
def k7m5 : Method := { name := "indexOf", desc := "(II)I", sig := { parameters := [.int, .int], returnType := some .int }, accessFlags := 1, code := some k7c5 }
def k7c6 : Code := { maxStack := 3, maxLocals := 5, code := jdk_42_method_92_code, exceptionTable := #[], attributes := #[] }
def k7m6 : Method := { name := "substring", desc := "(II)Ljava/lang/String;", sig := { parameters := [.int, .int], returnType := some (.object "java/lang/String") }, accessFlags := 1, code := some k7c6 }
def k7c7 : Code := { maxStack := 4, maxLocals := 6, code := jdk_42_method_149_code, exceptionTable := #[], attributes := #[] }
def k7m7 : Method := { name := "<init>", desc := "([CIILjava/lang/Void;)V", sig := { parameters := [(.array .char), .int, .int, (.object "java/lang/Void")], returnType := none }, accessFlags := 2, code := some k7c7 }
def k7c8 : Code := { maxStack := 2, maxLocals := 3, code := jdk_42_method_151_code, exceptionTable := #[], attributes := #[] }
def k7m8 : Method := { name := "<init>", desc := "([BB)V", sig := { parameters := [(.array .byte), .byte], returnType := none }, accessFlags := 0, code := some k7c8 }
def k7c9 : Code := { maxStack := 1, maxLocals := 1, code := jdk_42_method_152_code, exceptionTable := #[], attributes := #[] }
def k7m9 : Method := { name := "coder", desc := "()B", sig := { parameters := [], returnType := some .byte }, accessFlags := 0, code := some k7c9 }
def k7c10 : Code := { maxStack := 1, maxLocals := 1, code := jdk_42_method_154_code, exceptionTable := #[], attributes := #[] }
def k7m10 : Method := { name := "isLatin1", desc := "()Z", sig := { parameters := [], returnType := some .boolean }, accessFlags := 0, code := some k7c10 }
def k7c11 : Code := { maxStack := 3, maxLocals := 2, code := jdk_42_method_155_code, exceptionTable := #[], attributes := #[] }
def k7m11 : Method := { name := "checkIndex", desc := "(II)V", sig := { parameters := [.int, .int], returnType := none }, accessFlags := 8, code := some k7c11 }
def k7c12 : Code := { maxStack := 4, maxLocals := 3, code := jdk_42_method_158_code, exceptionTable := #[], attributes := #[] }
def k7m12 : Method := { name := "checkBoundsBeginEnd", desc := "(III)V", sig := { parameters := [.int, .int, .int], returnType := none }, accessFlags := 8, code := some k7c12 }
/-- java/lang/String -/
def k7 : Class := { plain "java/lang/String" (some 0) with
  accessFlags := 49
  interfaces := #[2, 3, 4, 5, 6]
  cf := some (fileOf pool7 10 #[.nestMembers #[1103]] #[{ accessFlags := 1, nameIndex := 5, descriptorIndex := 6, attributes := #[] }, { accessFlags := 1, nameIndex := 5, descriptorIndex := 1010, attributes := #[] }, { accessFlags := 1, nameIndex := 507, descriptorIndex := 334, attributes := #[] }, { accessFlags := 1, nameIndex := 497, descriptorIndex := 427, attributes := #[] }, { accessFlags := 1, nameIndex := 635, descriptorIndex := 765, attributes := #[] }, { accessFlags := 1, nameIndex := 635, descriptorIndex := 636, attributes := #[] }, { accessFlags := 1, nameIndex := 683, descriptorIndex := 684, attributes := #[] }, { accessFlags := 2, nameIndex := 5, descriptorIndex := 29, attributes := #[] }, { accessFlags := 0, nameIndex := 5, descriptorIndex := 211, attributes := #[] }, { accessFlags := 0, nameIndex := 17, descriptorIndex := 337, attributes := #[] }, { accessFlags := 0, nameIndex := 494, descriptorIndex := 142, attributes := #[] }, { accessFlags := 8, nameIndex := 501, descriptorIndex := 391, attributes := #[] }, { accessFlags := 8, nameIndex := 523, descriptorIndex := 524, attributes := #[] }] 49 2 #[1106, 1108, 575, 1110, 1112] #[{ accessFlags := 18, nameIndex := 13, descriptorIndex := 14, attributes := #[] }, { accessFlags := 18, nameIndex := 17, descriptorIndex := 18, attributes := #[] }, { accessFlags := 2, nameIndex := 21, descriptorIndex := 22, attributes := #[] }, { accessFlags := 2, nameIndex := 25, descriptorIndex := 26, attributes := #[] }, { accessFlags := 26, nameIndex := 1116, descriptorIndex := 1117, attributes := #[] }, { accessFlags := 24, nameIndex := 40, descriptorIndex := 26, attributes := #[] }, { accessFlags := 26, nameIndex := 1101, descriptorIndex := 1102, attributes := #[] }, { accessFlags := 26, nameIndex := 1121, descriptorIndex := 1122, attributes := #[] }, { accessFlags := 25, nameIndex := 599, descriptorIndex := 600, attributes := #[] }, { accessFlags := 24, nameIndex := 1125, descriptorIndex := 18, attributes := #[] }, { accessFlags := 24, nameIndex := 1127, descriptorIndex := 18, attributes := #[] }])
  fields := #[{ name := "value", type := (.array .byte), accessFlags := 18, slot := 0, constantValue := 0 }, { name := "coder", type := .byte, accessFlags := 18, slot := 1, constantValue := 0 }, { name := "hash", type := .int, accessFlags := 2, slot := 2, constantValue := 0 }, { name := "hashIsZero", type := .boolean, accessFlags := 2, slot := 3, constantValue := 0 }, { name := "serialVersionUID", type := .long, accessFlags := 26, slot := 0, constantValue := 0 }, { name := "COMPACT_STRINGS", type := .boolean, accessFlags := 24, slot := 1, constantValue := 0 }, { name := "serialPersistentFields", type := (.array (.object "java/io/ObjectStreamField")), accessFlags := 26, slot := 2, constantValue := 0 }, { name := "REPL", type := .char, accessFlags := 26, slot := 3, constantValue := 0 }, { name := "CASE_INSENSITIVE_ORDER", type := (.object "java/util/Comparator"), accessFlags := 25, slot := 4, constantValue := 0 }, { name := "LATIN1", type := .byte, accessFlags := 24, slot := 5, constantValue := 0 }, { name := "UTF16", type := .byte, accessFlags := 24, slot := 6, constantValue := 0 }]
  methods := #[k7m0, k7m1, k7m2, k7m3, k7m4, k7m5, k7m6, k7m7, k7m8, k7m9, k7m10, k7m11, k7m12]
  instanceTypes := #[(.array .byte), .byte, .int, .boolean]
  staticTypes := #[.long, .boolean, (.array (.object "java/io/ObjectStreamField")), .char, (.object "java/util/Comparator"), .byte, .byte]
  resolved := Array.replicate 1451 none
  statics := some 0 }

def pool8 : Array CpInfo := pool [(1, .methodref 2 3), (0, .class_ 4), (0, .nameAndType 5 6), (0, u "java/lang/Object"), (0, u "<init>"), (0, u "()V"), (0, .class_ 8), (0, u "java/lang/Record")] 13

def k8c0 : Code := { maxStack := 1, maxLocals := 1, code := jdk_30_method_1_code, exceptionTable := #[], attributes := #[] }
def k8m0 : Method := { name := "<init>", desc := "()V", sig := { parameters := [], returnType := none }, accessFlags := 4, code := some k8c0 }
/-- java/lang/Record -/
def k8 : Class := { plain "java/lang/Record" (some 0) with
  accessFlags := 1057
  interfaces := #[]
  cf := some (fileOf pool8 7 #[] #[{ accessFlags := 4, nameIndex := 5, descriptorIndex := 6, attributes := #[] }] 1057 2 #[] #[])
  fields := #[]
  methods := #[k8m0]
  instanceTypes := #[]
  staticTypes := #[]
  resolved := Array.replicate 22 none
  statics := none }

def pool9 : Array CpInfo := pool [(1, .methodref 2 3), (0, .class_ 4), (0, .nameAndType 5 6), (0, u "java/lang/Record"), (0, u "<init>"), (0, u "()V"), (0, .fieldref 8 9), (0, .class_ 10), (0, .nameAndType 11 12), (0, u "com/example/bindery/bindery/compiler/JavaType"), (0, u "packageName"), (0, u "Ljava/lang/String;"), (0, .fieldref 8 14), (0, .nameAndType 15 12), (0, u "name"), (0, .fieldref 8 17), (0, .nameAndType 18 19), (0, u "argument"), (0, u "Ljava/util/Optional;"), (0, .methodref 21 22), (0, .class_ 23), (0, .nameAndType 24 25), (0, u "java/util/Optional"), (0, u "empty"), (0, u "()Ljava/util/Optional;"), (0, .methodref 8 27), (0, .nameAndType 5 28), (0, u "(Ljava/lang/String;Ljava/lang/String;Ljava/util/Optional;)V"), (4, u "(Ljava/lang/String;Ljava/lang/String;)V"), (0, .class_ 35), (0, u "com/example/bindery/bindery/compiler/JavaType$Argument"), (8, .class_ 46), (1, u "java/lang/String"), (5, u "(I)I"), (2, u "substring"), (1, .methodref 44 58), (0, .nameAndType 59 52), (0, u "indexOf"), (0, .methodref 44 61), (0, .nameAndType 55 62), (0, u "(II)Ljava/lang/String;"), (25, u "OBJECT"), (0, u "Lcom/example/bindery/bindery/compiler/JavaType;"), (4, u "STRING"), (6, u "SERIALIZABLE"), (6, u "INT"), (4, u "INTEGER"), (6, u "QNAME"), (6, u "MAP"), (6, u "JAXB_ELEMENT"), (6, u "DOM_ELEMENT"), (15, u "()Ljava/lang/String;"), (0, u "outerName")] 38

def k9c0 : Code := { maxStack := 4, maxLocals := 3, code := prog_5_method_1_code, exceptionTable := #[], attributes := #[] }
def k9m0 : Method := { name := "<init>", desc := "(Ljava/lang/String;Ljava/lang/String;)V", sig := { parameters := [(.object "java/lang/String"), (.object "java/lang/String")], returnType := none }, accessFlags := 0, code := some k9c0 }
def k9c1 : Code := { maxStack := 2, maxLocals := 4, code := prog_5_method_2_code, exceptionTable := #[], attributes := #[] }
def k9m1 : Method := { name := "<init>", desc := "(Ljava/lang/String;Ljava/lang/String;Ljava/util/Optional;)V", sig := { parameters := [(.object "java/lang/String"), (.object "java/lang/String"), (.object "java/util/Optional")], returnType := none }, accessFlags := 0, code := some k9c1 }
def k9c2 : Code := { maxStack := 3, maxLocals := 2, code := prog_5_method_9_code, exceptionTable := #[], attributes := #[] }
def k9m2 : Method := { name := "outerName", desc := "()Ljava/lang/String;", sig := { parameters := [], returnType := some (.object "java/lang/String") }, accessFlags := 0, code := some k9c2 }
/-- com/example/bindery/bindery/compiler/JavaType -/
def k9 : Class := { plain "com/example/bindery/bindery/compiler/JavaType" (some 8) with
  accessFlags := 48
  interfaces := #[]
  cf := some (fileOf pool9 8 #[.nestMembers #[34]] #[{ accessFlags := 0, nameIndex := 5, descriptorIndex := 33, attributes := #[] }, { accessFlags := 0, nameIndex := 5, descriptorIndex := 28, attributes := #[] }, { accessFlags := 0, nameIndex := 158, descriptorIndex := 157, attributes := #[] }] 48 2 #[] #[{ accessFlags := 18, nameIndex := 11, descriptorIndex := 12, attributes := #[] }, { accessFlags := 18, nameIndex := 15, descriptorIndex := 12, attributes := #[] }, { accessFlags := 18, nameIndex := 18, descriptorIndex := 19, attributes := #[] }, { accessFlags := 24, nameIndex := 88, descriptorIndex := 89, attributes := #[] }, { accessFlags := 24, nameIndex := 94, descriptorIndex := 89, attributes := #[] }, { accessFlags := 24, nameIndex := 101, descriptorIndex := 89, attributes := #[] }, { accessFlags := 24, nameIndex := 108, descriptorIndex := 89, attributes := #[] }, { accessFlags := 24, nameIndex := 113, descriptorIndex := 89, attributes := #[] }, { accessFlags := 24, nameIndex := 120, descriptorIndex := 89, attributes := #[] }, { accessFlags := 24, nameIndex := 127, descriptorIndex := 89, attributes := #[] }, { accessFlags := 24, nameIndex := 134, descriptorIndex := 89, attributes := #[] }, { accessFlags := 24, nameIndex := 141, descriptorIndex := 89, attributes := #[] }])
  fields := #[{ name := "packageName", type := (.object "java/lang/String"), accessFlags := 18, slot := 0, constantValue := 0 }, { name := "name", type := (.object "java/lang/String"), accessFlags := 18, slot := 1, constantValue := 0 }, { name := "argument", type := (.object "java/util/Optional"), accessFlags := 18, slot := 2, constantValue := 0 }, { name := "OBJECT", type := (.object "com/example/bindery/bindery/compiler/JavaType"), accessFlags := 24, slot := 0, constantValue := 0 }, { name := "STRING", type := (.object "com/example/bindery/bindery/compiler/JavaType"), accessFlags := 24, slot := 1, constantValue := 0 }, { name := "SERIALIZABLE", type := (.object "com/example/bindery/bindery/compiler/JavaType"), accessFlags := 24, slot := 2, constantValue := 0 }, { name := "INT", type := (.object "com/example/bindery/bindery/compiler/JavaType"), accessFlags := 24, slot := 3, constantValue := 0 }, { name := "INTEGER", type := (.object "com/example/bindery/bindery/compiler/JavaType"), accessFlags := 24, slot := 4, constantValue := 0 }, { name := "QNAME", type := (.object "com/example/bindery/bindery/compiler/JavaType"), accessFlags := 24, slot := 5, constantValue := 0 }, { name := "MAP", type := (.object "com/example/bindery/bindery/compiler/JavaType"), accessFlags := 24, slot := 6, constantValue := 0 }, { name := "JAXB_ELEMENT", type := (.object "com/example/bindery/bindery/compiler/JavaType"), accessFlags := 24, slot := 7, constantValue := 0 }, { name := "DOM_ELEMENT", type := (.object "com/example/bindery/bindery/compiler/JavaType"), accessFlags := 24, slot := 8, constantValue := 0 }]
  methods := #[k9m0, k9m1, k9m2]
  instanceTypes := #[(.object "java/lang/String"), (.object "java/lang/String"), (.object "java/util/Optional")]
  staticTypes := #[(.object "com/example/bindery/bindery/compiler/JavaType"), (.object "com/example/bindery/bindery/compiler/JavaType"), (.object "com/example/bindery/bindery/compiler/JavaType"), (.object "com/example/bindery/bindery/compiler/JavaType"), (.object "com/example/bindery/bindery/compiler/JavaType"), (.object "com/example/bindery/bindery/compiler/JavaType"), (.object "com/example/bindery/bindery/compiler/JavaType"), (.object "com/example/bindery/bindery/compiler/JavaType"), (.object "com/example/bindery/bindery/compiler/JavaType")]
  resolved := Array.replicate 197 none
  statics := none }

def pool10 : Array CpInfo := pool [(1, .fieldref 2 3), (0, .class_ 4), (0, .nameAndType 5 6), (0, u "java/util/Optional"), (0, u "EMPTY"), (0, u "Ljava/util/Optional;"), (1, .class_ 10), (1, u "java/lang/Object"), (4, u "value"), (0, u "Ljava/lang/Object;"), (38, u "empty"), (0, u "()Ljava/util/Optional;")] 130

def k10c0 : Code := { maxStack := 1, maxLocals := 1, code := jdk_32_method_1_code, exceptionTable := #[], attributes := #[] }
def k10m0 : Method := { name := "empty", desc := "()Ljava/util/Optional;", sig := { parameters := [], returnType := some (.object "java/util/Optional") }, accessFlags := 9, code := some k10c0 }
/-- java/util/Optional -/
def k10 : Class := { plain "java/util/Optional" (some 0) with
  accessFlags := 49
  interfaces := #[]
  cf := some (fileOf pool10 2 #[] #[{ accessFlags := 9, nameIndex := 55, descriptorIndex := 56, attributes := #[] }] 49 8 #[] #[{ accessFlags := 26, nameIndex := 5, descriptorIndex := 6, attributes := #[] }, { accessFlags := 18, nameIndex := 15, descriptorIndex := 16, attributes := #[] }])
  fields := #[{ name := "EMPTY", type := (.object "java/util/Optional"), accessFlags := 26, slot := 0, constantValue := 0 }, { name := "value", type := (.object "java/lang/Object"), accessFlags := 18, slot := 0, constantValue := 0 }]
  methods := #[k10m0]
  instanceTypes := #[(.object "java/lang/Object")]
  staticTypes := #[(.object "java/util/Optional")]
  resolved := Array.replicate 187 none
  statics := some 1 }

def pool11 : Array CpInfo := pool [(1, .class_ 2), (0, u "java/lang/String"), (1, .class_ 6), (1, u "java/lang/Object"), (0, u "<init>"), (0, u "()V"), (0, .methodref 1 10), (0, .nameAndType 11 12), (0, u "checkIndex"), (0, u "(II)V"), (1, .class_ 16), (1, u "java/lang/StringLatin1"), (21, .methodref 39 40), (0, .class_ 41), (0, .nameAndType 42 43), (0, u "java/lang/Math"), (0, u "min"), (0, u "(II)I"), (9, u "([BI)C"), (34, .methodref 14 89), (0, .nameAndType 90 91), (0, u "canEncode"), (0, u "(I)Z"), (0, .methodref 39 93), (0, .nameAndType 94 43), (0, u "max"), (0, .methodref 14 96), (0, .nameAndType 97 98), (0, u "indexOfChar"), (0, u "([BIII)I"), (2, u "indexOf"), (10, .methodref 1 113), (0, .nameAndType 7 114), (0, u "([BB)V"), (6, u "$assertionsDisabled"), (0, u "Z"), (8, .class_ 133), (1, u "java/util/Arrays"), (17, .string 152), (0, u ""), (43, u "newString"), (0, u "([BII)Ljava/lang/String;"), (23, .class_ 223), (1, u "java/lang/StringLatin1$LinesSpliterator"), (8, .methodref 131 233), (0, .nameAndType 234 235), (0, u "copyOfRange"), (0, u "([BII)[B"), (16, u "charAt"), (137, .class_ 391), (0, u "java/lang/StringLatin1$CharsSpliterator")] 3

def k11m0 : Method := { name := "<init>", desc := "()V", sig := { parameters := [], returnType := none }, accessFlags := 0, code := none }
def k11c1 : Code := { maxStack := 2, maxLocals := 2, code := jdk_43_method_2_code, exceptionTable := #[], attributes := #[] }
def k11m1 : Method := { name := "charAt", desc := "([BI)C", sig := { parameters := [(.array .byte), .int], returnType := some .char }, accessFlags := 9, code := some k11c1 }
def k11c2 : Code := { maxStack := 2, maxLocals := 1, code := jdk_43_method_4_code, exceptionTable := #[], attributes := #[] }
def k11m2 : Method := { name := "canEncode", desc := "(I)Z", sig := { parameters := [.int], returnType := some .boolean }, accessFlags := 9, code := some k11c2 }
def k11c3 : Code := { maxStack := 4, maxLocals := 4, code := jdk_43_method_22_code, exceptionTable := #[], attributes := #[] }
def k11m3 : Method := { name := "indexOf", desc := "([BIII)I", sig := { parameters := [(.array .byte), .int, .int, .int], returnType := some .int }, accessFlags := 9, code := some k11c3 }
def k11c4 : Code := { maxStack := 2, maxLocals := 6, code := jdk_43_method_23_code, exceptionTable := #[], attributes := #[] }
def k11m4 : Method := { name := "indexOfChar", desc := "([BIII)I", sig := { parameters := [(.array .byte), .int, .int, .int], returnType := some .int }, accessFlags := 10, code := some k11c4 }
def k11c5 : Code := { maxStack := 6, maxLocals := 3, code := jdk_43_method_47_code, exceptionTable := #[], attributes := #[] }
def k11m5 : Method := { name := "newString", desc := "([BII)Ljava/lang/String;", sig := { parameters := [(.array .byte), .int, .int], returnType := some (.object "java/lang/String") }, accessFlags := 9, code := some k11c5 }
/-- java/lang/StringLatin1 -/
def k11 : Class := { plain "java/lang/StringLatin1" (some 0) with
  accessFlags := 48
  interfaces := #[]
  cf := some (fileOf pool11 14 #[.nestMembers #[390, 221]] #[{ accessFlags := 0, nameIndex := 7, descriptorIndex := 8, attributes := #[] }, { accessFlags := 9, nameIndex := 252, descriptorIndex := 53, attributes := #[] }, { accessFlags := 9, nameIndex := 90, descriptorIndex := 91, attributes := #[] }, { accessFlags := 9, nameIndex := 101, descriptorIndex := 98, attributes := #[] }, { accessFlags := 10, nameIndex := 97, descriptorIndex := 98, attributes := #[] }, { accessFlags := 9, nameIndex := 196, descriptorIndex := 197, attributes := #[] }] 48 4 #[] #[{ accessFlags := 4120, nameIndex := 121, descriptorIndex := 122, attributes := #[] }])
  fields := #[{ name := "$assertionsDisabled", type := .boolean, accessFlags := 4120, slot := 0, constantValue := 0 }]
  methods := #[k11m0, k11m1, k11m2, k11m3, k11m4, k11m5]
  instanceTypes := #[]
  staticTypes := #[.boolean]
  resolved := Array.replicate 395 none
  statics := none }

def pool12 : Array CpInfo := pool [(1, .class_ 2), (0, u "java/lang/Math"), (1, .class_ 6), (1, u "java/lang/Object"), (0, u "<init>"), (0, u "()V"), (89, .class_ 100), (1, u "java/lang/Math$RandomNumberGeneratorHolder"), (71, u "negativeZeroFloatBits"), (0, u "J"), (2, u "negativeZeroDoubleBits"), (21, u "max"), (2, u "min"), (43, u "$assertionsDisabled"), (0, u "Z"), (88, u "(II)I"), (2, u "twoToTheDoubleScaleDown"), (0, u "D"), (4, u "twoToTheDoubleScaleUp"), (9, u "E"), (3, u "PI"), (2, u "TAU"), (2, u "DEGREES_TO_RADIANS"), (0, u "RADIANS_TO_DEGREES")] 94

def k12m0 : Method := { name := "<init>", desc := "()V", sig := { parameters := [], returnType := none }, accessFlags := 2, code := none }
def k12c1 : Code := { maxStack := 2, maxLocals := 2, code := jdk_29_method_65_code, exceptionTable := #[], attributes := #[] }
def k12m1 : Method := { name := "max", desc := "(II)I", sig := { parameters := [.int, .int], returnType := some .int }, accessFlags := 9, code := some k12c1 }
def k12c2 : Code := { maxStack := 2, maxLocals := 2, code := jdk_29_method_69_code, exceptionTable := #[], attributes := #[] }
def k12m2 : Method := { name := "min", desc := "(II)I", sig := { parameters := [.int, .int], returnType := some .int }, accessFlags := 9, code := some k12c2 }
/-- java/lang/Math -/
def k12 : Class := { plain "java/lang/Math" (some 0) with
  accessFlags := 49
  interfaces := #[]
  cf := some (fileOf pool12 1 #[.nestMembers #[98]] #[{ accessFlags := 2, nameIndex := 7, descriptorIndex := 8, attributes := #[] }, { accessFlags := 9, nameIndex := 198, descriptorIndex := 335, attributes := #[] }, { accessFlags := 9, nameIndex := 201, descriptorIndex := 335, attributes := #[] }] 49 4 #[] #[{ accessFlags := 25, nameIndex := 354, descriptorIndex := 339, attributes := #[] }, { accessFlags := 25, nameIndex := 358, descriptorIndex := 339, attributes := #[] }, { accessFlags := 25, nameIndex := 361, descriptorIndex := 339, attributes := #[] }, { accessFlags := 26, nameIndex := 364, descriptorIndex := 339, attributes := #[] }, { accessFlags := 26, nameIndex := 365, descriptorIndex := 339, attributes := #[] }, { accessFlags := 26, nameIndex := 172, descriptorIndex := 173, attributes := #[] }, { accessFlags := 26, nameIndex := 176, descriptorIndex := 173, attributes := #[] }, { accessFlags := 8, nameIndex := 344, descriptorIndex := 339, attributes := #[] }, { accessFlags := 8, nameIndex := 338, descriptorIndex := 339, attributes := #[] }, { accessFlags := 4120, nameIndex := 245, descriptorIndex := 246, attributes := #[] }])
  fields := #[{ name := "E", type := .double, accessFlags := 25, slot := 0, constantValue := 0 }, { name := "PI", type := .double, accessFlags := 25, slot := 1, constantValue := 0 }, { name := "TAU", type := .double, accessFlags := 25, slot := 2, constantValue := 0 }, { name := "DEGREES_TO_RADIANS", type := .double, accessFlags := 26, slot := 3, constantValue := 0 }, { name := "RADIANS_TO_DEGREES", type := .double, accessFlags := 26, slot := 4, constantValue := 0 }, { name := "negativeZeroFloatBits", type := .long, accessFlags := 26, slot := 5, constantValue := 0 }, { name := "negativeZeroDoubleBits", type := .long, accessFlags := 26, slot := 6, constantValue := 0 }, { name := "twoToTheDoubleScaleUp", type := .double, accessFlags := 8, slot := 7, constantValue := 0 }, { name := "twoToTheDoubleScaleDown", type := .double, accessFlags := 8, slot := 8, constantValue := 0 }, { name := "$assertionsDisabled", type := .boolean, accessFlags := 4120, slot := 9, constantValue := 0 }]
  methods := #[k12m0, k12m1, k12m2]
  instanceTypes := #[]
  staticTypes := #[.double, .double, .double, .double, .double, .long, .long, .double, .double, .boolean]
  resolved := Array.replicate 460 none
  statics := none }

def pool13 : Array CpInfo := pool [(6, .class_ 8), (1, u "java/lang/Object"), (0, u "<init>"), (0, u "()V"), (1, .class_ 14), (1, u "java/lang/StringUTF16"), (31, u "$assertionsDisabled"), (0, u "Z"), (13, u "HI_BYTE_SHIFT"), (0, u "I"), (2, u "LO_BYTE_SHIFT"), (49, .methodref 12 116), (0, .nameAndType 117 118), (0, u "compress"), (0, u "([CI[BII)I"), (3, u "([CII)[B"), (138, u "coderFromArrayLen"), (0, u "([BI)B"), (106, .class_ 371), (1, u "java/lang/StringUTF16$LinesSpliterator"), (58, u "MAX_LENGTH"), (196, .class_ 628), (0, u "java/lang/StringUTF16$CodePointsSpliterator"), (0, .class_ 630), (0, u "java/lang/StringUTF16$CharsSpliterator")] 4

def k13m0 : Method := { name := "<init>", desc := "()V", sig := { parameters := [], returnType := none }, accessFlags := 0, code := none }
def k13c1 : Code := { maxStack := 2, maxLocals := 2, code := jdk_52_method_15_code, exceptionTable := #[], attributes := #[] }
def k13m1 : Method := { name := "coderFromArrayLen", desc := "([BI)B", sig := { parameters := [(.array .byte), .int], returnType := some .byte }, accessFlags := 8, code := some k13c1 }
def k13c2 : Code := { maxStack := 5, maxLocals := 6, code := jdk_52_method_16_code, exceptionTable := #[], attributes := #[] }
def k13m2 : Method := { name := "compress", desc := "([CII)[B", sig := { parameters := [(.array .char), .int, .int], returnType := some (.array .byte) }, accessFlags := 9, code := some k13c2 }
def k13c3 : Code := { maxStack := 3, maxLocals := 7, code := jdk_52_method_21_code, exceptionTable := #[], attributes := #[] }
def k13m3 : Method := { name := "compress", desc := "([CI[BII)I", sig := { parameters := [(.array .char), .int, (.array .byte), .int, .int], returnType := some .int }, accessFlags := 9, code := some k13c3 }
/-- java/lang/StringUTF16 -/
def k13 : Class := { plain "java/lang/StringUTF16" (some 0) with
  accessFlags := 48
  interfaces := #[]
  cf := some (fileOf pool13 12 #[.nestMembers #[627, 629, 369]] #[{ accessFlags := 0, nameIndex := 9, descriptorIndex := 10, attributes := #[] }, { accessFlags := 8, nameIndex := 261, descriptorIndex := 262, attributes := #[] }, { accessFlags := 9, nameIndex := 117, descriptorIndex := 122, attributes := #[] }, { accessFlags := 9, nameIndex := 117, descriptorIndex := 118, attributes := #[] }] 48 6 #[] #[{ accessFlags := 26, nameIndex := 61, descriptorIndex := 62, attributes := #[] }, { accessFlags := 26, nameIndex := 65, descriptorIndex := 62, attributes := #[] }, { accessFlags := 24, nameIndex := 430, descriptorIndex := 62, attributes := #[] }, { accessFlags := 4120, nameIndex := 46, descriptorIndex := 47, attributes := #[] }])
  fields := #[{ name := "HI_BYTE_SHIFT", type := .int, accessFlags := 26, slot := 0, constantValue := 0 }, { name := "LO_BYTE_SHIFT", type := .int, accessFlags := 26, slot := 1, constantValue := 0 }, { name := "MAX_LENGTH", type := .int, accessFlags := 24, slot := 2, constantValue := 0 }, { name := "$assertionsDisabled", type := .boolean, accessFlags := 4120, slot := 3, constantValue := 0 }]
  methods := #[k13m0, k13m1, k13m2, k13m3]
  instanceTypes := #[]
  staticTypes := #[.int, .int, .int, .boolean]
  resolved := Array.replicate 635 none
  statics := none }

def pool14 : Array CpInfo := pool [(2, .class_ 4), (1, u "java/lang/Object"), (0, u "<init>"), (0, u "()V"), (17, .class_ 26), (1, u "jdk/internal/util/Preconditions"), (6, u "checkIndex"), (13, u "checkFromToIndex"), (7, .class_ 56), (0, u "jdk/internal/util/Preconditions$4"), (57, .class_ 115), (0, u "jdk/internal/util/Preconditions$1"), (7, u "SIOOBE_FORMATTER"), (0, u "Ljava/util/function/BiFunction;"), (0, .class_ 126), (0, u "jdk/internal/util/Preconditions$2"), (3, u "AIOOBE_FORMATTER"), (0, .class_ 132), (0, u "jdk/internal/util/Preconditions$3"), (3, u "IOOBE_FORMATTER"), (41, u "(IILjava/util/function/BiFunction;)I"), (4, u "(IIILjava/util/function/BiFunction;)I")] 10

def k14m0 : Method := { name := "<init>", desc := "()V", sig := { parameters := [], returnType := none }, accessFlags := 1, code := none }
def k14c1 : Code := { maxStack := 3, maxLocals := 3, code := jdk_41_method_11_code, exceptionTable := #[], attributes := #[] }
def k14m1 : Method := { name := "checkIndex", desc := "(IILjava/util/function/BiFunction;)I", sig := { parameters := [.int, .int, (.object "java/util/function/BiFunction")], returnType := some .int }, accessFlags := 9, code := some k14c1 }
def k14c2 : Code := { maxStack := 4, maxLocals := 4, code := jdk_41_method_12_code, exceptionTable := #[], attributes := #[] }
def k14m2 : Method := { name := "checkFromToIndex", desc := "(IIILjava/util/function/BiFunction;)I", sig := { parameters := [.int, .int, .int, (.object "java/util/function/BiFunction")], returnType := some .int }, accessFlags := 9, code := some k14c2 }
/-- jdk/internal/util/Preconditions -/
def k14 : Class := { plain "jdk/internal/util/Preconditions" (some 0) with
  accessFlags := 33
  interfaces := #[]
  cf := some (fileOf pool14 24 #[.nestMembers #[55, 131, 125, 114]] #[{ accessFlags := 1, nameIndex := 5, descriptorIndex := 6, attributes := #[] }, { accessFlags := 9, nameIndex := 33, descriptorIndex := 178, attributes := #[] }, { accessFlags := 9, nameIndex := 47, descriptorIndex := 183, attributes := #[] }] 33 2 #[] #[{ accessFlags := 25, nameIndex := 123, descriptorIndex := 124, attributes := #[] }, { accessFlags := 25, nameIndex := 130, descriptorIndex := 124, attributes := #[] }, { accessFlags := 25, nameIndex := 136, descriptorIndex := 124, attributes := #[] }])
  fields := #[{ name := "SIOOBE_FORMATTER", type := (.object "java/util/function/BiFunction"), accessFlags := 25, slot := 0, constantValue := 0 }, { name := "AIOOBE_FORMATTER", type := (.object "java/util/function/BiFunction"), accessFlags := 25, slot := 1, constantValue := 0 }, { name := "IOOBE_FORMATTER", type := (.object "java/util/function/BiFunction"), accessFlags := 25, slot := 2, constantValue := 0 }]
  methods := #[k14m0, k14m1, k14m2]
  instanceTypes := #[]
  staticTypes := #[(.object "java/util/function/BiFunction"), (.object "java/util/function/BiFunction"), (.object "java/util/function/BiFunction")]
  resolved := Array.replicate 194 none
  statics := some 2 }

def pool15 : Array CpInfo := pool [(2, .class_ 4), (1, u "java/lang/Object"), (0, u "<init>"), (0, u "()V"), (7, .class_ 16), (1, u "java/util/Arrays"), (57, .class_ 76), (1, u "java/util/Arrays$NaturalOrder"), (36, .class_ 115), (1, u "java/util/Arrays$LegacyMergeSort"), (1, u "Z"), (21, u "copyOfRange"), (10, .methodref 151 152), (0, .class_ 153), (0, .nameAndType 154 155), (0, u "java/lang/System"), (0, u "arraycopy"), (0, u "(Ljava/lang/Object;ILjava/lang/Object;II)V"), (148, .methodref 305 306), (0, .class_ 307), (0, .nameAndType 308 309), (0, u "java/lang/Math"), (0, u "min"), (0, u "(II)I"), (29, .methodref 14 340), (0, .nameAndType 341 342), (0, u "copyOfRangeByte"), (0, u "([BII)[B"), (0, .methodref 14 344), (0, .nameAndType 345 346), (0, u "checkLength"), (0, u "(II)V"), (28, .class_ 376), (0, u "java/util/Arrays$ArrayList"), (68, u "$assertionsDisabled"), (269, u "MIN_ARRAY_SORT_GRAN"), (0, u "I"), (2, u "INSERTIONSORT_THRESHOLD"), (255, .class_ 976), (0, u "java/util/Arrays$ArrayItr")] 52

def k15m0 : Method := { name := "<init>", desc := "()V", sig := { parameters := [], returnType := none }, accessFlags := 2, code := none }
def k15c1 : Code := { maxStack := 4, maxLocals := 2, code := jdk_65_method_131_code, exceptionTable := #[], attributes := #[] }
def k15m1 : Method := { name := "checkLength", desc := "(II)V", sig := { parameters := [.int, .int], returnType := none }, accessFlags := 10, code := some k15c1 }
def k15c2 : Code := { maxStack := 3, maxLocals := 3, code := jdk_65_method_132_code, exceptionTable := #[], attributes := #[] }
def k15m2 : Method := { name := "copyOfRange", desc := "([BII)[B", sig := { parameters := [(.array .byte), .int, .int], returnType := some (.array .byte) }, accessFlags := 9, code := some k15c2 }
def k15c3 : Code := { maxStack := 6, maxLocals := 5, code := jdk_65_method_133_code, exceptionTable := #[], attributes := #[] }
def k15m3 : Method := { name := "copyOfRangeByte", desc := "([BII)[B", sig := { parameters := [(.array .byte), .int, .int], returnType := some (.array .byte) }, accessFlags := 10, code := some k15c3 }
/-- java/util/Arrays -/
def k15 : Class := { plain "java/util/Arrays" (some 0) with
  accessFlags := 49
  interfaces := #[]
  cf := some (fileOf pool15 14 #[.nestMembers #[975, 375, 113, 74]] #[{ accessFlags := 2, nameIndex := 5, descriptorIndex := 6, attributes := #[] }, { accessFlags := 10, nameIndex := 345, descriptorIndex := 346, attributes := #[] }, { accessFlags := 9, nameIndex := 139, descriptorIndex := 342, attributes := #[] }, { accessFlags := 10, nameIndex := 341, descriptorIndex := 342, attributes := #[] }] 49 2 #[] #[{ accessFlags := 26, nameIndex := 715, descriptorIndex := 716, attributes := #[] }, { accessFlags := 26, nameIndex := 719, descriptorIndex := 716, attributes := #[] }, { accessFlags := 4120, nameIndex := 445, descriptorIndex := 117, attributes := #[] }])
  fields := #[{ name := "MIN_ARRAY_SORT_GRAN", type := .int, accessFlags := 26, slot := 0, constantValue := 0 }, { name := "INSERTIONSORT_THRESHOLD", type := .int, accessFlags := 26, slot := 1, constantValue := 0 }, { name := "$assertionsDisabled", type := .boolean, accessFlags := 4120, slot := 2, constantValue := 0 }]
  methods := #[k15m0, k15m1, k15m2, k15m3]
  instanceTypes := #[]
  staticTypes := #[.int, .int, .boolean]
  resolved := Array.replicate 1029 none
  statics := none }

def pool16 : Array CpInfo := pool [(2, .class_ 4), (1, u "java/lang/Object"), (0, u "<init>"), (0, u "()V"), (1, .class_ 10), (1, u "java/lang/System"), (0, u "allowSecurityManager"), (0, u "I"), (16, u "cons"), (0, u "Ljava/io/Console;"), (77, .class_ 110), (1, u "java/lang/System$CallersHolder"), (43, u "initialErrStream"), (0, u "Ljava/io/PrintStream;"), (19, u "security"), (0, u "Ljava/lang/SecurityManager;"), (31, .class_ 209), (0, u "java/lang/System$1"), (7, u "props"), (0, u "Ljava/util/Properties;"), (2, u "lineSeparator"), (0, u "Ljava/lang/String;"), (96, .class_ 321), (1, u "java/lang/System$LoggerFinder"), (5, .class_ 328), (0, u "java/lang/System$Logger"), (67, u "err"), (2, u "out"), (91, u "notSupportedJnuEncoding"), (15, u "in"), (17, u "initialIn"), (0, u "Ljava/io/InputStream;"), (35, u "bootLayer"), (0, u "Ljava/lang/ModuleLayer;"), (99, .class_ 664), (0, u "java/lang/System$2"), (9, u "NEVER"), (2, u "MAYBE"), (49, u "arraycopy"), (0, u "(Ljava/lang/Object;ILjava/lang/Object;II)V"), (72, .class_ 802), (0, u "java/lang/System$Logger$Level")] 31

def k16m0 : Method := { name := "<init>", desc := "()V", sig := { parameters := [], returnType := none }, accessFlags := 2, code := none }
def k16m1 : Method := { name := "arraycopy", desc := "(Ljava/lang/Object;ILjava/lang/Object;II)V", sig := { parameters := [(.object "java/lang/Object"), .int, (.object "java/lang/Object"), .int, .int], returnType := none }, accessFlags := 265, code := none }
/-- java/lang/System -/
def k16 : Class := { plain "java/lang/System" (some 0) with
  accessFlags := 49
  interfaces := #[]
  cf := some (fileOf pool16 8 #[.nestMembers #[319, 327, 801, 108, 663, 208]] #[{ accessFlags := 2, nameIndex := 5, descriptorIndex := 6, attributes := #[] }, { accessFlags := 265, nameIndex := 727, descriptorIndex := 728, attributes := #[] }] 49 2 #[] #[{ accessFlags := 25, nameIndex := 507, descriptorIndex := 526, attributes := #[] }, { accessFlags := 25, nameIndex := 399, descriptorIndex := 155, attributes := #[] }, { accessFlags := 25, nameIndex := 396, descriptorIndex := 155, attributes := #[] }, { accessFlags := 10, nameIndex := 525, descriptorIndex := 526, attributes := #[] }, { accessFlags := 26, nameIndex := 674, descriptorIndex := 12, attributes := #[] }, { accessFlags := 26, nameIndex := 677, descriptorIndex := 12, attributes := #[] }, { accessFlags := 10, nameIndex := 11, descriptorIndex := 12, attributes := #[] }, { accessFlags := 74, nameIndex := 175, descriptorIndex := 176, attributes := #[] }, { accessFlags := 10, nameIndex := 491, descriptorIndex := 222, attributes := #[] }, { accessFlags := 74, nameIndex := 29, descriptorIndex := 30, attributes := #[] }, { accessFlags := 74, nameIndex := 154, descriptorIndex := 155, attributes := #[] }, { accessFlags := 10, nameIndex := 217, descriptorIndex := 218, attributes := #[] }, { accessFlags := 10, nameIndex := 221, descriptorIndex := 222, attributes := #[] }, { accessFlags := 8, nameIndex := 562, descriptorIndex := 563, attributes := #[] }])
  fields := #[{ name := "in", type := (.object "java/io/InputStream"), accessFlags := 25, slot := 0, constantValue := 0 }, { name := "out", type := (.object "java/io/PrintStream"), accessFlags := 25, slot := 1, constantValue := 0 }, { name := "err", type := (.object "java/io/PrintStream"), accessFlags := 25, slot := 2, constantValue := 0 }, { name := "initialIn", type := (.object "java/io/InputStream"), accessFlags := 10, slot := 3, constantValue := 0 }, { name := "NEVER", type := .int, accessFlags := 26, slot := 4, constantValue := 0 }, { name := "MAYBE", type := .int, accessFlags := 26, slot := 5, constantValue := 0 }, { name := "allowSecurityManager", type := .int, accessFlags := 10, slot := 6, constantValue := 0 }, { name := "security", type := (.object "java/lang/SecurityManager"), accessFlags := 74, slot := 7, constantValue := 0 }, { name := "notSupportedJnuEncoding", type := (.object "java/lang/String"), accessFlags := 10, slot := 8, constantValue := 0 }, { name := "cons", type := (.object "java/io/Console"), accessFlags := 74, slot := 9, constantValue := 0 }, { name := "initialErrStream", type := (.object "java/io/PrintStream"), accessFlags := 74, slot := 10, constantValue := 0 }, { name := "props", type := (.object "java/util/Properties"), accessFlags := 10, slot := 11, constantValue := 0 }, { name := "lineSeparator", type := (.object "java/lang/String"), accessFlags := 10, slot := 12, constantValue := 0 }, { name := "bootLayer", type := (.object "java/lang/ModuleLayer"), accessFlags := 8, slot := 13, constantValue := 0 }]
  methods := #[k16m0, k16m1]
  instanceTypes := #[]
  staticTypes := #[(.object "java/io/InputStream"), (.object "java/io/PrintStream"), (.object "java/io/PrintStream"), (.object "java/io/InputStream"), .int, .int, .int, (.object "java/lang/SecurityManager"), (.object "java/lang/String"), (.object "java/io/Console"), (.object "java/io/PrintStream"), (.object "java/util/Properties"), (.object "java/lang/String"), (.object "java/lang/ModuleLayer")]
  resolved := Array.replicate 834 none
  statics := none }

def pool17 : Array CpInfo := pool [(9, u "<init>"), (6, .class_ 18), (1, u "java/lang/Object"), (0, u "()V"), (1, .class_ 23), (1, u "jdk/internal/util/ArraysSupport"), (0, u "LOG2_ARRAY_LONG_INDEX_SCALE"), (0, u "I"), (2, u "U"), (0, u "Ljdk/internal/misc/Unsafe;"), (8, u "BIG_ENDIAN"), (0, u "Z"), (8, u "LOG2_BYTE_BIT_SIZE"), (4, u "LOG2_ARRAY_INT_INDEX_SCALE"), (54, u "JLA"), (0, u "Ljdk/internal/access/JavaLangAccess;"), (11, u "LOG2_ARRAY_BOOLEAN_INDEX_SCALE"), (9, u "LOG2_ARRAY_BYTE_INDEX_SCALE"), (5, u "LOG2_ARRAY_CHAR_INDEX_SCALE"), (5, u "LOG2_ARRAY_SHORT_INDEX_SCALE"), (18, u "LOG2_ARRAY_FLOAT_INDEX_SCALE"), (24, u "LOG2_ARRAY_DOUBLE_INDEX_SCALE"), (89, u "T_BOOLEAN"), (2, u "T_CHAR"), (1, u "T_FLOAT"), (1, u "T_DOUBLE"), (1, u "T_BYTE"), (1, u "T_SHORT"), (1, u "T_INT"), (1, u "T_LONG"), (1, u "SOFT_MAX_ARRAY_LENGTH")] 83

def k17m0 : Method := { name := "<init>", desc := "()V", sig := { parameters := [], returnType := none }, accessFlags := 2, code := none }
/-- jdk/internal/util/ArraysSupport -/
def k17 : Class := { plain "jdk/internal/util/ArraysSupport" (some 0) with
  accessFlags := 33
  interfaces := #[]
  cf := some (fileOf pool17 21 #[] #[{ accessFlags := 2, nameIndex := 9, descriptorIndex := 19, attributes := #[] }] 33 16 #[] #[{ accessFlags := 24, nameIndex := 28, descriptorIndex := 29, attributes := #[] }, { accessFlags := 26, nameIndex := 38, descriptorIndex := 39, attributes := #[] }, { accessFlags := 25, nameIndex := 121, descriptorIndex := 25, attributes := #[] }, { accessFlags := 25, nameIndex := 131, descriptorIndex := 25, attributes := #[] }, { accessFlags := 25, nameIndex := 137, descriptorIndex := 25, attributes := #[] }, { accessFlags := 25, nameIndex := 143, descriptorIndex := 25, attributes := #[] }, { accessFlags := 25, nameIndex := 53, descriptorIndex := 25, attributes := #[] }, { accessFlags := 25, nameIndex := 24, descriptorIndex := 25, attributes := #[] }, { accessFlags := 25, nameIndex := 162, descriptorIndex := 25, attributes := #[] }, { accessFlags := 25, nameIndex := 187, descriptorIndex := 25, attributes := #[] }, { accessFlags := 26, nameIndex := 48, descriptorIndex := 25, attributes := #[] }, { accessFlags := 25, nameIndex := 277, descriptorIndex := 25, attributes := #[] }, { accessFlags := 25, nameIndex := 280, descriptorIndex := 25, attributes := #[] }, { accessFlags := 25, nameIndex := 282, descriptorIndex := 25, attributes := #[] }, { accessFlags := 25, nameIndex := 284, descriptorIndex := 25, attributes := #[] }, { accessFlags := 25, nameIndex := 286, descriptorIndex := 25, attributes := #[] }, { accessFlags := 25, nameIndex := 288, descriptorIndex := 25, attributes := #[] }, { accessFlags := 25, nameIndex := 290, descriptorIndex := 25, attributes := #[] }, { accessFlags := 25, nameIndex := 292, descriptorIndex := 25, attributes := #[] }, { accessFlags := 26, nameIndex := 108, descriptorIndex := 109, attributes := #[] }, { accessFlags := 25, nameIndex := 294, descriptorIndex := 25, attributes := #[] }])
  fields := #[{ name := "U", type := (.object "jdk/internal/misc/Unsafe"), accessFlags := 24, slot := 0, constantValue := 0 }, { name := "BIG_ENDIAN", type := .boolean, accessFlags := 26, slot := 1, constantValue := 0 }, { name := "LOG2_ARRAY_BOOLEAN_INDEX_SCALE", type := .int, accessFlags := 25, slot := 2, constantValue := 0 }, { name := "LOG2_ARRAY_BYTE_INDEX_SCALE", type := .int, accessFlags := 25, slot := 3, constantValue := 0 }, { name := "LOG2_ARRAY_CHAR_INDEX_SCALE", type := .int, accessFlags := 25, slot := 4, constantValue := 0 }, { name := "LOG2_ARRAY_SHORT_INDEX_SCALE", type := .int, accessFlags := 25, slot := 5, constantValue := 0 }, { name := "LOG2_ARRAY_INT_INDEX_SCALE", type := .int, accessFlags := 25, slot := 6, constantValue := 0 }, { name := "LOG2_ARRAY_LONG_INDEX_SCALE", type := .int, accessFlags := 25, slot := 7, constantValue := 0 }, { name := "LOG2_ARRAY_FLOAT_INDEX_SCALE", type := .int, accessFlags := 25, slot := 8, constantValue := 0 }, { name := "LOG2_ARRAY_DOUBLE_INDEX_SCALE", type := .int, accessFlags := 25, slot := 9, constantValue := 0 }, { name := "LOG2_BYTE_BIT_SIZE", type := .int, accessFlags := 26, slot := 10, constantValue := 0 }, { name := "T_BOOLEAN", type := .int, accessFlags := 25, slot := 11, constantValue := 0 }, { name := "T_CHAR", type := .int, accessFlags := 25, slot := 12, constantValue := 0 }, { name := "T_FLOAT", type := .int, accessFlags := 25, slot := 13, constantValue := 0 }, { name := "T_DOUBLE", type := .int, accessFlags := 25, slot := 14, constantValue := 0 }, { name := "T_BYTE", type := .int, accessFlags := 25, slot := 15, constantValue := 0 }, { name := "T_SHORT", type := .int, accessFlags := 25, slot := 16, constantValue := 0 }, { name := "T_INT", type := .int, accessFlags := 25, slot := 17, constantValue := 0 }, { name := "T_LONG", type := .int, accessFlags := 25, slot := 18, constantValue := 0 }, { name := "JLA", type := (.object "jdk/internal/access/JavaLangAccess"), accessFlags := 26, slot := 19, constantValue := 0 }, { name := "SOFT_MAX_ARRAY_LENGTH", type := .int, accessFlags := 25, slot := 20, constantValue := 0 }]
  methods := #[k17m0]
  instanceTypes := #[]
  staticTypes := #[(.object "jdk/internal/misc/Unsafe"), .boolean, .int, .int, .int, .int, .int, .int, .int, .int, .int, .int, .int, .int, .int, .int, .int, .int, .int, (.object "jdk/internal/access/JavaLangAccess"), .int]
  resolved := Array.replicate 378 none
  statics := none }

def pool18 : Array CpInfo := pool [(1, u "java/lang/Cloneable"), (0, .class_ 1), (0, u "java/lang/Object"), (0, .class_ 3)] 3

/-- java/lang/Cloneable -/
def k18 : Class := { plain "java/lang/Cloneable" (some 0) with
  accessFlags := 1537
  interfaces := #[]
  cf := some (fileOf pool18 2 #[] #[] 1537 4 #[] #[])
  fields := #[]
  methods := #[]
  instanceTypes := #[]
  staticTypes := #[]
  resolved := Array.replicate 8 none
  statics := none }

/-- the primitive byte -/
def k19 : Class := { plain "byte" none with kind := .primitive 'B', accessFlags := 0x411 }
/-- [B -/
def k20 : Class := { plain "[B" (some 0) with kind := .array 19 .byte, interfaces := #[18, 2], accessFlags := 1041 }

/-- the primitive char -/
def k21 : Class := { plain "char" none with kind := .primitive 'C', accessFlags := 0x411 }
/-- [C -/
def k22 : Class := { plain "[C" (some 0) with kind := .array 21 .char, interfaces := #[18, 2], accessFlags := 1041 }

/-- the primitive int -/
def k23 : Class := { plain "int" none with kind := .primitive 'I', accessFlags := 0x411 }
/-- [I -/
def k24 : Class := { plain "[I" (some 0) with kind := .array 23 .int, interfaces := #[18, 2], accessFlags := 1041 }

def heap : Heap := #[{ cls := 7, slots := #[.long 0, .int 1, .null, .int 0, .null, .int 0, .int 0], vm := .statics 7 },
  { cls := 10, slots := #[.ref 3], vm := .statics 10 },
  { cls := 14, slots := #[.null, .null, .null], vm := .statics 14 },
  { cls := 10, slots := #[.null], vm := .none }]
def classes : Array Class := #[k0, k1, k2, k3, k4, k5, k6, k7, k8, k9, k10, k11, k12, k13, k14, k15, k16, k17, k18, k19, k20, k21, k22, k23, k24]
def interned : List (Array UInt16 × Addr) := []
def slotsUsed : Nat := 12
def theMethod : MethodId := ⟨1, 1⟩
def args0 : Array Value := #[.int 1, .int 2, .int 3, .int 4, .int 5, .int 6]
def aboutOver (below : List Frame) : State where
  vm := { classes := classes, interned := interned.toArray }
  heap := heap
  slotsUsed := slotsUsed
  threads := #[{ frames := .invoking theMethod args0 :: below }]
def below0 : List Frame := [.native { method := ⟨0, 0⟩, args := #[] }]
def about1 : State := aboutOver below0
def p0 : Program := .bare "" "" ""
def e0 : Env := launch0.env 0 0 0
theorem w_frames : about1.frames = Frame.invoking theMethod args0 :: below0 := rfl
set_option maxRecDepth 65536 in
theorem w_args : argsFit about1.vm theMethod args0 = true := by decide +kernel
set_option maxRecDepth 65536 in
theorem w_heap : heapFits about1 = true := by decide +kernel
set_option maxRecDepth 65536 in
theorem w_runnable : about1.curStatus? = some .runnable := by decide +kernel
set_option maxRecDepth 65536 in
theorem w_alone : about1.alone = true := by decide +kernel
set_option maxRecDepth 65536 in
theorem w_named : about1.methodNamed? x = some theMethod := by decide +kernel
set_option maxRecDepth 65536 in
theorem w_hears : about1.hears theMethod below0 = true := by decide +kernel
set_option maxRecDepth 65536 in
theorem w_ripe : about1.ripe theMethod args0 below0 = true := by decide +kernel
theorem w_running : about1.status = .running := rfl
set_option maxRecDepth 65536 in
theorem w_room : about1.hasRoom e0.platform room_1 = true :=
  launch0.hasRoom_least _ room_1 (by decide +kernel) (by decide +kernel) (by decide +kernel) (by decide +kernel) (by decide +kernel) (by decide +kernel)
theorem allAtoms_all (ts : List Jvm.Cond) (a : Array Jvm.Value) (st : Jvm.State) : (allAtoms ts).before a st = ts.all (fun c => c.before a st) := by
  induction ts with
  | nil => rfl
  | cons c t ih =>
    show (Jvm.Cond.and c (allAtoms t)).before a st = _
    rw [Jvm.Cond.before_and, ih, List.all_cons]
def words1 : List Jvm.Cond := Jvm.Cond.code x code maxLocals ret :: tables_1
/-- a 'code' word, met by the world's own term for the bytes: nothing is compared byte by byte -/
theorem code_word {y : MethodName} {bytes : ByteArray} {mx : Nat} {rt : Option FieldType} {a : Array Value} {s : State} {m : MethodId} {meth : Method} {c : Code} (h1 : s.methodNamed? y = some m) (h2 : s.vm.method? m = some meth) (h3 : meth.code = some c) (h4 : c.code = bytes)
    (h5 : (c.maxLocals == mx && c.exceptionTable.isEmpty && decide (c.maxStack ≤ mostOperands) && decide (meth.sig.returnType = rt) && !meth.locks && decide (parseMethodDescriptor y.desc = some meth.sig)) = true) : (Jvm.Cond.code y bytes mx rt).before a s = true := by
  simp only [Bool.and_eq_true, beq_iff_eq, Bool.not_eq_true', decide_eq_true_eq] at h5
  obtain ⟨⟨⟨⟨⟨g1, g2⟩, g3⟩, g4⟩, g5⟩, g6⟩ := h5
  simp [Cond.before, Cond.holds, Cond.value, h1, h2, h3, h4, g1, g2, g3, g4, g5, g6]
def isCode : Jvm.Cond → Bool
  | .code _ _ _ _ => true
  | _ => false
theorem all_split {L : List Jvm.Cond} {P : Jvm.Cond → Bool} (h1 : L.all (fun c => isCode c || P c) = true) (h2 : ∀ c ∈ L.filter isCode, P c = true) : L.all P = true := by
  refine List.all_eq_true.mpr fun c hc => ?_
  have h := List.all_eq_true.mp h1 c hc
  rcases Bool.eq_false_or_eq_true (isCode c) with hi | hi
  · exact h2 c (List.mem_filter.mpr ⟨hc, hi⟩)
  · simpa [hi] using h
set_option maxRecDepth 65536 in
theorem w_c0 : (Jvm.Cond.code x code maxLocals ret).before args0 about1 = true := code_word (m := ⟨1, 1⟩) (meth := k1m1) (c := k1c1) (by decide +kernel) rfl rfl rfl (by decide +kernel)
set_option maxRecDepth 65536 in
theorem w_c1 : (Jvm.Cond.code ({ cls := "com/example/bindery/bindery/compiler/JavaTypeOuterNamePinLaw", name := "pick", desc := "(III)C" } : Jvm.MethodName) method_3_code (3 : Nat) (Option.some Jvm.ClassFile.FieldType.char)).before args0 about1 = true := code_word (m := ⟨1, 2⟩) (meth := k1m2) (c := k1c2) (by decide +kernel) rfl rfl rfl (by decide +kernel)
set_option maxRecDepth 65536 in
theorem w_c2 : (Jvm.Cond.code ({ cls := "com/example/bindery/bindery/compiler/JavaTypeOuterNamePinLaw", name := "make", desc := "(ICCCC)Ljava/lang/String;" } : Jvm.MethodName) method_4_code (5 : Nat) (Option.some (Jvm.ClassFile.FieldType.object "java/lang/String"))).before args0 about1 = true := code_word (m := ⟨1, 3⟩) (meth := k1m3) (c := k1c3) (by decide +kernel) rfl rfl rfl (by decide +kernel)
set_option maxRecDepth 65536 in
theorem w_c3 : (Jvm.Cond.code ({ cls := "java/lang/String", name := "<init>", desc := "([C)V" } : Jvm.MethodName) jdk_42_method_3_code (2 : Nat) (Option.none : Option Jvm.ClassFile.FieldType)).before args0 about1 = true := code_word (m := ⟨7, 1⟩) (meth := k7m1) (c := k7c1) (by decide +kernel) rfl rfl rfl (by decide +kernel)
set_option maxRecDepth 65536 in
theorem w_c4 : (Jvm.Cond.code ({ cls := "java/lang/String", name := "<init>", desc := "([CIILjava/lang/Void;)V" } : Jvm.MethodName) jdk_42_method_149_code (6 : Nat) (Option.none : Option Jvm.ClassFile.FieldType)).before args0 about1 = true := code_word (m := ⟨7, 7⟩) (meth := k7m7) (c := k7c7) (by decide +kernel) rfl rfl rfl (by decide +kernel)
set_option maxRecDepth 65536 in
theorem w_c5 : (Jvm.Cond.code ({ cls := "java/lang/Object", name := "<init>", desc := "()V" } : Jvm.MethodName) object_method_1_code (1 : Nat) (Option.none : Option Jvm.ClassFile.FieldType)).before args0 about1 = true := code_word (m := ⟨0, 0⟩) (meth := k0m0) (c := k0c0) (by decide +kernel) rfl rfl rfl (by decide +kernel)
set_option maxRecDepth 65536 in
theorem w_c6 : (Jvm.Cond.code ({ cls := "com/example/bindery/bindery/compiler/JavaType", name := "<init>", desc := "(Ljava/lang/String;Ljava/lang/String;)V" } : Jvm.MethodName) prog_5_method_1_code (3 : Nat) (Option.none : Option Jvm.ClassFile.FieldType)).before args0 about1 = true := code_word (m := ⟨9, 0⟩) (meth := k9m0) (c := k9c0) (by decide +kernel) rfl rfl rfl (by decide +kernel)
set_option maxRecDepth 65536 in
theorem w_c7 : (Jvm.Cond.code ({ cls := "java/util/Optional", name := "empty", desc := "()Ljava/util/Optional;" } : Jvm.MethodName) jdk_32_method_1_code (1 : Nat) (Option.some (Jvm.ClassFile.FieldType.object "java/util/Optional"))).before args0 about1 = true := code_word (m := ⟨10, 0⟩) (meth := k10m0) (c := k10c0) (by decide +kernel) rfl rfl rfl (by decide +kernel)
set_option maxRecDepth 65536 in
theorem w_c8 : (Jvm.Cond.code ({ cls := "com/example/bindery/bindery/compiler/JavaType", name := "<init>", desc := "(Ljava/lang/String;Ljava/lang/String;Ljava/util/Optional;)V" } : Jvm.MethodName) prog_5_method_2_code (4 : Nat) (Option.none : Option Jvm.ClassFile.FieldType)).before args0 about1 = true := code_word (m := ⟨9, 1⟩) (meth := k9m1) (c := k9c1) (by decide +kernel) rfl rfl rfl (by decide +kernel)
set_option maxRecDepth 65536 in
theorem w_c9 : (Jvm.Cond.code ({ cls := "java/lang/Record", name := "<init>", desc := "()V" } : Jvm.MethodName) jdk_30_method_1_code (1 : Nat) (Option.none : Option Jvm.ClassFile.FieldType)).before args0 about1 = true := code_word (m := ⟨8, 0⟩) (meth := k8m0) (c := k8c0) (by decide +kernel) rfl rfl rfl (by decide +kernel)
set_option maxRecDepth 65536 in
theorem w_c10 : (Jvm.Cond.code ({ cls := "com/example/bindery/bindery/compiler/JavaType", name := "outerName", desc := "()Ljava/lang/String;" } : Jvm.MethodName) prog_5_method_9_code (2 : Nat) (Option.some (Jvm.ClassFile.FieldType.object "java/lang/String"))).before args0 about1 = true := code_word (m := ⟨9, 2⟩) (meth := k9m2) (c := k9c2) (by decide +kernel) rfl rfl rfl (by decide +kernel)
set_option maxRecDepth 65536 in
theorem w_c11 : (Jvm.Cond.code ({ cls := "java/lang/String", name := "indexOf", desc := "(I)I" } : Jvm.MethodName) jdk_42_method_79_code (2 : Nat) (Option.some Jvm.ClassFile.FieldType.int)).before args0 about1 = true := code_word (m := ⟨7, 4⟩) (meth := k7m4) (c := k7c4) (by decide +kernel) rfl rfl rfl (by decide +kernel)
set_option maxRecDepth 65536 in
theorem w_c12 : (Jvm.Cond.code ({ cls := "java/lang/String", name := "indexOf", desc := "(II)I" } : Jvm.MethodName) jdk_42_method_80_code (3 : Nat) (Option.some Jvm.ClassFile.FieldType.int)).before args0 about1 = true := code_word (m := ⟨7, 5⟩) (meth := k7m5) (c := k7c5) (by decide +kernel) rfl rfl rfl (by decide +kernel)
set_option maxRecDepth 65536 in
theorem w_c13 : (Jvm.Cond.code ({ cls := "java/lang/String", name := "isLatin1", desc := "()Z" } : Jvm.MethodName) jdk_42_method_154_code (1 : Nat) (Option.some Jvm.ClassFile.FieldType.boolean)).before args0 about1 = true := code_word (m := ⟨7, 10⟩) (meth := k7m10) (c := k7c10) (by decide +kernel) rfl rfl rfl (by decide +kernel)
set_option maxRecDepth 65536 in
theorem w_c14 : (Jvm.Cond.code ({ cls := "java/lang/String", name := "length", desc := "()I" } : Jvm.MethodName) jdk_42_method_54_code (1 : Nat) (Option.some Jvm.ClassFile.FieldType.int)).before args0 about1 = true := code_word (m := ⟨7, 2⟩) (meth := k7m2) (c := k7c2) (by decide +kernel) rfl rfl rfl (by decide +kernel)
set_option maxRecDepth 65536 in
theorem w_c15 : (Jvm.Cond.code ({ cls := "java/lang/String", name := "coder", desc := "()B" } : Jvm.MethodName) jdk_42_method_152_code (1 : Nat) (Option.some Jvm.ClassFile.FieldType.byte)).before args0 about1 = true := code_word (m := ⟨7, 9⟩) (meth := k7m9) (c := k7c9) (by decide +kernel) rfl rfl rfl (by decide +kernel)
set_option maxRecDepth 65536 in
theorem w_c16 : (Jvm.Cond.code ({ cls := "java/lang/StringLatin1", name := "indexOf", desc := "([BIII)I" } : Jvm.MethodName) jdk_43_method_22_code (4 : Nat) (Option.some Jvm.ClassFile.FieldType.int)).before args0 about1 = true := code_word (m := ⟨11, 3⟩) (meth := k11m3) (c := k11c3) (by decide +kernel) rfl rfl rfl (by decide +kernel)
set_option maxRecDepth 65536 in
theorem w_c17 : (Jvm.Cond.code ({ cls := "java/lang/StringLatin1", name := "canEncode", desc := "(I)Z" } : Jvm.MethodName) jdk_43_method_4_code (1 : Nat) (Option.some Jvm.ClassFile.FieldType.boolean)).before args0 about1 = true := code_word (m := ⟨11, 2⟩) (meth := k11m2) (c := k11c2) (by decide +kernel) rfl rfl rfl (by decide +kernel)
set_option maxRecDepth 65536 in
theorem w_c18 : (Jvm.Cond.code ({ cls := "java/lang/Math", name := "max", desc := "(II)I" } : Jvm.MethodName) jdk_29_method_65_code (2 : Nat) (Option.some Jvm.ClassFile.FieldType.int)).before args0 about1 = true := code_word (m := ⟨12, 1⟩) (meth := k12m1) (c := k12c1) (by decide +kernel) rfl rfl rfl (by decide +kernel)
set_option maxRecDepth 65536 in
theorem w_c19 : (Jvm.Cond.code ({ cls := "java/lang/Math", name := "min", desc := "(II)I" } : Jvm.MethodName) jdk_29_method_69_code (2 : Nat) (Option.some Jvm.ClassFile.FieldType.int)).before args0 about1 = true := code_word (m := ⟨12, 2⟩) (meth := k12m2) (c := k12c2) (by decide +kernel) rfl rfl rfl (by decide +kernel)
set_option maxRecDepth 65536 in
theorem w_c20 : (Jvm.Cond.code ({ cls := "java/lang/StringUTF16", name := "compress", desc := "([CII)[B" } : Jvm.MethodName) jdk_52_method_16_code (6 : Nat) (Option.some (Jvm.ClassFile.FieldType.array Jvm.ClassFile.FieldType.byte))).before args0 about1 = true := code_word (m := ⟨13, 2⟩) (meth := k13m2) (c := k13c2) (by decide +kernel) rfl rfl rfl (by decide +kernel)
set_option maxRecDepth 65536 in
theorem w_c21 : (Jvm.Cond.code ({ cls := "java/lang/StringUTF16", name := "compress", desc := "([CI[BII)I" } : Jvm.MethodName) jdk_52_method_21_code (7 : Nat) (Option.some Jvm.ClassFile.FieldType.int)).before args0 about1 = true := code_word (m := ⟨13, 3⟩) (meth := k13m3) (c := k13c3) (by decide +kernel) rfl rfl rfl (by decide +kernel)
set_option maxRecDepth 65536 in
theorem w_c22 : (Jvm.Cond.code ({ cls := "java/lang/StringUTF16", name := "coderFromArrayLen", desc := "([BI)B" } : Jvm.MethodName) jdk_52_method_15_code (2 : Nat) (Option.some Jvm.ClassFile.FieldType.byte)).before args0 about1 = true := code_word (m := ⟨13, 1⟩) (meth := k13m1) (c := k13c1) (by decide +kernel) rfl rfl rfl (by decide +kernel)
set_option maxRecDepth 65536 in
theorem w_c23 : (Jvm.Cond.code ({ cls := "java/lang/StringLatin1", name := "indexOfChar", desc := "([BIII)I" } : Jvm.MethodName) jdk_43_method_23_code (6 : Nat) (Option.some Jvm.ClassFile.FieldType.int)).before args0 about1 = true := code_word (m := ⟨11, 4⟩) (meth := k11m4) (c := k11c4) (by decide +kernel) rfl rfl rfl (by decide +kernel)
set_option maxRecDepth 65536 in
theorem w_c24 : (Jvm.Cond.code ({ cls := "java/lang/String", name := "substring", desc := "(II)Ljava/lang/String;" } : Jvm.MethodName) jdk_42_method_92_code (5 : Nat) (Option.some (Jvm.ClassFile.FieldType.object "java/lang/String"))).before args0 about1 = true := code_word (m := ⟨7, 6⟩) (meth := k7m6) (c := k7c6) (by decide +kernel) rfl rfl rfl (by decide +kernel)
set_option maxRecDepth 65536 in
theorem w_c25 : (Jvm.Cond.code ({ cls := "java/lang/String", name := "checkBoundsBeginEnd", desc := "(III)V" } : Jvm.MethodName) jdk_42_method_158_code (3 : Nat) (Option.none : Option Jvm.ClassFile.FieldType)).before args0 about1 = true := code_word (m := ⟨7, 12⟩) (meth := k7m12) (c := k7c12) (by decide +kernel) rfl rfl rfl (by decide +kernel)
set_option maxRecDepth 65536 in
theorem w_c26 : (Jvm.Cond.code ({ cls := "jdk/internal/util/Preconditions", name := "checkFromToIndex", desc := "(IIILjava/util/function/BiFunction;)I" } : Jvm.MethodName) jdk_41_method_12_code (4 : Nat) (Option.some Jvm.ClassFile.FieldType.int)).before args0 about1 = true := code_word (m := ⟨14, 2⟩) (meth := k14m2) (c := k14c2) (by decide +kernel) rfl rfl rfl (by decide +kernel)
set_option maxRecDepth 65536 in
theorem w_c27 : (Jvm.Cond.code ({ cls := "java/lang/StringLatin1", name := "newString", desc := "([BII)Ljava/lang/String;" } : Jvm.MethodName) jdk_43_method_47_code (3 : Nat) (Option.some (Jvm.ClassFile.FieldType.object "java/lang/String"))).before args0 about1 = true := code_word (m := ⟨11, 5⟩) (meth := k11m5) (c := k11c5) (by decide +kernel) rfl rfl rfl (by decide +kernel)
set_option maxRecDepth 65536 in
theorem w_c28 : (Jvm.Cond.code ({ cls := "java/util/Arrays", name := "copyOfRange", desc := "([BII)[B" } : Jvm.MethodName) jdk_65_method_132_code (3 : Nat) (Option.some (Jvm.ClassFile.FieldType.array Jvm.ClassFile.FieldType.byte))).before args0 about1 = true := code_word (m := ⟨15, 2⟩) (meth := k15m2) (c := k15c2) (by decide +kernel) rfl rfl rfl (by decide +kernel)
set_option maxRecDepth 65536 in
theorem w_c29 : (Jvm.Cond.code ({ cls := "java/util/Arrays", name := "copyOfRangeByte", desc := "([BII)[B" } : Jvm.MethodName) jdk_65_method_133_code (5 : Nat) (Option.some (Jvm.ClassFile.FieldType.array Jvm.ClassFile.FieldType.byte))).before args0 about1 = true := code_word (m := ⟨15, 3⟩) (meth := k15m3) (c := k15c3) (by decide +kernel) rfl rfl rfl (by decide +kernel)
set_option maxRecDepth 65536 in
theorem w_c30 : (Jvm.Cond.code ({ cls := "java/util/Arrays", name := "checkLength", desc := "(II)V" } : Jvm.MethodName) jdk_65_method_131_code (2 : Nat) (Option.none : Option Jvm.ClassFile.FieldType)).before args0 about1 = true := code_word (m := ⟨15, 1⟩) (meth := k15m1) (c := k15c1) (by decide +kernel) rfl rfl rfl (by decide +kernel)
set_option maxRecDepth 65536 in
theorem w_c31 : (Jvm.Cond.code ({ cls := "java/lang/String", name := "<init>", desc := "([BB)V" } : Jvm.MethodName) jdk_42_method_151_code (3 : Nat) (Option.none : Option Jvm.ClassFile.FieldType)).before args0 about1 = true := code_word (m := ⟨7, 8⟩) (meth := k7m8) (c := k7c8) (by decide +kernel) rfl rfl rfl (by decide +kernel)
set_option maxRecDepth 65536 in
theorem w_c32 : (Jvm.Cond.code ({ cls := "java/lang/String", name := "charAt", desc := "(I)C" } : Jvm.MethodName) jdk_42_method_56_code (2 : Nat) (Option.some Jvm.ClassFile.FieldType.char)).before args0 about1 = true := code_word (m := ⟨7, 3⟩) (meth := k7m3) (c := k7c3) (by decide +kernel) rfl rfl rfl (by decide +kernel)
set_option maxRecDepth 65536 in
theorem w_c33 : (Jvm.Cond.code ({ cls := "java/lang/StringLatin1", name := "charAt", desc := "([BI)C" } : Jvm.MethodName) jdk_43_method_2_code (2 : Nat) (Option.some Jvm.ClassFile.FieldType.char)).before args0 about1 = true := code_word (m := ⟨11, 1⟩) (meth := k11m1) (c := k11c1) (by decide +kernel) rfl rfl rfl (by decide +kernel)
set_option maxRecDepth 65536 in
theorem w_c34 : (Jvm.Cond.code ({ cls := "java/lang/String", name := "checkIndex", desc := "(II)V" } : Jvm.MethodName) jdk_42_method_155_code (2 : Nat) (Option.none : Option Jvm.ClassFile.FieldType)).before args0 about1 = true := code_word (m := ⟨7, 11⟩) (meth := k7m11) (c := k7c11) (by decide +kernel) rfl rfl rfl (by decide +kernel)
set_option maxRecDepth 65536 in
theorem w_c35 : (Jvm.Cond.code ({ cls := "jdk/internal/util/Preconditions", name := "checkIndex", desc := "(IILjava/util/function/BiFunction;)I" } : Jvm.MethodName) jdk_41_method_11_code (3 : Nat) (Option.some Jvm.ClassFile.FieldType.int)).before args0 about1 = true := code_word (m := ⟨14, 1⟩) (meth := k14m1) (c := k14c1) (by decide +kernel) rfl rfl rfl (by decide +kernel)
def codes1 : List Jvm.Cond := [Jvm.Cond.code x code maxLocals ret, Jvm.Cond.code ({ cls := "com/example/bindery/bindery/compiler/JavaTypeOuterNamePinLaw", name := "pick", desc := "(III)C" } : Jvm.MethodName) method_3_code (3 : Nat) (Option.some Jvm.ClassFile.FieldType.char), Jvm.Cond.code ({ cls := "com/example/bindery/bindery/compiler/JavaTypeOuterNamePinLaw", name := "make", desc := "(ICCCC)Ljava/lang/String;" } : Jvm.MethodName) method_4_code (5 : Nat) (Option.some (Jvm.ClassFile.FieldType.object "java/lang/String")), Jvm.Cond.code ({ cls := "java/lang/String", name := "<init>", desc := "([C)V" } : Jvm.MethodName) jdk_42_method_3_code (2 : Nat) (Option.none : Option Jvm.ClassFile.FieldType), Jvm.Cond.code ({ cls := "java/lang/String", name := "<init>", desc := "([CIILjava/lang/Void;)V" } : Jvm.MethodName) jdk_42_method_149_code (6 : Nat) (Option.none : Option Jvm.ClassFile.FieldType), Jvm.Cond.code ({ cls := "java/lang/Object", name := "<init>", desc := "()V" } : Jvm.MethodName) object_method_1_code (1 : Nat) (Option.none : Option Jvm.ClassFile.FieldType), Jvm.Cond.code ({ cls := "com/example/bindery/bindery/compiler/JavaType", name := "<init>", desc := "(Ljava/lang/String;Ljava/lang/String;)V" } : Jvm.MethodName) prog_5_method_1_code (3 : Nat) (Option.none : Option Jvm.ClassFile.FieldType), Jvm.Cond.code ({ cls := "java/util/Optional", name := "empty", desc := "()Ljava/util/Optional;" } : Jvm.MethodName) jdk_32_method_1_code (1 : Nat) (Option.some (Jvm.ClassFile.FieldType.object "java/util/Optional")), Jvm.Cond.code ({ cls := "com/example/bindery/bindery/compiler/JavaType", name := "<init>", desc := "(Ljava/lang/String;Ljava/lang/String;Ljava/util/Optional;)V" } : Jvm.MethodName) prog_5_method_2_code (4 : Nat) (Option.none : Option Jvm.ClassFile.FieldType), Jvm.Cond.code ({ cls := "java/lang/Record", name := "<init>", desc := "()V" } : Jvm.MethodName) jdk_30_method_1_code (1 : Nat) (Option.none : Option Jvm.ClassFile.FieldType), Jvm.Cond.code ({ cls := "com/example/bindery/bindery/compiler/JavaType", name := "outerName", desc := "()Ljava/lang/String;" } : Jvm.MethodName) prog_5_method_9_code (2 : Nat) (Option.some (Jvm.ClassFile.FieldType.object "java/lang/String")), Jvm.Cond.code ({ cls := "java/lang/String", name := "indexOf", desc := "(I)I" } : Jvm.MethodName) jdk_42_method_79_code (2 : Nat) (Option.some Jvm.ClassFile.FieldType.int), Jvm.Cond.code ({ cls := "java/lang/String", name := "indexOf", desc := "(II)I" } : Jvm.MethodName) jdk_42_method_80_code (3 : Nat) (Option.some Jvm.ClassFile.FieldType.int), Jvm.Cond.code ({ cls := "java/lang/String", name := "isLatin1", desc := "()Z" } : Jvm.MethodName) jdk_42_method_154_code (1 : Nat) (Option.some Jvm.ClassFile.FieldType.boolean), Jvm.Cond.code ({ cls := "java/lang/String", name := "length", desc := "()I" } : Jvm.MethodName) jdk_42_method_54_code (1 : Nat) (Option.some Jvm.ClassFile.FieldType.int), Jvm.Cond.code ({ cls := "java/lang/String", name := "coder", desc := "()B" } : Jvm.MethodName) jdk_42_method_152_code (1 : Nat) (Option.some Jvm.ClassFile.FieldType.byte), Jvm.Cond.code ({ cls := "java/lang/StringLatin1", name := "indexOf", desc := "([BIII)I" } : Jvm.MethodName) jdk_43_method_22_code (4 : Nat) (Option.some Jvm.ClassFile.FieldType.int), Jvm.Cond.code ({ cls := "java/lang/StringLatin1", name := "canEncode", desc := "(I)Z" } : Jvm.MethodName) jdk_43_method_4_code (1 : Nat) (Option.some Jvm.ClassFile.FieldType.boolean), Jvm.Cond.code ({ cls := "java/lang/Math", name := "max", desc := "(II)I" } : Jvm.MethodName) jdk_29_method_65_code (2 : Nat) (Option.some Jvm.ClassFile.FieldType.int), Jvm.Cond.code ({ cls := "java/lang/Math", name := "min", desc := "(II)I" } : Jvm.MethodName) jdk_29_method_69_code (2 : Nat) (Option.some Jvm.ClassFile.FieldType.int), Jvm.Cond.code ({ cls := "java/lang/StringUTF16", name := "compress", desc := "([CII)[B" } : Jvm.MethodName) jdk_52_method_16_code (6 : Nat) (Option.some (Jvm.ClassFile.FieldType.array Jvm.ClassFile.FieldType.byte)), Jvm.Cond.code ({ cls := "java/lang/StringUTF16", name := "compress", desc := "([CI[BII)I" } : Jvm.MethodName) jdk_52_method_21_code (7 : Nat) (Option.some Jvm.ClassFile.FieldType.int), Jvm.Cond.code ({ cls := "java/lang/StringUTF16", name := "coderFromArrayLen", desc := "([BI)B" } : Jvm.MethodName) jdk_52_method_15_code (2 : Nat) (Option.some Jvm.ClassFile.FieldType.byte), Jvm.Cond.code ({ cls := "java/lang/StringLatin1", name := "indexOfChar", desc := "([BIII)I" } : Jvm.MethodName) jdk_43_method_23_code (6 : Nat) (Option.some Jvm.ClassFile.FieldType.int), Jvm.Cond.code ({ cls := "java/lang/String", name := "substring", desc := "(II)Ljava/lang/String;" } : Jvm.MethodName) jdk_42_method_92_code (5 : Nat) (Option.some (Jvm.ClassFile.FieldType.object "java/lang/String")), Jvm.Cond.code ({ cls := "java/lang/String", name := "checkBoundsBeginEnd", desc := "(III)V" } : Jvm.MethodName) jdk_42_method_158_code (3 : Nat) (Option.none : Option Jvm.ClassFile.FieldType), Jvm.Cond.code ({ cls := "jdk/internal/util/Preconditions", name := "checkFromToIndex", desc := "(IIILjava/util/function/BiFunction;)I" } : Jvm.MethodName) jdk_41_method_12_code (4 : Nat) (Option.some Jvm.ClassFile.FieldType.int), Jvm.Cond.code ({ cls := "java/lang/StringLatin1", name := "newString", desc := "([BII)Ljava/lang/String;" } : Jvm.MethodName) jdk_43_method_47_code (3 : Nat) (Option.some (Jvm.ClassFile.FieldType.object "java/lang/String")), Jvm.Cond.code ({ cls := "java/util/Arrays", name := "copyOfRange", desc := "([BII)[B" } : Jvm.MethodName) jdk_65_method_132_code (3 : Nat) (Option.some (Jvm.ClassFile.FieldType.array Jvm.ClassFile.FieldType.byte)), Jvm.Cond.code ({ cls := "java/util/Arrays", name := "copyOfRangeByte", desc := "([BII)[B" } : Jvm.MethodName) jdk_65_method_133_code (5 : Nat) (Option.some (Jvm.ClassFile.FieldType.array Jvm.ClassFile.FieldType.byte)), Jvm.Cond.code ({ cls := "java/util/Arrays", name := "checkLength", desc := "(II)V" } : Jvm.MethodName) jdk_65_method_131_code (2 : Nat) (Option.none : Option Jvm.ClassFile.FieldType), Jvm.Cond.code ({ cls := "java/lang/String", name := "<init>", desc := "([BB)V" } : Jvm.MethodName) jdk_42_method_151_code (3 : Nat) (Option.none : Option Jvm.ClassFile.FieldType), Jvm.Cond.code ({ cls := "java/lang/String", name := "charAt", desc := "(I)C" } : Jvm.MethodName) jdk_42_method_56_code (2 : Nat) (Option.some Jvm.ClassFile.FieldType.char), Jvm.Cond.code ({ cls := "java/lang/StringLatin1", name := "charAt", desc := "([BI)C" } : Jvm.MethodName) jdk_43_method_2_code (2 : Nat) (Option.some Jvm.ClassFile.FieldType.char), Jvm.Cond.code ({ cls := "java/lang/String", name := "checkIndex", desc := "(II)V" } : Jvm.MethodName) jdk_42_method_155_code (2 : Nat) (Option.none : Option Jvm.ClassFile.FieldType), Jvm.Cond.code ({ cls := "jdk/internal/util/Preconditions", name := "checkIndex", desc := "(IILjava/util/function/BiFunction;)I" } : Jvm.MethodName) jdk_41_method_11_code (3 : Nat) (Option.some Jvm.ClassFile.FieldType.int)]
set_option maxRecDepth 65536 in
theorem codes_eq : words1.filter isCode = codes1 := rfl
theorem w_codes : ∀ c ∈ words1.filter isCode, c.before args0 about1 = true := by
  rw [codes_eq]
  intro c hc
  simp only [codes1, List.mem_cons, List.not_mem_nil, or_false] at hc
  rcases hc with rfl | rfl | rfl | rfl | rfl | rfl | rfl | rfl | rfl | rfl | rfl | rfl | rfl | rfl | rfl | rfl | rfl | rfl | rfl | rfl | rfl | rfl | rfl | rfl | rfl | rfl | rfl | rfl | rfl | rfl | rfl | rfl | rfl | rfl | rfl | rfl
  · exact w_c0
  · exact w_c1
  · exact w_c2
  · exact w_c3
  · exact w_c4
  · exact w_c5
  · exact w_c6
  · exact w_c7
  · exact w_c8
  · exact w_c9
  · exact w_c10
  · exact w_c11
  · exact w_c12
  · exact w_c13
  · exact w_c14
  · exact w_c15
  · exact w_c16
  · exact w_c17
  · exact w_c18
  · exact w_c19
  · exact w_c20
  · exact w_c21
  · exact w_c22
  · exact w_c23
  · exact w_c24
  · exact w_c25
  · exact w_c26
  · exact w_c27
  · exact w_c28
  · exact w_c29
  · exact w_c30
  · exact w_c31
  · exact w_c32
  · exact w_c33
  · exact w_c34
  · exact w_c35
set_option maxRecDepth 65536 in
theorem w_t1 : (words1.take 24).all (fun c => isCode c || c.before args0 about1) = true := by decide +kernel
set_option maxRecDepth 65536 in
theorem w_t2 : ((words1.drop 24).take 24).all (fun c => isCode c || c.before args0 about1) = true := by decide +kernel
set_option maxRecDepth 65536 in
theorem w_t3 : (((words1.drop 24).drop 24).take 24).all (fun c => isCode c || c.before args0 about1) = true := by decide +kernel
set_option maxRecDepth 65536 in
theorem w_t4 : ((((words1.drop 24).drop 24).drop 24).take 24).all (fun c => isCode c || c.before args0 about1) = true := by decide +kernel
set_option maxRecDepth 65536 in
theorem w_t5 : (((((words1.drop 24).drop 24).drop 24).drop 24).take 24).all (fun c => isCode c || c.before args0 about1) = true := by decide +kernel
set_option maxRecDepth 65536 in
theorem w_t6 : ((((((words1.drop 24).drop 24).drop 24).drop 24).drop 24).take 24).all (fun c => isCode c || c.before args0 about1) = true := by decide +kernel
set_option maxRecDepth 65536 in
theorem w_t7 : ((((((words1.drop 24).drop 24).drop 24).drop 24).drop 24).drop 24).all (fun c => isCode c || c.before args0 about1) = true := by decide +kernel
theorem w_tables : (allAtoms (Jvm.Cond.code x code maxLocals ret :: tables_1)).before args0 about1 = true := by
  rw [allAtoms_all]
  show words1.all (fun c => c.before args0 about1) = true
  refine all_split ?_ w_codes
  rw [← List.take_append_drop 24 words1, List.all_append, w_t1, ← List.take_append_drop 24 (words1.drop 24), List.all_append, w_t2, ← List.take_append_drop 24 ((words1.drop 24).drop 24), List.all_append, w_t3, ← List.take_append_drop 24 (((words1.drop 24).drop 24).drop 24), List.all_append, w_t4, ← List.take_append_drop 24 ((((words1.drop 24).drop 24).drop 24).drop 24), List.all_append, w_t5, ← List.take_append_drop 24 (((((words1.drop 24).drop 24).drop 24).drop 24).drop 24), List.all_append, w_t6, w_t7]
  rfl
set_option maxRecDepth 65536 in
theorem w_rest : rest_1_c.before args0 about1 = true := by decide +kernel
set_option maxRecDepth 65536 in
theorem w_case : (Jvm.Cond.and given_1 narrow_1).before args0 about1 = true := by decide +kernel
set_option maxRecDepth 65536 in
theorem w_consts : constsHeld consts_1 about1 := Jvm.Lit.constsHeldB_iff.mp (by decide +kernel)
theorem w_applies : (headSpec (Jvm.Cond.code x code maxLocals ret :: tables_1) room_1).applies x e0.platform about1 = true :=
  (Spec.applies_iff w_frames).mpr ⟨w_running, w_runnable, w_alone, w_named, w_hears, w_ripe, w_room, w_tables⟩
theorem atStart : AtStart classFile x code maxLocals ret World_1 tables_1 room_1 Calls_1 rest_1 Pre_1 launch0 p0 e0 about1 theMethod args0 below0 :=
  ⟨lists_1, trivial, launch0.admits_env _ _ _, launch0.least_env, fairChoices_fair.cas, fairChoices_fair.clock, w_frames, w_args, w_heap, w_applies, ⟨w_consts, trivial⟩, w_rest, w_case⟩
end start1
theorem witness_1 : WitnessClaimed_1 := ⟨start1.p0, start1.e0, start1.about1, start1.theMethod, start1.args0, start1.below0, start1.atStart⟩
end Jvm.Pilot.@@N@@
